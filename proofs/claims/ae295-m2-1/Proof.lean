import JvmDerived
import JvmDerived.Pilot.@@N@@Statement
import JvmDerived.Pilot.@@N@@Code
set_option linter.unusedVariables false
set_option linter.unusedSimpArgs false
namespace Jvm.Pilot.@@N@@
open Jvm Jvm.ClassFile Sem Op Lib Jvm.Free Jvm.Stand Jvm.LawKit Jvm.RoadKit Bundle Jvm.Pilot.@@N@@.Jvm.D
/-- from the frame g at T the run reaches a state of which P holds -/
def own_Go (p : Program) (e : Env) (below : List Frame) (P : State → Outcome → Prop) (T : State) (g : JFrame) : Prop := ∃ t o, Steps p.tables e below (T.setTop g) t ∧ P t o
/-- the run has left the method: what it returned, the heap and the places written are as Q says -/
def own_P (s : State) (below : List Frame) (R : Room) (Q : Option Value → Heap → List Loc → Prop) (t : State) (o : Outcome) : Prop := t.status = .running ∧ Ended t below o ∧ ∃ v L, o = .returned v ∧ Q v t.heap L ∧ FrameEnd s o t L R.cells R.slots
section OwnKit
variable {p : Program} {l : Launch} {e : Env} {R : Room} {s : State} {m : MethodId} {args : Array Value} {below : List Frame} {meth : Method} {c : Code} {T T' : State} {locs : List Loc} {cells slots : Nat} {P : State → Outcome → Prop} {g g' : JFrame}
theorem own_by (k : ∀ t, Steps p.tables e below (T'.setTop g') t → Steps p.tables e below (T.setTop g) t) (h : own_Go p e below P T' g') : own_Go p e below P T g := by
  obtain ⟨t, o, st, q⟩ := h
  exact ⟨t, o, k t st, q⟩
theorem own_via (k : Steps p.tables e below (T.setTop g) (T'.setTop g')) (h : own_Go p e below P T' g') : own_Go p e below P T g := own_by (fun _ st => k.trans st) h
theorem own_in (q : g = g') (h : own_Go p e below P T g') : own_Go p e below P T g := q ▸ h
theorem own_out {v : Option Value} {Q : Option Value → Heap → List Loc → Prop} (X : Stand p l e R s m args below meth c T locs cells slots) (hv : meth.sig.returnType = none → v = none) (hlk : meth.locks = false) (hc : cells ≤ R.cells) (hs : slots ≤ R.slots) (q : Q v T.heap locs)
    (k : ∀ fs, (∀ (f : JFrame) (acts : List Action), f.method = m → f.locked = none → f.entered = [] → (doReturn e (T.setTop f) acts v).1 = T.setFrames fs) → Steps p.tables e below (T.setTop g) (T.setFrames fs)) : own_Go p e below (own_P s below R Q) T g := by
  obtain ⟨fs, hr, hrun, hended, hW, hsame⟩ := X.leave (v := v) hv hlk
  exact ⟨_, _, k fs hr, hrun, hended, _, _, rfl, q, ⟨_, rfl⟩, hW, hsame.mono hc hs⟩
theorem own_some {t : FieldType} {w : Value} (h : meth.sig.returnType = some t) : meth.sig.returnType = none → some w = none := fun q => by rw [h] at q; cases q
theorem own_retN {pc : Nat} {Ls : Array Slot} {z : Int32} {t : FieldType} {rest : List Value} {Q : Option Value → Heap → List Loc → Prop} (X : Stand p l e R s m args below meth c T locs cells slots) (hx : p.tables.exec = Jvm.exec) (hret : meth.sig.returnType = some t) (ht : t = .boolean ∨ t = .byte ∨ t = .char ∨ t = .short)
    (hd : decode c.code pc = .ok (.ireturn, 1)) (hlk : meth.locks = false) (hc : cells ≤ R.cells) (hs : slots ≤ R.slots) (q : Q (some (.int (nar t z))) T.heap locs) : own_Go p e below (own_P s below R Q) T (mkF m pc Ls (.int z :: rest)) :=
  own_out X (own_some hret) hlk hc hs q fun _ hr => retN X hx hret ht hd hr
theorem own_retI {pc : Nat} {Ls : Array Slot} {z : Int32} {rest : List Value} {Q : Option Value → Heap → List Loc → Prop} (X : Stand p l e R s m args below meth c T locs cells slots) (hx : p.tables.exec = Jvm.exec) (hret : meth.sig.returnType = some .int)
    (hd : decode c.code pc = .ok (.ireturn, 1)) (hlk : meth.locks = false) (hc : cells ≤ R.cells) (hs : slots ≤ R.slots) (q : Q (some (.int z)) T.heap locs) : own_Go p e below (own_P s below R Q) T (mkF m pc Ls (.int z :: rest)) :=
  own_out X (own_some hret) hlk hc hs q fun _ hr => retOut X hx hret rfl (Or.inl ⟨rfl, Or.inl rfl, _, rfl⟩) hd hr
theorem own_retJ {pc : Nat} {Ls : Array Slot} {z : Int64} {rest : List Value} {Q : Option Value → Heap → List Loc → Prop} (X : Stand p l e R s m args below meth c T locs cells slots) (hx : p.tables.exec = Jvm.exec) (hret : meth.sig.returnType = some .long)
    (hd : decode c.code pc = .ok (.lreturn, 1)) (hlk : meth.locks = false) (hc : cells ≤ R.cells) (hs : slots ≤ R.slots) (q : Q (some (.long z)) T.heap locs) : own_Go p e below (own_P s below R Q) T (mkF m pc Ls (.long z :: rest)) :=
  own_out X (own_some hret) hlk hc hs q fun _ hr => retOut X hx hret rfl (Or.inr (Or.inl ⟨rfl, rfl, _, rfl⟩)) hd hr
theorem own_retR {pc : Nat} {Ls : Array Slot} {w : Value} {t : FieldType} {rest : List Value} {Q : Option Value → Heap → List Loc → Prop} (X : Stand p l e R s m args below meth c T locs cells slots) (hx : p.tables.exec = Jvm.exec) (hret : meth.sig.returnType = some t) (ht : t.isReference = true) (hw : w.isRef = true) (hn : narrow t w = w)
    (hd : decode c.code pc = .ok (.areturn, 1)) (hlk : meth.locks = false) (hc : cells ≤ R.cells) (hs : slots ≤ R.slots) (q : Q (some w) T.heap locs) : own_Go p e below (own_P s below R Q) T (mkF m pc Ls (w :: rest)) :=
  own_out X (own_some hret) hlk hc hs q fun _ hr => retOut X hx hret hn (Or.inr (Or.inr (Or.inr (Or.inr ⟨rfl, ht, hw⟩)))) hd hr
theorem own_ret0 {pc : Nat} {Ls : Array Slot} {Q : Option Value → Heap → List Loc → Prop} (X : Stand p l e R s m args below meth c T locs cells slots) (hx : p.tables.exec = Jvm.exec) (hret : meth.sig.returnType = none)
    (hd : decode c.code pc = .ok (.return_, 1)) (hlk : meth.locks = false) (hc : cells ≤ R.cells) (hs : slots ≤ R.slots) (q : Q none T.heap locs) : own_Go p e below (own_P s below R Q) T (mkF m pc Ls []) :=
  own_out X (fun _ => rfl) hlk hc hs q fun _ hr => X.returnOut hx hret hd hr
theorem own_fitsR {C : String} {v : Value} (h : v.isRef = true) : fits (.object C) v = true := by
  cases v <;> first | rfl | (simp [Value.isRef] at h)
theorem own_tab (xs : List Int32) (d : Int32) (k : Nat) : (xs.map Value.int).getD k (.int d) = .int (xs.getD k d) := by
  simp only [List.getD_eq_getElem?_getD, List.getElem?_map]
  cases xs[k]? <;> rfl
end OwnKit
theorem d2_0 : decode jdk_30_method_1_code 0 = .ok (.aload_n 0, 1) := by decide +kernel
theorem d2_1 : decode jdk_30_method_1_code 1 = .ok (.invokespecial 1, 3) := by decide +kernel
theorem d2_4 : decode jdk_30_method_1_code 4 = .ok (.return_, 1) := by decide +kernel
theorem pn_java_lang_Record : plainName "java/lang/Record" = true := by first | (simp [plainName, overriddenIn]; done) | decide +kernel
theorem own_ef2 (m : MethodId) (x0 : Addr) : entryFrame m #[(.ref x0)] 1 = mkF m 0 #[.val (.ref x0)] [] := by first | (simp [entryFrame, mkF, argsToLocals, Value.category]; done) | rfl
def own_Q2 (Z : State) (a2_0 : Addr) (h0 : Heap) (n0 : Nat) (v : Option Value) (h : Heap) (L : List Loc) : Prop := v = none ∧ Fr n0 L ∧ Keep h0 h []
set_option maxRecDepth 65536 in
set_option maxHeartbeats 40000000 in
theorem own_rm2 (l : Launch) (Z : State) (a0 : Array Value) (hw : ∀ d ∈ tables_1, d.before a0 Z = true) (ws : List Jvm.Cond) (a2_0 : Addr) (h0 : Heap) (n0 : Nat) (Z0 : n0 ≤ h0.size) :
    MetFree l (⟨"java/lang/Record", "<init>", "()V"⟩ : MethodName) (head1 (Jvm.Cond.code (⟨"java/lang/Record", "<init>", "()V"⟩ : MethodName) jdk_30_method_1_code 1 none :: ws) ({ frames := 1, cells := 0, slots := 0, locals := 12 } : Room)) (fun a U => a = #[(.ref a2_0)] ∧ Z.Warmed39 U.vm ∧ U.heap = h0) (fun _ _ _ _ _ => True) (fun _ U o U' => ∃ v L, o = .returned v ∧ own_Q2 Z a2_0 h0 n0 v U'.heap L ∧ FrameEnd U o U' L ({ frames := 1, cells := 0, slots := 0, locals := 12 } : Room).cells ({ frames := 1, cells := 0, slots := 0, locals := 12 } : Room).slots) := by
  refine MetFree.of_bodySF (plainFor_of_name pn_java_lang_Record) hisR ?_
  intro p e s m args below meth c s₁ Bd hml0 hP hK
  obtain ⟨rfl, hZ, hh⟩ := hP
  have hx := Bd.exec
  have hby := Bd.bytes
  have hlk : meth.locks = false := BodyLoose.notSynchronized Bd
  have hml : c.maxLocals = 1 := hml0
  have hown : s.vm.findClass "java/lang/Record" = some m.cls := findClass_of_methodNamed Bd.named
  have hnm := (name_of_methodNamed Bd.named Bd.method).1
  have X0 : Stand p l e ({ frames := 1, cells := 0, slots := 0, locals := 12 } : Room) s m #[(.ref a2_0)] below meth c s₁ [] 0 0 := Stand.of_body Bd
  have e0 : s₁.heap = h0 := by rw [← hh, Bd.state]; rfl
  have N0 := Fr.nil n0
  show own_Go p e below (own_P s below ({ frames := 1, cells := 0, slots := 0, locals := 12 } : Room) (own_Q2 Z a2_0 h0 n0)) s₁ (entryFrame m #[(.ref a2_0)] 1)
  refine own_in (own_ef2 m a2_0) ?_
  refine own_by (T' := s₁) (g' := (mkF m 1 #[.val (.ref a2_0)] [(.ref a2_0)])) (fun t k => ?_) ?_
  · show Steps p.tables e below (s₁.setTop (mkF m 0 #[.val (.ref a2_0)] [])) t
    refine XS.aloadN X0.here hx rfl (hb hby d2_0) rfl rfl ?_
    show Steps p.tables e below (s₁.setTop (mkF m 1 #[.val (.ref a2_0)] [(.ref a2_0)])) t
    exact k
  obtain ⟨T1, X1, e1, st1⟩ := initO X0 hx hZ hown (hw _ (List.mem_of_getElem? (i := 11) rfl)) (hw _ (List.mem_of_getElem? (i := 12) rfl)) (hw _ (List.mem_of_getElem? (i := 13) rfl)) e0 (g := (mkF m 1 #[.val (.ref a2_0)] [(.ref a2_0)])) rfl (by rw [hml]; rfl) rfl (hb hby d2_1) (by decide) (W := 0) (by show 2 * 0 + _ ≤ _; exact Nat.le_of_eq rfl) (by decide)
  refine own_by (T' := T1) (g' := (mkF m 4 #[.val (.ref a2_0)] [])) st1 ?_
  exact own_ret0 X1 hx Bd.returns (hb hby d2_4) hlk (by decide) (by decide) (by rw [e1]; exact ⟨rfl, N0, (Keep.refl h0 [])⟩)
theorem d1_0 : decode prog_47_method_1_code 0 = .ok (.aload_n 0, 1) := by decide +kernel
theorem d1_1 : decode prog_47_method_1_code 1 = .ok (.invokespecial 1, 3) := by decide +kernel
theorem pd___V : parseMethodDescriptor "()V" = some ⟨[], none⟩ := by decide +kernel
theorem d1_4 : decode prog_47_method_1_code 4 = .ok (.aload_n 0, 1) := by decide +kernel
theorem d1_5 : decode prog_47_method_1_code 5 = .ok (.iload_n 1, 1) := by decide +kernel
theorem d1_6 : decode prog_47_method_1_code 6 = .ok (.putfield 7, 3) := by decide +kernel
theorem d1_9 : decode prog_47_method_1_code 9 = .ok (.return_, 1) := by decide +kernel
theorem pn_com_example_rundown_rundown_llvm_Type_IntegerType : plainName "com/example/rundown/rundown/llvm/Type$IntegerType" = true := by first | (simp [plainName, overriddenIn]; done) | decide +kernel
theorem own_ef1 (m : MethodId) (x0 : Addr) (x1 : Int32) : entryFrame m #[(.ref x0), (.int x1)] 2 = mkF m 0 #[.val (.ref x0), .val (.int x1)] [] := by first | (simp [entryFrame, mkF, argsToLocals, Value.category]; done) | rfl
def own_Q1 (Z : State) (a1_0 : Addr) (p1_1 : Int32) (u_bits_a1_0 : Value) (h0 : Heap) (n0 : Nat) (v : Option Value) (h : Heap) (L : List Loc) : Prop := v = none ∧ Fr n0 L ∧ Keep h0 h [a1_0] ∧ Exa Z h a1_0 "com/example/rundown/rundown/llvm/Type$IntegerType" ∧ Fld Z h a1_0 "com/example/rundown/rundown/llvm/Type$IntegerType" "bits" "I" (.int p1_1)
set_option maxRecDepth 65536 in
set_option maxHeartbeats 40000000 in
theorem own_rm1 (l : Launch) (Z : State) (a0 : Array Value) (hw : ∀ d ∈ tables_1, d.before a0 Z = true) (ws : List Jvm.Cond) (a1_0 : Addr) (p1_1 : Int32) (u_bits_a1_0 : Value) (h0 : Heap) (n0 : Nat) (Z0 : n0 ≤ h0.size) (E_a1_0 : Exa Z h0 a1_0 "com/example/rundown/rundown/llvm/Type$IntegerType") (F_bits_a1_0 : Fld Z h0 a1_0 "com/example/rundown/rundown/llvm/Type$IntegerType" "bits" "I" u_bits_a1_0) (ge_a1_0 : n0 ≤ a1_0) :
    MetFree l (⟨"com/example/rundown/rundown/llvm/Type$IntegerType", "<init>", "(I)V"⟩ : MethodName) (head1 (Jvm.Cond.code (⟨"com/example/rundown/rundown/llvm/Type$IntegerType", "<init>", "(I)V"⟩ : MethodName) prog_47_method_1_code 2 none :: ws) ({ frames := 2, cells := 0, slots := 0, locals := 24 } : Room)) (fun a U => a = #[(.ref a1_0), (.int p1_1)] ∧ Z.Warmed39 U.vm ∧ U.heap = h0) (fun _ _ _ _ _ => True) (fun _ U o U' => ∃ v L, o = .returned v ∧ own_Q1 Z a1_0 p1_1 u_bits_a1_0 h0 n0 v U'.heap L ∧ FrameEnd U o U' L ({ frames := 2, cells := 0, slots := 0, locals := 24 } : Room).cells ({ frames := 2, cells := 0, slots := 0, locals := 24 } : Room).slots) := by
  refine MetFree.of_bodySF (plainFor_of_name pn_com_example_rundown_rundown_llvm_Type_IntegerType) hisR ?_
  intro p e s m args below meth c s₁ Bd hml0 hP hK
  obtain ⟨rfl, hZ, hh⟩ := hP
  have hx := Bd.exec
  have hby := Bd.bytes
  have hlk : meth.locks = false := BodyLoose.notSynchronized Bd
  have hml : c.maxLocals = 2 := hml0
  have hown : s.vm.findClass "com/example/rundown/rundown/llvm/Type$IntegerType" = some m.cls := findClass_of_methodNamed Bd.named
  have hnm := (name_of_methodNamed Bd.named Bd.method).1
  have X0 : Stand p l e ({ frames := 2, cells := 0, slots := 0, locals := 24 } : Room) s m #[(.ref a1_0), (.int p1_1)] below meth c s₁ [] 0 0 := Stand.of_body Bd
  have e0 : s₁.heap = h0 := by rw [← hh, Bd.state]; rfl
  have N0 := Fr.nil n0
  show own_Go p e below (own_P s below ({ frames := 2, cells := 0, slots := 0, locals := 24 } : Room) (own_Q1 Z a1_0 p1_1 u_bits_a1_0 h0 n0)) s₁ (entryFrame m #[(.ref a1_0), (.int p1_1)] 2)
  refine own_in (own_ef1 m a1_0 p1_1) ?_
  refine own_by (T' := s₁) (g' := (mkF m 1 #[.val (.ref a1_0), .val (.int p1_1)] [(.ref a1_0)])) (fun t k => ?_) ?_
  · show Steps p.tables e below (s₁.setTop (mkF m 0 #[.val (.ref a1_0), .val (.int p1_1)] [])) t
    refine XS.aloadN X0.here hx rfl (hb hby d1_0) rfl rfl ?_
    show Steps p.tables e below (s₁.setTop (mkF m 1 #[.val (.ref a1_0), .val (.int p1_1)] [(.ref a1_0)])) t
    exact k
  obtain ⟨v2, _, ⟨T2, L2, k2, n2⟩, -, X2, ⟨Lc2, hQ2, l2, y2, z2⟩, st2⟩ := X0.specialBack hx (y := (⟨"java/lang/Record", "<init>", "()V"⟩ : MethodName)) rfl hown (mvT hZ (hw _ (List.mem_of_getElem? (i := 6) rfl))) (mvT hZ (hw _ (List.mem_of_getElem? (i := 7) rfl))) (mvT hZ (hw _ (List.mem_of_getElem? (i := 10) rfl))) (by decide) (backOf (W := 0) (own_rm2 l Z a0 hw [] a1_0 h0 n0 Z0) hZ (hw _ (List.mem_of_getElem? (i := 10) rfl)) (hw _ (List.mem_of_getElem? (i := 9) rfl)) (by decide) (by decide)) (g := (mkF m 1 #[.val (.ref a1_0), .val (.int p1_1)] [(.ref a1_0)])) rfl (by rw [hml]; rfl) (Steps.refl _) (a := a1_0) (argsL := []) (rest := []) (lenOf pd___V rfl) rfl (by show 2 * 0 + _ ≤ _; exact Nat.le_of_eq rfl) (hb hby d1_1) (fun _ _ => ⟨rfl, e0, (by decide : 0 + 0 ≤ _), (by decide : 0 + 0 ≤ _)⟩)
  dsimp only [Pt.U, Pt.locs, Pt.cells, Pt.slots] at X2 l2 y2 z2 st2 hQ2
  subst l2 y2 z2
  obtain ⟨rfl, M2, K2⟩ := hQ2
  have f3 := E_a1_0.keep K2
  have f4 := F_bits_a1_0.keep K2 nin0
  have K5 : Keep h0 T2.heap [a1_0] := (Keep.refl h0 [a1_0]).trans K2 all0
  have Z6 := Nat.le_trans Z0 K2.1
  have N7 := Fr.app N0 M2
  refine own_via (T' := T2) (g' := (mkF m 4 #[.val (.ref a1_0), .val (.int p1_1)] [])) st2 ?_
  refine own_by (T' := T2) (g' := (mkF m 6 #[.val (.ref a1_0), .val (.int p1_1)] [(.int p1_1), (.ref a1_0)])) (fun t k => ?_) ?_
  · show Steps p.tables e below (T2.setTop (mkF m 4 #[.val (.ref a1_0), .val (.int p1_1)] [])) t
    refine XS.aloadN X2.here hx rfl (hb hby d1_4) rfl rfl ?_
    show Steps p.tables e below (T2.setTop (mkF m 5 #[.val (.ref a1_0), .val (.int p1_1)] [(.ref a1_0)])) t
    refine XS.iloadN X2.here hx rfl (hb hby d1_5) rfl ?_
    show Steps p.tables e below (T2.setTop (mkF m 6 #[.val (.ref a1_0), .val (.int p1_1)] [(.int p1_1), (.ref a1_0)])) t
    exact k
  obtain ⟨T8, h8, X8, e8, W8, st8⟩ := putF X2 hx hZ hown (host := "") (Or.inl (hw _ (List.mem_of_getElem? (i := 14) rfl))) Via.refl rfl f4 f3 (Or.inr ⟨(hw _ (List.mem_of_getElem? (i := 15) rfl)), rfl, hnm⟩) (hw _ (List.mem_of_getElem? (i := 1) rfl)) (ty := .int) (by decide) rfl rfl (g := (mkF m 6 #[.val (.ref a1_0), .val (.int p1_1)] [(.int p1_1), (.ref a1_0)])) rfl rfl (hb hby d1_6)
  have f9 := f4.same W8
  have f10 := f3.wr W8
  have K12 : Keep h0 h8 [a1_0] := K5.wr W8 (Or.inl (List.mem_of_getElem? (i := 0) rfl))
  have N13 := Fr.snoc X8 N7 ge_a1_0
  have Z14 := (Nat.le_trans Z6 (Keep.of_wr W8).1)
  refine own_by (T' := T8) (g' := (mkF m 9 #[.val (.ref a1_0), .val (.int p1_1)] [])) st8 ?_
  exact own_ret0 X8 hx Bd.returns (hb hby d1_9) hlk (by decide) (by decide) (by rw [e8]; exact ⟨rfl, N13, K12, f10, f9⟩)
theorem d4_0 : decode prog_47_method_3_code 0 = .ok (.aload_n 0, 1) := by decide +kernel
theorem d4_1 : decode prog_47_method_3_code 1 = .ok (.getfield 7, 3) := by decide +kernel
theorem d4_4 : decode prog_47_method_3_code 4 = .ok (.sipush 128, 3) := by decide +kernel
theorem d4_7 : decode prog_47_method_3_code 7 = .ok (.if_icmp .gt 7, 3) := by decide +kernel
theorem d4_14 : decode prog_47_method_3_code 14 = .ok (.iconst 0, 1) := by decide +kernel
theorem d4_10 : decode prog_47_method_3_code 10 = .ok (.iconst 1, 1) := by decide +kernel
theorem d4_11 : decode prog_47_method_3_code 11 = .ok (.goto 4, 3) := by decide +kernel
theorem d4_15 : decode prog_47_method_3_code 15 = .ok (.ireturn, 1) := by decide +kernel
def own_F4 (w_bits_a4_0 : Int32) : Int32 := (if (128 : Int32) < w_bits_a4_0 then (0 : Int32) else (1 : Int32))
theorem own_ef4 (m : MethodId) (x0 : Addr) : entryFrame m #[(.ref x0)] 1 = mkF m 0 #[.val (.ref x0)] [] := by first | (simp [entryFrame, mkF, argsToLocals, Value.category]; done) | rfl
def own_Q4 (r : Int32) (h0 : Heap) (n0 : Nat) (v : Option Value) (h : Heap) (L : List Loc) : Prop := v = some (.int r) ∧ Fr n0 L ∧ h = h0
set_option maxRecDepth 65536 in
set_option maxHeartbeats 40000000 in
theorem own_rm4 (l : Launch) (Z : State) (a0 : Array Value) (hw : ∀ d ∈ tables_1, d.before a0 Z = true) (ws : List Jvm.Cond) (a4_0 : Addr) (w_bits_a4_0 : Int32) (h0 : Heap) (n0 : Nat) (Z0 : n0 ≤ h0.size) (F_bits_a4_0 : Fld Z h0 a4_0 "com/example/rundown/rundown/llvm/Type$IntegerType" "bits" "I" (.int w_bits_a4_0)) :
    MetFree l (⟨"com/example/rundown/rundown/llvm/Type$IntegerType", "isSized", "()Z"⟩ : MethodName) (head1 (Jvm.Cond.code (⟨"com/example/rundown/rundown/llvm/Type$IntegerType", "isSized", "()Z"⟩ : MethodName) prog_47_method_3_code 1 (some .boolean) :: ws) ({ frames := 0, cells := 0, slots := 0, locals := 0 } : Room)) (fun a U => a = #[(.ref a4_0)] ∧ Z.Warmed39 U.vm ∧ U.heap = h0) (fun _ _ _ _ _ => True) (fun _ U o U' => ∃ v L, o = .returned v ∧ own_Q4 (own_F4 w_bits_a4_0) h0 n0 v U'.heap L ∧ FrameEnd U o U' L ({ frames := 0, cells := 0, slots := 0, locals := 0 } : Room).cells ({ frames := 0, cells := 0, slots := 0, locals := 0 } : Room).slots) := by
  refine MetFree.of_bodySF (plainFor_of_name pn_com_example_rundown_rundown_llvm_Type_IntegerType) hisR ?_
  intro p e s m args below meth c s₁ Bd hml0 hP hK
  obtain ⟨rfl, hZ, hh⟩ := hP
  have hx := Bd.exec
  have hby := Bd.bytes
  have hlk : meth.locks = false := BodyLoose.notSynchronized Bd
  have hml : c.maxLocals = 1 := hml0
  have hown : s.vm.findClass "com/example/rundown/rundown/llvm/Type$IntegerType" = some m.cls := findClass_of_methodNamed Bd.named
  have hnm := (name_of_methodNamed Bd.named Bd.method).1
  have X0 : Stand p l e ({ frames := 0, cells := 0, slots := 0, locals := 0 } : Room) s m #[(.ref a4_0)] below meth c s₁ [] 0 0 := Stand.of_body Bd
  have e0 : s₁.heap = h0 := by rw [← hh, Bd.state]; rfl
  have N0 := Fr.nil n0
  show own_Go p e below (own_P s below ({ frames := 0, cells := 0, slots := 0, locals := 0 } : Room) (own_Q4 (own_F4 w_bits_a4_0) h0 n0)) s₁ (entryFrame m #[(.ref a4_0)] 1)
  refine own_in (own_ef4 m a4_0) ?_
  refine own_by (T' := s₁) (g' := (mkF m 1 #[.val (.ref a4_0)] [(.ref a4_0)])) (fun t k => ?_) ?_
  · show Steps p.tables e below (s₁.setTop (mkF m 0 #[.val (.ref a4_0)] [])) t
    refine XS.aloadN X0.here hx rfl (hb hby d4_0) rfl rfl ?_
    show Steps p.tables e below (s₁.setTop (mkF m 1 #[.val (.ref a4_0)] [(.ref a4_0)])) t
    exact k
  obtain ⟨T15, X15, e15, st15⟩ := getF X0 hx hZ hown (host := "") (Or.inl (hw _ (List.mem_of_getElem? (i := 14) rfl))) Via.refl e0 F_bits_a4_0 (g := (mkF m 1 #[.val (.ref a4_0)] [(.ref a4_0)])) rfl rfl (hb hby d4_1)
  refine own_by (T' := T15) (g' := (mkF m 4 #[.val (.ref a4_0)] [(.int w_bits_a4_0)])) st15 ?_
  refine own_by (T' := T15) (g' := (mkF m 7 #[.val (.ref a4_0)] [(.int (128 : Int32)), (.int w_bits_a4_0)])) (fun t k => ?_) ?_
  · show Steps p.tables e below (T15.setTop (mkF m 4 #[.val (.ref a4_0)] [(.int w_bits_a4_0)])) t
    refine XS.sipush X15.here hx rfl (hb hby d4_4) ?_
    show Steps p.tables e below (T15.setTop (mkF m 7 #[.val (.ref a4_0)] [(.int (128 : Int32)), (.int w_bits_a4_0)])) t
    exact k
  by_cases hc16 : (128 : Int32) < w_bits_a4_0
  · skip
    refine own_by (T' := T15) (g' := (mkF m 15 #[.val (.ref a4_0)] [(.int (0 : Int32))])) (fun t k => ?_) ?_
    · show Steps p.tables e below (T15.setTop (mkF m 7 #[.val (.ref a4_0)] [(.int (128 : Int32)), (.int w_bits_a4_0)])) t
      refine XS.icmpYes X15.here hx rfl (pc0 := 7) (pc' := 14) rfl (hb hby d4_7) rfl (tlt hc16).2.2.1 (by decide) (by decide) ?_
      show Steps p.tables e below (T15.setTop (mkF m 14 #[.val (.ref a4_0)] [])) t
      refine XS.iconst X15.here hx rfl (hb hby d4_14) ?_
      show Steps p.tables e below (T15.setTop (mkF m 15 #[.val (.ref a4_0)] [(.int (0 : Int32))])) t
      exact k
    rw [show own_F4 w_bits_a4_0 = (0 : Int32) from ((if_pos hc16).trans rfl)]
    exact own_retN X15 hx (t := .boolean) Bd.returns (by simp) (hb hby d4_15) hlk (by decide) (by decide) ⟨rfl, N0, e15⟩
  · skip
    refine own_by (T' := T15) (g' := (mkF m 15 #[.val (.ref a4_0)] [(.int (1 : Int32))])) (fun t k => ?_) ?_
    · show Steps p.tables e below (T15.setTop (mkF m 7 #[.val (.ref a4_0)] [(.int (128 : Int32)), (.int w_bits_a4_0)])) t
      refine XS.icmpNo X15.here hx rfl (hb hby d4_7) rfl (flt hc16).2.2.1 ?_
      show Steps p.tables e below (T15.setTop (mkF m 10 #[.val (.ref a4_0)] [])) t
      refine XS.iconst X15.here hx rfl (hb hby d4_10) ?_
      show Steps p.tables e below (T15.setTop (mkF m 11 #[.val (.ref a4_0)] [(.int (1 : Int32))])) t
      refine XS.goto X15.here hx rfl (pc0 := 11) (pc' := 15) rfl (hb hby d4_11) (by decide) (by decide) ?_
      show Steps p.tables e below (T15.setTop (mkF m 15 #[.val (.ref a4_0)] [(.int (1 : Int32))])) t
      exact k
    rw [show own_F4 w_bits_a4_0 = (1 : Int32) from ((if_neg hc16).trans rfl)]
    exact own_retN X15 hx (t := .boolean) Bd.returns (by simp) (hb hby d4_15) hlk (by decide) (by decide) ⟨rfl, N0, e15⟩
theorem d5_0 : decode prog_47_method_2_code 0 = .ok (.aload_n 0, 1) := by decide +kernel
theorem d5_1 : decode prog_47_method_2_code 1 = .ok (.getfield 7, 3) := by decide +kernel
theorem d5_4 : decode prog_47_method_2_code 4 = .ok (.bipush 7, 2) := by decide +kernel
theorem d5_6 : decode prog_47_method_2_code 6 = .ok (.iadd, 1) := by decide +kernel
theorem d5_7 : decode prog_47_method_2_code 7 = .ok (.bipush 8, 2) := by decide +kernel
theorem d5_9 : decode prog_47_method_2_code 9 = .ok (.idiv, 1) := by decide +kernel
theorem d5_10 : decode prog_47_method_2_code 10 = .ok (.i2l, 1) := by decide +kernel
theorem d5_11 : decode prog_47_method_2_code 11 = .ok (.lreturn, 1) := by decide +kernel
def own_F5 (w_bits_a5_0 : Int32) : Int64 := (((w_bits_a5_0 + (7 : Int32)) / (8 : Int32)).toInt64)
theorem own_ef5 (m : MethodId) (x0 : Addr) : entryFrame m #[(.ref x0)] 1 = mkF m 0 #[.val (.ref x0)] [] := by first | (simp [entryFrame, mkF, argsToLocals, Value.category]; done) | rfl
def own_Q5 (r : Int64) (h0 : Heap) (n0 : Nat) (v : Option Value) (h : Heap) (L : List Loc) : Prop := v = some (.long r) ∧ Fr n0 L ∧ h = h0
set_option maxRecDepth 65536 in
set_option maxHeartbeats 40000000 in
theorem own_rm5 (l : Launch) (Z : State) (a0 : Array Value) (hw : ∀ d ∈ tables_1, d.before a0 Z = true) (ws : List Jvm.Cond) (a5_0 : Addr) (w_bits_a5_0 : Int32) (h0 : Heap) (n0 : Nat) (Z0 : n0 ≤ h0.size) (F_bits_a5_0 : Fld Z h0 a5_0 "com/example/rundown/rundown/llvm/Type$IntegerType" "bits" "I" (.int w_bits_a5_0)) :
    MetFree l (⟨"com/example/rundown/rundown/llvm/Type$IntegerType", "storeSize", "()J"⟩ : MethodName) (head1 (Jvm.Cond.code (⟨"com/example/rundown/rundown/llvm/Type$IntegerType", "storeSize", "()J"⟩ : MethodName) prog_47_method_2_code 1 (some .long) :: ws) ({ frames := 0, cells := 0, slots := 0, locals := 0 } : Room)) (fun a U => a = #[(.ref a5_0)] ∧ Z.Warmed39 U.vm ∧ U.heap = h0) (fun _ _ _ _ _ => True) (fun _ U o U' => ∃ v L, o = .returned v ∧ own_Q5 (own_F5 w_bits_a5_0) h0 n0 v U'.heap L ∧ FrameEnd U o U' L ({ frames := 0, cells := 0, slots := 0, locals := 0 } : Room).cells ({ frames := 0, cells := 0, slots := 0, locals := 0 } : Room).slots) := by
  refine MetFree.of_bodySF (plainFor_of_name pn_com_example_rundown_rundown_llvm_Type_IntegerType) hisR ?_
  intro p e s m args below meth c s₁ Bd hml0 hP hK
  obtain ⟨rfl, hZ, hh⟩ := hP
  have hx := Bd.exec
  have hby := Bd.bytes
  have hlk : meth.locks = false := BodyLoose.notSynchronized Bd
  have hml : c.maxLocals = 1 := hml0
  have hown : s.vm.findClass "com/example/rundown/rundown/llvm/Type$IntegerType" = some m.cls := findClass_of_methodNamed Bd.named
  have hnm := (name_of_methodNamed Bd.named Bd.method).1
  have X0 : Stand p l e ({ frames := 0, cells := 0, slots := 0, locals := 0 } : Room) s m #[(.ref a5_0)] below meth c s₁ [] 0 0 := Stand.of_body Bd
  have e0 : s₁.heap = h0 := by rw [← hh, Bd.state]; rfl
  have N0 := Fr.nil n0
  show own_Go p e below (own_P s below ({ frames := 0, cells := 0, slots := 0, locals := 0 } : Room) (own_Q5 (own_F5 w_bits_a5_0) h0 n0)) s₁ (entryFrame m #[(.ref a5_0)] 1)
  refine own_in (own_ef5 m a5_0) ?_
  refine own_by (T' := s₁) (g' := (mkF m 1 #[.val (.ref a5_0)] [(.ref a5_0)])) (fun t k => ?_) ?_
  · show Steps p.tables e below (s₁.setTop (mkF m 0 #[.val (.ref a5_0)] [])) t
    refine XS.aloadN X0.here hx rfl (hb hby d5_0) rfl rfl ?_
    show Steps p.tables e below (s₁.setTop (mkF m 1 #[.val (.ref a5_0)] [(.ref a5_0)])) t
    exact k
  obtain ⟨T17, X17, e17, st17⟩ := getF X0 hx hZ hown (host := "") (Or.inl (hw _ (List.mem_of_getElem? (i := 14) rfl))) Via.refl e0 F_bits_a5_0 (g := (mkF m 1 #[.val (.ref a5_0)] [(.ref a5_0)])) rfl rfl (hb hby d5_1)
  refine own_by (T' := T17) (g' := (mkF m 4 #[.val (.ref a5_0)] [(.int w_bits_a5_0)])) st17 ?_
  refine own_by (T' := T17) (g' := (mkF m 11 #[.val (.ref a5_0)] [(.long (((w_bits_a5_0 + (7 : Int32)) / (8 : Int32)).toInt64))])) (fun t k => ?_) ?_
  · show Steps p.tables e below (T17.setTop (mkF m 4 #[.val (.ref a5_0)] [(.int w_bits_a5_0)])) t
    refine XS.bipush X17.here hx rfl (hb hby d5_4) ?_
    show Steps p.tables e below (T17.setTop (mkF m 6 #[.val (.ref a5_0)] [(.int (7 : Int32)), (.int w_bits_a5_0)])) t
    refine XS.iadd X17.here hx rfl (hb hby d5_6) rfl ?_
    show Steps p.tables e below (T17.setTop (mkF m 7 #[.val (.ref a5_0)] [(.int (w_bits_a5_0 + (7 : Int32)))])) t
    refine XS.bipush X17.here hx rfl (hb hby d5_7) ?_
    show Steps p.tables e below (T17.setTop (mkF m 9 #[.val (.ref a5_0)] [(.int (8 : Int32)), (.int (w_bits_a5_0 + (7 : Int32)))])) t
    refine XS.idiv X17.here hx rfl (hb hby d5_9) rfl (by decide) ?_
    show Steps p.tables e below (T17.setTop (mkF m 10 #[.val (.ref a5_0)] [(.int ((w_bits_a5_0 + (7 : Int32)) / (8 : Int32)))])) t
    refine XS.i2l X17.here hx rfl (hb hby d5_10) rfl ?_
    show Steps p.tables e below (T17.setTop (mkF m 11 #[.val (.ref a5_0)] [(.long (((w_bits_a5_0 + (7 : Int32)) / (8 : Int32)).toInt64))])) t
    exact k
  rw [show own_F5 w_bits_a5_0 = (((w_bits_a5_0 + (7 : Int32)) / (8 : Int32)).toInt64) from rfl]
  exact own_retJ X17 hx Bd.returns (hb hby d5_11) hlk (by decide) (by decide) ⟨rfl, N0, e17⟩
theorem d10_0 : decode jdk_33_method_47_code 0 = .ok (.iload_n 0, 1) := by decide +kernel
theorem d10_1 : decode jdk_33_method_47_code 1 = .ok (.ifCond .gt 14, 3) := by decide +kernel
theorem d10_15 : decode jdk_33_method_47_code 15 = .ok (.bipush 31, 2) := by decide +kernel
theorem d10_17 : decode jdk_33_method_47_code 17 = .ok (.istore_n 1, 1) := by decide +kernel
theorem d10_18 : decode jdk_33_method_47_code 18 = .ok (.iload_n 0, 1) := by decide +kernel
theorem d10_19 : decode jdk_33_method_47_code 19 = .ok (.ldc_w 264, 3) := by decide +kernel
theorem d10_22 : decode jdk_33_method_47_code 22 = .ok (.if_icmp .lt 11, 3) := by decide +kernel
theorem d10_25 : decode jdk_33_method_47_code 25 = .ok (.iinc 1 (-16), 3) := by decide +kernel
theorem d10_28 : decode jdk_33_method_47_code 28 = .ok (.iload_n 0, 1) := by decide +kernel
theorem d10_29 : decode jdk_33_method_47_code 29 = .ok (.bipush 16, 2) := by decide +kernel
theorem d10_31 : decode jdk_33_method_47_code 31 = .ok (.iushr, 1) := by decide +kernel
theorem d10_32 : decode jdk_33_method_47_code 32 = .ok (.istore_n 0, 1) := by decide +kernel
theorem d10_33 : decode jdk_33_method_47_code 33 = .ok (.iload_n 0, 1) := by decide +kernel
theorem d10_34 : decode jdk_33_method_47_code 34 = .ok (.sipush 256, 3) := by decide +kernel
theorem d10_37 : decode jdk_33_method_47_code 37 = .ok (.if_icmp .lt 11, 3) := by decide +kernel
theorem d10_40 : decode jdk_33_method_47_code 40 = .ok (.iinc 1 (-8), 3) := by decide +kernel
theorem d10_43 : decode jdk_33_method_47_code 43 = .ok (.iload_n 0, 1) := by decide +kernel
theorem d10_44 : decode jdk_33_method_47_code 44 = .ok (.bipush 8, 2) := by decide +kernel
theorem d10_46 : decode jdk_33_method_47_code 46 = .ok (.iushr, 1) := by decide +kernel
theorem d10_47 : decode jdk_33_method_47_code 47 = .ok (.istore_n 0, 1) := by decide +kernel
theorem d10_48 : decode jdk_33_method_47_code 48 = .ok (.iload_n 0, 1) := by decide +kernel
theorem d10_49 : decode jdk_33_method_47_code 49 = .ok (.bipush 16, 2) := by decide +kernel
theorem d10_51 : decode jdk_33_method_47_code 51 = .ok (.if_icmp .lt 10, 3) := by decide +kernel
theorem d10_54 : decode jdk_33_method_47_code 54 = .ok (.iinc 1 (-4), 3) := by decide +kernel
theorem d10_57 : decode jdk_33_method_47_code 57 = .ok (.iload_n 0, 1) := by decide +kernel
theorem d10_58 : decode jdk_33_method_47_code 58 = .ok (.iconst 4, 1) := by decide +kernel
theorem d10_59 : decode jdk_33_method_47_code 59 = .ok (.iushr, 1) := by decide +kernel
theorem d10_60 : decode jdk_33_method_47_code 60 = .ok (.istore_n 0, 1) := by decide +kernel
theorem d10_61 : decode jdk_33_method_47_code 61 = .ok (.iload_n 0, 1) := by decide +kernel
theorem d10_62 : decode jdk_33_method_47_code 62 = .ok (.iconst 4, 1) := by decide +kernel
theorem d10_63 : decode jdk_33_method_47_code 63 = .ok (.if_icmp .lt 10, 3) := by decide +kernel
theorem d10_66 : decode jdk_33_method_47_code 66 = .ok (.iinc 1 (-2), 3) := by decide +kernel
theorem d10_69 : decode jdk_33_method_47_code 69 = .ok (.iload_n 0, 1) := by decide +kernel
theorem d10_70 : decode jdk_33_method_47_code 70 = .ok (.iconst 2, 1) := by decide +kernel
theorem d10_71 : decode jdk_33_method_47_code 71 = .ok (.iushr, 1) := by decide +kernel
theorem d10_72 : decode jdk_33_method_47_code 72 = .ok (.istore_n 0, 1) := by decide +kernel
theorem d10_73 : decode jdk_33_method_47_code 73 = .ok (.iload_n 1, 1) := by decide +kernel
theorem d10_74 : decode jdk_33_method_47_code 74 = .ok (.iload_n 0, 1) := by decide +kernel
theorem d10_75 : decode jdk_33_method_47_code 75 = .ok (.iconst 1, 1) := by decide +kernel
theorem d10_76 : decode jdk_33_method_47_code 76 = .ok (.iushr, 1) := by decide +kernel
theorem d10_77 : decode jdk_33_method_47_code 77 = .ok (.isub, 1) := by decide +kernel
theorem d10_78 : decode jdk_33_method_47_code 78 = .ok (.ireturn, 1) := by decide +kernel
theorem d10_4 : decode jdk_33_method_47_code 4 = .ok (.iload_n 0, 1) := by decide +kernel
theorem d10_5 : decode jdk_33_method_47_code 5 = .ok (.ifCond .ne 8, 3) := by decide +kernel
theorem d10_8 : decode jdk_33_method_47_code 8 = .ok (.bipush 32, 2) := by decide +kernel
theorem d10_10 : decode jdk_33_method_47_code 10 = .ok (.goto 4, 3) := by decide +kernel
theorem d10_13 : decode jdk_33_method_47_code 13 = .ok (.iconst 0, 1) := by decide +kernel
theorem d10_14 : decode jdk_33_method_47_code 14 = .ok (.ireturn, 1) := by decide +kernel
theorem pn_java_lang_Integer : plainName "java/lang/Integer" = true := by first | (simp [plainName, overriddenIn]; done) | decide +kernel
def own_F10_61_3 (p10_0 : Int32) (i20 : Int32) (i21 : Int32) (i24 : Int32) (i25 : Int32) (i28 : Int32) (i29 : Int32) : Int32 := (if i28 < (4 : Int32) then (i29 - ((i28.toUInt32 >>> ((1 : Int32) &&& 31).toUInt32).toInt32)) else ((i29 + (-2 : Int32)) - ((((i28.toUInt32 >>> ((2 : Int32) &&& 31).toUInt32).toInt32).toUInt32 >>> ((1 : Int32) &&& 31).toUInt32).toInt32)))
def own_F10_48_2 (p10_0 : Int32) (i20 : Int32) (i21 : Int32) (i24 : Int32) (i25 : Int32) : Int32 := (if i24 < (16 : Int32) then (own_F10_61_3 p10_0 i20 i21 i24 i25 i24 i25) else (own_F10_61_3 p10_0 i20 i21 i24 i25 ((i24.toUInt32 >>> ((4 : Int32) &&& 31).toUInt32).toInt32) (i25 + (-4 : Int32))))
def own_F10_33_1 (p10_0 : Int32) (i20 : Int32) (i21 : Int32) : Int32 := (if i20 < (256 : Int32) then (own_F10_48_2 p10_0 i20 i21 i20 i21) else (own_F10_48_2 p10_0 i20 i21 ((i20.toUInt32 >>> ((8 : Int32) &&& 31).toUInt32).toInt32) (i21 + (-8 : Int32))))
def own_F10 (p10_0 : Int32) : Int32 := (if (0 : Int32) < p10_0 then (if p10_0 < (65536 : Int32) then (own_F10_33_1 p10_0 p10_0 (31 : Int32)) else (own_F10_33_1 p10_0 ((p10_0.toUInt32 >>> ((16 : Int32) &&& 31).toUInt32).toInt32) (15 : Int32))) else (if p10_0 = (0 : Int32) then (32 : Int32) else (0 : Int32)))
theorem own_ef10 (m : MethodId) (x0 : Int32) : entryFrame m #[(.int x0)] 2 = mkF m 0 #[.val (.int x0), .unset] [] := by first | (simp [entryFrame, mkF, argsToLocals, Value.category]; done) | rfl
def own_Q10 (r : Int32) (h0 : Heap) (n0 : Nat) (v : Option Value) (h : Heap) (L : List Loc) : Prop := v = some (.int r) ∧ Fr n0 L ∧ h = h0
set_option maxRecDepth 65536 in
set_option maxHeartbeats 40000000 in
theorem own_rm10 (l : Launch) (Z : State) (a0 : Array Value) (hw : ∀ d ∈ tables_1, d.before a0 Z = true) (ws : List Jvm.Cond) (p10_0 : Int32) (h0 : Heap) (n0 : Nat) (Z0 : n0 ≤ h0.size) :
    MetFree l (⟨"java/lang/Integer", "numberOfLeadingZeros", "(I)I"⟩ : MethodName) (head1 (Jvm.Cond.code (⟨"java/lang/Integer", "numberOfLeadingZeros", "(I)I"⟩ : MethodName) jdk_33_method_47_code 2 (some .int) :: ws) ({ frames := 0, cells := 0, slots := 0, locals := 0 } : Room)) (fun a U => a = #[(.int p10_0)] ∧ Z.Warmed39 U.vm ∧ U.heap = h0) (fun _ _ _ _ _ => True) (fun _ U o U' => ∃ v L, o = .returned v ∧ own_Q10 (own_F10 p10_0) h0 n0 v U'.heap L ∧ FrameEnd U o U' L ({ frames := 0, cells := 0, slots := 0, locals := 0 } : Room).cells ({ frames := 0, cells := 0, slots := 0, locals := 0 } : Room).slots) := by
  refine MetFree.of_bodySF (plainFor_of_name pn_java_lang_Integer) hisR ?_
  intro p e s m args below meth c s₁ Bd hml0 hP hK
  obtain ⟨rfl, hZ, hh⟩ := hP
  have hx := Bd.exec
  have hby := Bd.bytes
  have hlk : meth.locks = false := BodyLoose.notSynchronized Bd
  have hml : c.maxLocals = 2 := hml0
  have hown : s.vm.findClass "java/lang/Integer" = some m.cls := findClass_of_methodNamed Bd.named
  have hnm := (name_of_methodNamed Bd.named Bd.method).1
  have X0 : Stand p l e ({ frames := 0, cells := 0, slots := 0, locals := 0 } : Room) s m #[(.int p10_0)] below meth c s₁ [] 0 0 := Stand.of_body Bd
  have e0 : s₁.heap = h0 := by rw [← hh, Bd.state]; rfl
  have N0 := Fr.nil n0
  show own_Go p e below (own_P s below ({ frames := 0, cells := 0, slots := 0, locals := 0 } : Room) (own_Q10 (own_F10 p10_0) h0 n0)) s₁ (entryFrame m #[(.int p10_0)] 2)
  refine own_in (own_ef10 m p10_0) ?_
  refine own_by (T' := s₁) (g' := (mkF m 1 #[.val (.int p10_0), .unset] [(.int p10_0)])) (fun t k => ?_) ?_
  · show Steps p.tables e below (s₁.setTop (mkF m 0 #[.val (.int p10_0), .unset] [])) t
    refine XS.iloadN X0.here hx rfl (hb hby d10_0) rfl ?_
    show Steps p.tables e below (s₁.setTop (mkF m 1 #[.val (.int p10_0), .unset] [(.int p10_0)])) t
    exact k
  by_cases hc18 : (0 : Int32) < p10_0
  · skip
    refine own_by (T' := s₁) (g' := (mkF m 22 #[.val (.int p10_0), .val (.int (31 : Int32))] [(.int (65536 : Int32)), (.int p10_0)])) (fun t k => ?_) ?_
    · show Steps p.tables e below (s₁.setTop (mkF m 1 #[.val (.int p10_0), .unset] [(.int p10_0)])) t
      refine XS.ifYes X0.here hx rfl (pc0 := 1) (pc' := 15) rfl (hb hby d10_1) rfl ((if0 _ _).trans (tlt hc18).2.2.1) (by decide) (by decide) ?_
      show Steps p.tables e below (s₁.setTop (mkF m 15 #[.val (.int p10_0), .unset] [])) t
      refine XS.bipush X0.here hx rfl (hb hby d10_15) ?_
      show Steps p.tables e below (s₁.setTop (mkF m 17 #[.val (.int p10_0), .unset] [(.int (31 : Int32))])) t
      refine XS.istoreN X0.here hx rfl (hb hby d10_17) rfl (l' := #[.val (.int p10_0), .val (.int (31 : Int32))]) rfl ?_
      show Steps p.tables e below (s₁.setTop (mkF m 18 #[.val (.int p10_0), .val (.int (31 : Int32))] [])) t
      refine XS.iloadN X0.here hx rfl (hb hby d10_18) rfl ?_
      show Steps p.tables e below (s₁.setTop (mkF m 19 #[.val (.int p10_0), .val (.int (31 : Int32))] [(.int p10_0)])) t
      refine X0.ldcwInt hx hown (mvT hZ (hw _ (List.mem_of_getElem? (i := 57) rfl))) (g := (mkF m 19 #[.val (.int p10_0), .val (.int (31 : Int32))] [(.int p10_0)])) rfl (hb hby d10_19) _ ?_
      show Steps p.tables e below (s₁.setTop (mkF m 22 #[.val (.int p10_0), .val (.int (31 : Int32))] [(.int (65536 : Int32)), (.int p10_0)])) t
      exact k
    have J10_1 : ∀ (T22 : State) (L22 : List Loc) (i20 : Int32) (i21 : Int32), Stand p l e ({ frames := 0, cells := 0, slots := 0, locals := 0 } : Room) s m #[(.int p10_0)] below meth c T22 L22 0 0 → T22.heap = h0 → Fr n0 L22 → own_Go p e below (own_P s below ({ frames := 0, cells := 0, slots := 0, locals := 0 } : Room) (own_Q10 (own_F10_33_1 p10_0 i20 i21) h0 n0)) T22 (mkF m 33 #[.val (.int i20), .val (.int i21)] []) := by
      intro T22 L22 i20 i21 X22 e22 N22
      refine own_by (T' := T22) (g' := (mkF m 37 #[.val (.int i20), .val (.int i21)] [(.int (256 : Int32)), (.int i20)])) (fun t k => ?_) ?_
      · show Steps p.tables e below (T22.setTop (mkF m 33 #[.val (.int i20), .val (.int i21)] [])) t
        refine XS.iloadN X22.here hx rfl (hb hby d10_33) rfl ?_
        show Steps p.tables e below (T22.setTop (mkF m 34 #[.val (.int i20), .val (.int i21)] [(.int i20)])) t
        refine XS.sipush X22.here hx rfl (hb hby d10_34) ?_
        show Steps p.tables e below (T22.setTop (mkF m 37 #[.val (.int i20), .val (.int i21)] [(.int (256 : Int32)), (.int i20)])) t
        exact k
      have J10_2 : ∀ (T26 : State) (L26 : List Loc) (i24 : Int32) (i25 : Int32), Stand p l e ({ frames := 0, cells := 0, slots := 0, locals := 0 } : Room) s m #[(.int p10_0)] below meth c T26 L26 0 0 → T26.heap = h0 → Fr n0 L26 → own_Go p e below (own_P s below ({ frames := 0, cells := 0, slots := 0, locals := 0 } : Room) (own_Q10 (own_F10_48_2 p10_0 i20 i21 i24 i25) h0 n0)) T26 (mkF m 48 #[.val (.int i24), .val (.int i25)] []) := by
        intro T26 L26 i24 i25 X26 e26 N26
        refine own_by (T' := T26) (g' := (mkF m 51 #[.val (.int i24), .val (.int i25)] [(.int (16 : Int32)), (.int i24)])) (fun t k => ?_) ?_
        · show Steps p.tables e below (T26.setTop (mkF m 48 #[.val (.int i24), .val (.int i25)] [])) t
          refine XS.iloadN X26.here hx rfl (hb hby d10_48) rfl ?_
          show Steps p.tables e below (T26.setTop (mkF m 49 #[.val (.int i24), .val (.int i25)] [(.int i24)])) t
          refine XS.bipush X26.here hx rfl (hb hby d10_49) ?_
          show Steps p.tables e below (T26.setTop (mkF m 51 #[.val (.int i24), .val (.int i25)] [(.int (16 : Int32)), (.int i24)])) t
          exact k
        have J10_3 : ∀ (T30 : State) (L30 : List Loc) (i28 : Int32) (i29 : Int32), Stand p l e ({ frames := 0, cells := 0, slots := 0, locals := 0 } : Room) s m #[(.int p10_0)] below meth c T30 L30 0 0 → T30.heap = h0 → Fr n0 L30 → own_Go p e below (own_P s below ({ frames := 0, cells := 0, slots := 0, locals := 0 } : Room) (own_Q10 (own_F10_61_3 p10_0 i20 i21 i24 i25 i28 i29) h0 n0)) T30 (mkF m 61 #[.val (.int i28), .val (.int i29)] []) := by
          intro T30 L30 i28 i29 X30 e30 N30
          refine own_by (T' := T30) (g' := (mkF m 63 #[.val (.int i28), .val (.int i29)] [(.int (4 : Int32)), (.int i28)])) (fun t k => ?_) ?_
          · show Steps p.tables e below (T30.setTop (mkF m 61 #[.val (.int i28), .val (.int i29)] [])) t
            refine XS.iloadN X30.here hx rfl (hb hby d10_61) rfl ?_
            show Steps p.tables e below (T30.setTop (mkF m 62 #[.val (.int i28), .val (.int i29)] [(.int i28)])) t
            refine XS.iconst X30.here hx rfl (hb hby d10_62) ?_
            show Steps p.tables e below (T30.setTop (mkF m 63 #[.val (.int i28), .val (.int i29)] [(.int (4 : Int32)), (.int i28)])) t
            exact k
          by_cases hc31 : i28 < (4 : Int32)
          · skip
            refine own_by (T' := T30) (g' := (mkF m 78 #[.val (.int i28), .val (.int i29)] [(.int (i29 - ((i28.toUInt32 >>> ((1 : Int32) &&& 31).toUInt32).toInt32)))])) (fun t k => ?_) ?_
            · show Steps p.tables e below (T30.setTop (mkF m 63 #[.val (.int i28), .val (.int i29)] [(.int (4 : Int32)), (.int i28)])) t
              refine XS.icmpYes X30.here hx rfl (pc0 := 63) (pc' := 73) rfl (hb hby d10_63) rfl (tlt hc31).1 (by decide) (by decide) ?_
              show Steps p.tables e below (T30.setTop (mkF m 73 #[.val (.int i28), .val (.int i29)] [])) t
              refine XS.iloadN X30.here hx rfl (hb hby d10_73) rfl ?_
              show Steps p.tables e below (T30.setTop (mkF m 74 #[.val (.int i28), .val (.int i29)] [(.int i29)])) t
              refine XS.iloadN X30.here hx rfl (hb hby d10_74) rfl ?_
              show Steps p.tables e below (T30.setTop (mkF m 75 #[.val (.int i28), .val (.int i29)] [(.int i28), (.int i29)])) t
              refine XS.iconst X30.here hx rfl (hb hby d10_75) ?_
              show Steps p.tables e below (T30.setTop (mkF m 76 #[.val (.int i28), .val (.int i29)] [(.int (1 : Int32)), (.int i28), (.int i29)])) t
              refine XS.iushr X30.here hx rfl (hb hby d10_76) rfl ?_
              show Steps p.tables e below (T30.setTop (mkF m 77 #[.val (.int i28), .val (.int i29)] [(.int ((i28.toUInt32 >>> ((1 : Int32) &&& 31).toUInt32).toInt32)), (.int i29)])) t
              refine XS.isub X30.here hx rfl (hb hby d10_77) rfl ?_
              show Steps p.tables e below (T30.setTop (mkF m 78 #[.val (.int i28), .val (.int i29)] [(.int (i29 - ((i28.toUInt32 >>> ((1 : Int32) &&& 31).toUInt32).toInt32)))])) t
              exact k
            rw [show own_F10_61_3 p10_0 i20 i21 i24 i25 i28 i29 = (i29 - ((i28.toUInt32 >>> ((1 : Int32) &&& 31).toUInt32).toInt32)) from ((if_pos hc31).trans rfl)]
            exact own_retI X30 hx Bd.returns (hb hby d10_78) hlk (by decide) (by decide) ⟨rfl, N30, e30⟩
          · skip
            refine own_by (T' := T30) (g' := (mkF m 78 #[.val (.int ((i28.toUInt32 >>> ((2 : Int32) &&& 31).toUInt32).toInt32)), .val (.int (i29 + (-2 : Int32)))] [(.int ((i29 + (-2 : Int32)) - ((((i28.toUInt32 >>> ((2 : Int32) &&& 31).toUInt32).toInt32).toUInt32 >>> ((1 : Int32) &&& 31).toUInt32).toInt32)))])) (fun t k => ?_) ?_
            · show Steps p.tables e below (T30.setTop (mkF m 63 #[.val (.int i28), .val (.int i29)] [(.int (4 : Int32)), (.int i28)])) t
              refine XS.icmpNo X30.here hx rfl (hb hby d10_63) rfl (flt hc31).1 ?_
              show Steps p.tables e below (T30.setTop (mkF m 66 #[.val (.int i28), .val (.int i29)] [])) t
              refine XS.iinc X30.here hx rfl (hb hby d10_66) rfl (l' := #[.val (.int i28), .val (.int (i29 + (-2 : Int32)))]) rfl ?_
              show Steps p.tables e below (T30.setTop (mkF m 69 #[.val (.int i28), .val (.int (i29 + (-2 : Int32)))] [])) t
              refine XS.iloadN X30.here hx rfl (hb hby d10_69) rfl ?_
              show Steps p.tables e below (T30.setTop (mkF m 70 #[.val (.int i28), .val (.int (i29 + (-2 : Int32)))] [(.int i28)])) t
              refine XS.iconst X30.here hx rfl (hb hby d10_70) ?_
              show Steps p.tables e below (T30.setTop (mkF m 71 #[.val (.int i28), .val (.int (i29 + (-2 : Int32)))] [(.int (2 : Int32)), (.int i28)])) t
              refine XS.iushr X30.here hx rfl (hb hby d10_71) rfl ?_
              show Steps p.tables e below (T30.setTop (mkF m 72 #[.val (.int i28), .val (.int (i29 + (-2 : Int32)))] [(.int ((i28.toUInt32 >>> ((2 : Int32) &&& 31).toUInt32).toInt32))])) t
              refine XS.istoreN X30.here hx rfl (hb hby d10_72) rfl (l' := #[.val (.int ((i28.toUInt32 >>> ((2 : Int32) &&& 31).toUInt32).toInt32)), .val (.int (i29 + (-2 : Int32)))]) rfl ?_
              show Steps p.tables e below (T30.setTop (mkF m 73 #[.val (.int ((i28.toUInt32 >>> ((2 : Int32) &&& 31).toUInt32).toInt32)), .val (.int (i29 + (-2 : Int32)))] [])) t
              refine XS.iloadN X30.here hx rfl (hb hby d10_73) rfl ?_
              show Steps p.tables e below (T30.setTop (mkF m 74 #[.val (.int ((i28.toUInt32 >>> ((2 : Int32) &&& 31).toUInt32).toInt32)), .val (.int (i29 + (-2 : Int32)))] [(.int (i29 + (-2 : Int32)))])) t
              refine XS.iloadN X30.here hx rfl (hb hby d10_74) rfl ?_
              show Steps p.tables e below (T30.setTop (mkF m 75 #[.val (.int ((i28.toUInt32 >>> ((2 : Int32) &&& 31).toUInt32).toInt32)), .val (.int (i29 + (-2 : Int32)))] [(.int ((i28.toUInt32 >>> ((2 : Int32) &&& 31).toUInt32).toInt32)), (.int (i29 + (-2 : Int32)))])) t
              refine XS.iconst X30.here hx rfl (hb hby d10_75) ?_
              show Steps p.tables e below (T30.setTop (mkF m 76 #[.val (.int ((i28.toUInt32 >>> ((2 : Int32) &&& 31).toUInt32).toInt32)), .val (.int (i29 + (-2 : Int32)))] [(.int (1 : Int32)), (.int ((i28.toUInt32 >>> ((2 : Int32) &&& 31).toUInt32).toInt32)), (.int (i29 + (-2 : Int32)))])) t
              refine XS.iushr X30.here hx rfl (hb hby d10_76) rfl ?_
              show Steps p.tables e below (T30.setTop (mkF m 77 #[.val (.int ((i28.toUInt32 >>> ((2 : Int32) &&& 31).toUInt32).toInt32)), .val (.int (i29 + (-2 : Int32)))] [(.int ((((i28.toUInt32 >>> ((2 : Int32) &&& 31).toUInt32).toInt32).toUInt32 >>> ((1 : Int32) &&& 31).toUInt32).toInt32)), (.int (i29 + (-2 : Int32)))])) t
              refine XS.isub X30.here hx rfl (hb hby d10_77) rfl ?_
              show Steps p.tables e below (T30.setTop (mkF m 78 #[.val (.int ((i28.toUInt32 >>> ((2 : Int32) &&& 31).toUInt32).toInt32)), .val (.int (i29 + (-2 : Int32)))] [(.int ((i29 + (-2 : Int32)) - ((((i28.toUInt32 >>> ((2 : Int32) &&& 31).toUInt32).toInt32).toUInt32 >>> ((1 : Int32) &&& 31).toUInt32).toInt32)))])) t
              exact k
            rw [show own_F10_61_3 p10_0 i20 i21 i24 i25 i28 i29 = ((i29 + (-2 : Int32)) - ((((i28.toUInt32 >>> ((2 : Int32) &&& 31).toUInt32).toInt32).toUInt32 >>> ((1 : Int32) &&& 31).toUInt32).toInt32)) from ((if_neg hc31).trans rfl)]
            exact own_retI X30 hx Bd.returns (hb hby d10_78) hlk (by decide) (by decide) ⟨rfl, N30, e30⟩
        by_cases hc27 : i24 < (16 : Int32)
        · skip
          refine own_by (T' := T26) (g' := (mkF m 61 #[.val (.int i24), .val (.int i25)] [])) (fun t k => ?_) ?_
          · show Steps p.tables e below (T26.setTop (mkF m 51 #[.val (.int i24), .val (.int i25)] [(.int (16 : Int32)), (.int i24)])) t
            refine XS.icmpYes X26.here hx rfl (pc0 := 51) (pc' := 61) rfl (hb hby d10_51) rfl (tlt hc27).1 (by decide) (by decide) ?_
            show Steps p.tables e below (T26.setTop (mkF m 61 #[.val (.int i24), .val (.int i25)] [])) t
            exact k
          rw [show own_F10_48_2 p10_0 i20 i21 i24 i25 = (own_F10_61_3 p10_0 i20 i21 i24 i25 i24 i25) from ((if_pos hc27).trans rfl)]
          exact J10_3 _ _ i24 i25 X26 e26 N26
        · skip
          refine own_by (T' := T26) (g' := (mkF m 61 #[.val (.int ((i24.toUInt32 >>> ((4 : Int32) &&& 31).toUInt32).toInt32)), .val (.int (i25 + (-4 : Int32)))] [])) (fun t k => ?_) ?_
          · show Steps p.tables e below (T26.setTop (mkF m 51 #[.val (.int i24), .val (.int i25)] [(.int (16 : Int32)), (.int i24)])) t
            refine XS.icmpNo X26.here hx rfl (hb hby d10_51) rfl (flt hc27).1 ?_
            show Steps p.tables e below (T26.setTop (mkF m 54 #[.val (.int i24), .val (.int i25)] [])) t
            refine XS.iinc X26.here hx rfl (hb hby d10_54) rfl (l' := #[.val (.int i24), .val (.int (i25 + (-4 : Int32)))]) rfl ?_
            show Steps p.tables e below (T26.setTop (mkF m 57 #[.val (.int i24), .val (.int (i25 + (-4 : Int32)))] [])) t
            refine XS.iloadN X26.here hx rfl (hb hby d10_57) rfl ?_
            show Steps p.tables e below (T26.setTop (mkF m 58 #[.val (.int i24), .val (.int (i25 + (-4 : Int32)))] [(.int i24)])) t
            refine XS.iconst X26.here hx rfl (hb hby d10_58) ?_
            show Steps p.tables e below (T26.setTop (mkF m 59 #[.val (.int i24), .val (.int (i25 + (-4 : Int32)))] [(.int (4 : Int32)), (.int i24)])) t
            refine XS.iushr X26.here hx rfl (hb hby d10_59) rfl ?_
            show Steps p.tables e below (T26.setTop (mkF m 60 #[.val (.int i24), .val (.int (i25 + (-4 : Int32)))] [(.int ((i24.toUInt32 >>> ((4 : Int32) &&& 31).toUInt32).toInt32))])) t
            refine XS.istoreN X26.here hx rfl (hb hby d10_60) rfl (l' := #[.val (.int ((i24.toUInt32 >>> ((4 : Int32) &&& 31).toUInt32).toInt32)), .val (.int (i25 + (-4 : Int32)))]) rfl ?_
            show Steps p.tables e below (T26.setTop (mkF m 61 #[.val (.int ((i24.toUInt32 >>> ((4 : Int32) &&& 31).toUInt32).toInt32)), .val (.int (i25 + (-4 : Int32)))] [])) t
            exact k
          rw [show own_F10_48_2 p10_0 i20 i21 i24 i25 = (own_F10_61_3 p10_0 i20 i21 i24 i25 ((i24.toUInt32 >>> ((4 : Int32) &&& 31).toUInt32).toInt32) (i25 + (-4 : Int32))) from ((if_neg hc27).trans rfl)]
          exact J10_3 _ _ ((i24.toUInt32 >>> ((4 : Int32) &&& 31).toUInt32).toInt32) (i25 + (-4 : Int32)) X26 e26 N26
      by_cases hc23 : i20 < (256 : Int32)
      · skip
        refine own_by (T' := T22) (g' := (mkF m 48 #[.val (.int i20), .val (.int i21)] [])) (fun t k => ?_) ?_
        · show Steps p.tables e below (T22.setTop (mkF m 37 #[.val (.int i20), .val (.int i21)] [(.int (256 : Int32)), (.int i20)])) t
          refine XS.icmpYes X22.here hx rfl (pc0 := 37) (pc' := 48) rfl (hb hby d10_37) rfl (tlt hc23).1 (by decide) (by decide) ?_
          show Steps p.tables e below (T22.setTop (mkF m 48 #[.val (.int i20), .val (.int i21)] [])) t
          exact k
        rw [show own_F10_33_1 p10_0 i20 i21 = (own_F10_48_2 p10_0 i20 i21 i20 i21) from ((if_pos hc23).trans rfl)]
        exact J10_2 _ _ i20 i21 X22 e22 N22
      · skip
        refine own_by (T' := T22) (g' := (mkF m 48 #[.val (.int ((i20.toUInt32 >>> ((8 : Int32) &&& 31).toUInt32).toInt32)), .val (.int (i21 + (-8 : Int32)))] [])) (fun t k => ?_) ?_
        · show Steps p.tables e below (T22.setTop (mkF m 37 #[.val (.int i20), .val (.int i21)] [(.int (256 : Int32)), (.int i20)])) t
          refine XS.icmpNo X22.here hx rfl (hb hby d10_37) rfl (flt hc23).1 ?_
          show Steps p.tables e below (T22.setTop (mkF m 40 #[.val (.int i20), .val (.int i21)] [])) t
          refine XS.iinc X22.here hx rfl (hb hby d10_40) rfl (l' := #[.val (.int i20), .val (.int (i21 + (-8 : Int32)))]) rfl ?_
          show Steps p.tables e below (T22.setTop (mkF m 43 #[.val (.int i20), .val (.int (i21 + (-8 : Int32)))] [])) t
          refine XS.iloadN X22.here hx rfl (hb hby d10_43) rfl ?_
          show Steps p.tables e below (T22.setTop (mkF m 44 #[.val (.int i20), .val (.int (i21 + (-8 : Int32)))] [(.int i20)])) t
          refine XS.bipush X22.here hx rfl (hb hby d10_44) ?_
          show Steps p.tables e below (T22.setTop (mkF m 46 #[.val (.int i20), .val (.int (i21 + (-8 : Int32)))] [(.int (8 : Int32)), (.int i20)])) t
          refine XS.iushr X22.here hx rfl (hb hby d10_46) rfl ?_
          show Steps p.tables e below (T22.setTop (mkF m 47 #[.val (.int i20), .val (.int (i21 + (-8 : Int32)))] [(.int ((i20.toUInt32 >>> ((8 : Int32) &&& 31).toUInt32).toInt32))])) t
          refine XS.istoreN X22.here hx rfl (hb hby d10_47) rfl (l' := #[.val (.int ((i20.toUInt32 >>> ((8 : Int32) &&& 31).toUInt32).toInt32)), .val (.int (i21 + (-8 : Int32)))]) rfl ?_
          show Steps p.tables e below (T22.setTop (mkF m 48 #[.val (.int ((i20.toUInt32 >>> ((8 : Int32) &&& 31).toUInt32).toInt32)), .val (.int (i21 + (-8 : Int32)))] [])) t
          exact k
        rw [show own_F10_33_1 p10_0 i20 i21 = (own_F10_48_2 p10_0 i20 i21 ((i20.toUInt32 >>> ((8 : Int32) &&& 31).toUInt32).toInt32) (i21 + (-8 : Int32))) from ((if_neg hc23).trans rfl)]
        exact J10_2 _ _ ((i20.toUInt32 >>> ((8 : Int32) &&& 31).toUInt32).toInt32) (i21 + (-8 : Int32)) X22 e22 N22
    by_cases hc19 : p10_0 < (65536 : Int32)
    · skip
      refine own_by (T' := s₁) (g' := (mkF m 33 #[.val (.int p10_0), .val (.int (31 : Int32))] [])) (fun t k => ?_) ?_
      · show Steps p.tables e below (s₁.setTop (mkF m 22 #[.val (.int p10_0), .val (.int (31 : Int32))] [(.int (65536 : Int32)), (.int p10_0)])) t
        refine XS.icmpYes X0.here hx rfl (pc0 := 22) (pc' := 33) rfl (hb hby d10_22) rfl (tlt hc19).1 (by decide) (by decide) ?_
        show Steps p.tables e below (s₁.setTop (mkF m 33 #[.val (.int p10_0), .val (.int (31 : Int32))] [])) t
        exact k
      rw [show own_F10 p10_0 = (own_F10_33_1 p10_0 p10_0 (31 : Int32)) from ((if_pos hc18).trans ((if_pos hc19).trans rfl))]
      exact J10_1 _ _ p10_0 (31 : Int32) X0 e0 N0
    · skip
      refine own_by (T' := s₁) (g' := (mkF m 33 #[.val (.int ((p10_0.toUInt32 >>> ((16 : Int32) &&& 31).toUInt32).toInt32)), .val (.int (15 : Int32))] [])) (fun t k => ?_) ?_
      · show Steps p.tables e below (s₁.setTop (mkF m 22 #[.val (.int p10_0), .val (.int (31 : Int32))] [(.int (65536 : Int32)), (.int p10_0)])) t
        refine XS.icmpNo X0.here hx rfl (hb hby d10_22) rfl (flt hc19).1 ?_
        show Steps p.tables e below (s₁.setTop (mkF m 25 #[.val (.int p10_0), .val (.int (31 : Int32))] [])) t
        refine XS.iinc X0.here hx rfl (hb hby d10_25) rfl (l' := #[.val (.int p10_0), .val (.int (15 : Int32))]) rfl ?_
        show Steps p.tables e below (s₁.setTop (mkF m 28 #[.val (.int p10_0), .val (.int (15 : Int32))] [])) t
        refine XS.iloadN X0.here hx rfl (hb hby d10_28) rfl ?_
        show Steps p.tables e below (s₁.setTop (mkF m 29 #[.val (.int p10_0), .val (.int (15 : Int32))] [(.int p10_0)])) t
        refine XS.bipush X0.here hx rfl (hb hby d10_29) ?_
        show Steps p.tables e below (s₁.setTop (mkF m 31 #[.val (.int p10_0), .val (.int (15 : Int32))] [(.int (16 : Int32)), (.int p10_0)])) t
        refine XS.iushr X0.here hx rfl (hb hby d10_31) rfl ?_
        show Steps p.tables e below (s₁.setTop (mkF m 32 #[.val (.int p10_0), .val (.int (15 : Int32))] [(.int ((p10_0.toUInt32 >>> ((16 : Int32) &&& 31).toUInt32).toInt32))])) t
        refine XS.istoreN X0.here hx rfl (hb hby d10_32) rfl (l' := #[.val (.int ((p10_0.toUInt32 >>> ((16 : Int32) &&& 31).toUInt32).toInt32)), .val (.int (15 : Int32))]) rfl ?_
        show Steps p.tables e below (s₁.setTop (mkF m 33 #[.val (.int ((p10_0.toUInt32 >>> ((16 : Int32) &&& 31).toUInt32).toInt32)), .val (.int (15 : Int32))] [])) t
        exact k
      rw [show own_F10 p10_0 = (own_F10_33_1 p10_0 ((p10_0.toUInt32 >>> ((16 : Int32) &&& 31).toUInt32).toInt32) (15 : Int32)) from ((if_pos hc18).trans ((if_neg hc19).trans rfl))]
      exact J10_1 _ _ ((p10_0.toUInt32 >>> ((16 : Int32) &&& 31).toUInt32).toInt32) (15 : Int32) X0 e0 N0
  · skip
    refine own_by (T' := s₁) (g' := (mkF m 5 #[.val (.int p10_0), .unset] [(.int p10_0)])) (fun t k => ?_) ?_
    · show Steps p.tables e below (s₁.setTop (mkF m 1 #[.val (.int p10_0), .unset] [(.int p10_0)])) t
      refine XS.ifNo X0.here hx rfl (hb hby d10_1) rfl ((if0 _ _).trans (flt hc18).2.2.1) ?_
      show Steps p.tables e below (s₁.setTop (mkF m 4 #[.val (.int p10_0), .unset] [])) t
      refine XS.iloadN X0.here hx rfl (hb hby d10_4) rfl ?_
      show Steps p.tables e below (s₁.setTop (mkF m 5 #[.val (.int p10_0), .unset] [(.int p10_0)])) t
      exact k
    by_cases hc32 : p10_0 = (0 : Int32)
    · skip
      refine own_by (T' := s₁) (g' := (mkF m 14 #[.val (.int p10_0), .unset] [(.int (32 : Int32))])) (fun t k => ?_) ?_
      · show Steps p.tables e below (s₁.setTop (mkF m 5 #[.val (.int p10_0), .unset] [(.int p10_0)])) t
        refine XS.ifNo X0.here hx rfl (hb hby d10_5) rfl ((if0 _ _).trans (teq hc32).2) ?_
        show Steps p.tables e below (s₁.setTop (mkF m 8 #[.val (.int p10_0), .unset] [])) t
        refine XS.bipush X0.here hx rfl (hb hby d10_8) ?_
        show Steps p.tables e below (s₁.setTop (mkF m 10 #[.val (.int p10_0), .unset] [(.int (32 : Int32))])) t
        refine XS.goto X0.here hx rfl (pc0 := 10) (pc' := 14) rfl (hb hby d10_10) (by decide) (by decide) ?_
        show Steps p.tables e below (s₁.setTop (mkF m 14 #[.val (.int p10_0), .unset] [(.int (32 : Int32))])) t
        exact k
      rw [show own_F10 p10_0 = (32 : Int32) from ((if_neg hc18).trans ((if_pos hc32).trans rfl))]
      exact own_retI X0 hx Bd.returns (hb hby d10_14) hlk (by decide) (by decide) ⟨rfl, N0, e0⟩
    · skip
      refine own_by (T' := s₁) (g' := (mkF m 14 #[.val (.int p10_0), .unset] [(.int (0 : Int32))])) (fun t k => ?_) ?_
      · show Steps p.tables e below (s₁.setTop (mkF m 5 #[.val (.int p10_0), .unset] [(.int p10_0)])) t
        refine XS.ifYes X0.here hx rfl (pc0 := 5) (pc' := 13) rfl (hb hby d10_5) rfl ((if0 _ _).trans (feq hc32).2) (by decide) (by decide) ?_
        show Steps p.tables e below (s₁.setTop (mkF m 13 #[.val (.int p10_0), .unset] [])) t
        refine XS.iconst X0.here hx rfl (hb hby d10_13) ?_
        show Steps p.tables e below (s₁.setTop (mkF m 14 #[.val (.int p10_0), .unset] [(.int (0 : Int32))])) t
        exact k
      rw [show own_F10 p10_0 = (0 : Int32) from ((if_neg hc18).trans ((if_neg hc32).trans rfl))]
      exact own_retI X0 hx Bd.returns (hb hby d10_14) hlk (by decide) (by decide) ⟨rfl, N0, e0⟩
theorem d9_0 : decode jdk_35_method_48_code 0 = .ok (.lload_n 0, 1) := by decide +kernel
theorem d9_1 : decode jdk_35_method_48_code 1 = .ok (.bipush 32, 2) := by decide +kernel
theorem d9_3 : decode jdk_35_method_48_code 3 = .ok (.lushr, 1) := by decide +kernel
theorem d9_4 : decode jdk_35_method_48_code 4 = .ok (.l2i, 1) := by decide +kernel
theorem d9_5 : decode jdk_35_method_48_code 5 = .ok (.istore_n 2, 1) := by decide +kernel
theorem d9_6 : decode jdk_35_method_48_code 6 = .ok (.iload_n 2, 1) := by decide +kernel
theorem d9_7 : decode jdk_35_method_48_code 7 = .ok (.ifCond .ne 14, 3) := by decide +kernel
theorem d9_10 : decode jdk_35_method_48_code 10 = .ok (.bipush 32, 2) := by decide +kernel
theorem d9_12 : decode jdk_35_method_48_code 12 = .ok (.lload_n 0, 1) := by decide +kernel
theorem d9_13 : decode jdk_35_method_48_code 13 = .ok (.l2i, 1) := by decide +kernel
theorem d9_14 : decode jdk_35_method_48_code 14 = .ok (.invokestatic 308, 3) := by decide +kernel
theorem pd__I_I : parseMethodDescriptor "(I)I" = some ⟨[.int], some .int⟩ := by decide +kernel
theorem d9_17 : decode jdk_35_method_48_code 17 = .ok (.iadd, 1) := by decide +kernel
theorem d9_18 : decode jdk_35_method_48_code 18 = .ok (.goto 7, 3) := by decide +kernel
theorem d9_21 : decode jdk_35_method_48_code 21 = .ok (.iload_n 2, 1) := by decide +kernel
theorem d9_22 : decode jdk_35_method_48_code 22 = .ok (.invokestatic 308, 3) := by decide +kernel
theorem d9_25 : decode jdk_35_method_48_code 25 = .ok (.ireturn, 1) := by decide +kernel
theorem pn_java_lang_Long : plainName "java/lang/Long" = true := by first | (simp [plainName, overriddenIn]; done) | decide +kernel
def own_F9 (q9_0 : Int64) : Int32 := (if (((q9_0.toUInt64 >>> ((32 : Int32) &&& 0x3f).toInt64.toUInt64).toInt64).toInt32) = (0 : Int32) then ((32 : Int32) + (own_F10 (q9_0.toInt32))) else (own_F10 (((q9_0.toUInt64 >>> ((32 : Int32) &&& 0x3f).toInt64.toUInt64).toInt64).toInt32)))
theorem own_ef9 (m : MethodId) (x0 : Int64) : entryFrame m #[(.long x0)] 3 = mkF m 0 #[.val (.long x0), .second, .unset] [] := by first | (simp [entryFrame, mkF, argsToLocals, Value.category]; done) | rfl
def own_Q9 (r : Int32) (h0 : Heap) (n0 : Nat) (v : Option Value) (h : Heap) (L : List Loc) : Prop := v = some (.int r) ∧ Fr n0 L ∧ h = h0
set_option maxRecDepth 65536 in
set_option maxHeartbeats 40000000 in
theorem own_rm9 (l : Launch) (Z : State) (a0 : Array Value) (hw : ∀ d ∈ tables_1, d.before a0 Z = true) (ws : List Jvm.Cond) (q9_0 : Int64) (h0 : Heap) (n0 : Nat) (Z0 : n0 ≤ h0.size) :
    MetFree l (⟨"java/lang/Long", "numberOfLeadingZeros", "(J)I"⟩ : MethodName) (head1 (Jvm.Cond.code (⟨"java/lang/Long", "numberOfLeadingZeros", "(J)I"⟩ : MethodName) jdk_35_method_48_code 3 (some .int) :: ws) ({ frames := 1, cells := 0, slots := 0, locals := 14 } : Room)) (fun a U => a = #[(.long q9_0)] ∧ Z.Warmed39 U.vm ∧ U.heap = h0) (fun _ _ _ _ _ => True) (fun _ U o U' => ∃ v L, o = .returned v ∧ own_Q9 (own_F9 q9_0) h0 n0 v U'.heap L ∧ FrameEnd U o U' L ({ frames := 1, cells := 0, slots := 0, locals := 14 } : Room).cells ({ frames := 1, cells := 0, slots := 0, locals := 14 } : Room).slots) := by
  refine MetFree.of_bodySF (plainFor_of_name pn_java_lang_Long) hisR ?_
  intro p e s m args below meth c s₁ Bd hml0 hP hK
  obtain ⟨rfl, hZ, hh⟩ := hP
  have hx := Bd.exec
  have hby := Bd.bytes
  have hlk : meth.locks = false := BodyLoose.notSynchronized Bd
  have hml : c.maxLocals = 3 := hml0
  have hown : s.vm.findClass "java/lang/Long" = some m.cls := findClass_of_methodNamed Bd.named
  have hnm := (name_of_methodNamed Bd.named Bd.method).1
  have X0 : Stand p l e ({ frames := 1, cells := 0, slots := 0, locals := 14 } : Room) s m #[(.long q9_0)] below meth c s₁ [] 0 0 := Stand.of_body Bd
  have e0 : s₁.heap = h0 := by rw [← hh, Bd.state]; rfl
  have N0 := Fr.nil n0
  show own_Go p e below (own_P s below ({ frames := 1, cells := 0, slots := 0, locals := 14 } : Room) (own_Q9 (own_F9 q9_0) h0 n0)) s₁ (entryFrame m #[(.long q9_0)] 3)
  refine own_in (own_ef9 m q9_0) ?_
  refine own_by (T' := s₁) (g' := (mkF m 7 #[.val (.long q9_0), .second, .val (.int (((q9_0.toUInt64 >>> ((32 : Int32) &&& 0x3f).toInt64.toUInt64).toInt64).toInt32))] [(.int (((q9_0.toUInt64 >>> ((32 : Int32) &&& 0x3f).toInt64.toUInt64).toInt64).toInt32))])) (fun t k => ?_) ?_
  · show Steps p.tables e below (s₁.setTop (mkF m 0 #[.val (.long q9_0), .second, .unset] [])) t
    refine XS.lloadN X0.here hx rfl (hb hby d9_0) rfl ?_
    show Steps p.tables e below (s₁.setTop (mkF m 1 #[.val (.long q9_0), .second, .unset] [(.long q9_0)])) t
    refine XS.bipush X0.here hx rfl (hb hby d9_1) ?_
    show Steps p.tables e below (s₁.setTop (mkF m 3 #[.val (.long q9_0), .second, .unset] [(.int (32 : Int32)), (.long q9_0)])) t
    refine XS.lushr X0.here hx rfl (hb hby d9_3) rfl ?_
    show Steps p.tables e below (s₁.setTop (mkF m 4 #[.val (.long q9_0), .second, .unset] [(.long ((q9_0.toUInt64 >>> ((32 : Int32) &&& 0x3f).toInt64.toUInt64).toInt64))])) t
    refine XS.l2i X0.here hx rfl (hb hby d9_4) rfl ?_
    show Steps p.tables e below (s₁.setTop (mkF m 5 #[.val (.long q9_0), .second, .unset] [(.int (((q9_0.toUInt64 >>> ((32 : Int32) &&& 0x3f).toInt64.toUInt64).toInt64).toInt32))])) t
    refine XS.istoreN X0.here hx rfl (hb hby d9_5) rfl (l' := #[.val (.long q9_0), .second, .val (.int (((q9_0.toUInt64 >>> ((32 : Int32) &&& 0x3f).toInt64.toUInt64).toInt64).toInt32))]) rfl ?_
    show Steps p.tables e below (s₁.setTop (mkF m 6 #[.val (.long q9_0), .second, .val (.int (((q9_0.toUInt64 >>> ((32 : Int32) &&& 0x3f).toInt64.toUInt64).toInt64).toInt32))] [])) t
    refine XS.iloadN X0.here hx rfl (hb hby d9_6) rfl ?_
    show Steps p.tables e below (s₁.setTop (mkF m 7 #[.val (.long q9_0), .second, .val (.int (((q9_0.toUInt64 >>> ((32 : Int32) &&& 0x3f).toInt64.toUInt64).toInt64).toInt32))] [(.int (((q9_0.toUInt64 >>> ((32 : Int32) &&& 0x3f).toInt64.toUInt64).toInt64).toInt32))])) t
    exact k
  by_cases hc33 : (((q9_0.toUInt64 >>> ((32 : Int32) &&& 0x3f).toInt64.toUInt64).toInt64).toInt32) = (0 : Int32)
  · skip
    refine own_by (T' := s₁) (g' := (mkF m 14 #[.val (.long q9_0), .second, .val (.int (((q9_0.toUInt64 >>> ((32 : Int32) &&& 0x3f).toInt64.toUInt64).toInt64).toInt32))] [(.int (q9_0.toInt32)), (.int (32 : Int32))])) (fun t k => ?_) ?_
    · show Steps p.tables e below (s₁.setTop (mkF m 7 #[.val (.long q9_0), .second, .val (.int (((q9_0.toUInt64 >>> ((32 : Int32) &&& 0x3f).toInt64.toUInt64).toInt64).toInt32))] [(.int (((q9_0.toUInt64 >>> ((32 : Int32) &&& 0x3f).toInt64.toUInt64).toInt64).toInt32))])) t
      refine XS.ifNo X0.here hx rfl (hb hby d9_7) rfl ((if0 _ _).trans (teq hc33).2) ?_
      show Steps p.tables e below (s₁.setTop (mkF m 10 #[.val (.long q9_0), .second, .val (.int (((q9_0.toUInt64 >>> ((32 : Int32) &&& 0x3f).toInt64.toUInt64).toInt64).toInt32))] [])) t
      refine XS.bipush X0.here hx rfl (hb hby d9_10) ?_
      show Steps p.tables e below (s₁.setTop (mkF m 12 #[.val (.long q9_0), .second, .val (.int (((q9_0.toUInt64 >>> ((32 : Int32) &&& 0x3f).toInt64.toUInt64).toInt64).toInt32))] [(.int (32 : Int32))])) t
      refine XS.lloadN X0.here hx rfl (hb hby d9_12) rfl ?_
      show Steps p.tables e below (s₁.setTop (mkF m 13 #[.val (.long q9_0), .second, .val (.int (((q9_0.toUInt64 >>> ((32 : Int32) &&& 0x3f).toInt64.toUInt64).toInt64).toInt32))] [(.long q9_0), (.int (32 : Int32))])) t
      refine XS.l2i X0.here hx rfl (hb hby d9_13) rfl ?_
      show Steps p.tables e below (s₁.setTop (mkF m 14 #[.val (.long q9_0), .second, .val (.int (((q9_0.toUInt64 >>> ((32 : Int32) &&& 0x3f).toInt64.toUInt64).toInt64).toInt32))] [(.int (q9_0.toInt32)), (.int (32 : Int32))])) t
      exact k
    obtain ⟨v38, _, ⟨T38, L38, k38, n38⟩, -, X38, ⟨Lc38, hQ38, l38, y38, z38⟩, st38⟩ := Jvm.LawKit.callS X0 hx (y := (⟨"java/lang/Integer", "numberOfLeadingZeros", "(I)I"⟩ : MethodName)) hown (mvT hZ (hw _ (List.mem_of_getElem? (i := 53) rfl))) (mvT hZ (hw _ (List.mem_of_getElem? (i := 54) rfl))) (mvT hZ (hw _ (List.mem_of_getElem? (i := 55) rfl))) (mvT hZ (hw _ (List.mem_of_getElem? (i := 56) rfl))) (by decide) (backOf (W := 1) (own_rm10 l Z a0 hw [] (q9_0.toInt32) h0 n0 Z0) hZ (hw _ (List.mem_of_getElem? (i := 56) rfl)) (hw _ (List.mem_of_getElem? (i := 55) rfl)) (by decide) (by decide)) (g := (mkF m 14 #[.val (.long q9_0), .second, .val (.int (((q9_0.toUInt64 >>> ((32 : Int32) &&& 0x3f).toInt64.toUInt64).toInt64).toInt32))] [(.int (q9_0.toInt32)), (.int (32 : Int32))])) rfl (by rw [hml]; rfl) (argsL := [(.int (q9_0.toInt32))]) (rest := [(.int (32 : Int32))]) (lenOf pd__I_I rfl) rfl (by show 2 * 0 + _ ≤ _; exact Nat.le_of_eq rfl) (hb hby d9_14) (fun _ _ => ⟨rfl, e0, (by decide : 0 + 0 ≤ _), (by decide : 0 + 0 ≤ _)⟩)
    dsimp only [Pt.U, Pt.locs, Pt.cells, Pt.slots] at X38 l38 y38 z38 st38 hQ38
    subst l38 y38 z38
    obtain ⟨rfl, M38, e38⟩ := hQ38
    have N39 := Fr.app N0 M38
    refine own_by (T' := T38) (g' := (mkF m 17 #[.val (.long q9_0), .second, .val (.int (((q9_0.toUInt64 >>> ((32 : Int32) &&& 0x3f).toInt64.toUInt64).toInt64).toInt32))] [(.int (own_F10 (q9_0.toInt32))), (.int (32 : Int32))])) st38 ?_
    refine own_by (T' := T38) (g' := (mkF m 25 #[.val (.long q9_0), .second, .val (.int (((q9_0.toUInt64 >>> ((32 : Int32) &&& 0x3f).toInt64.toUInt64).toInt64).toInt32))] [(.int ((32 : Int32) + (own_F10 (q9_0.toInt32))))])) (fun t k => ?_) ?_
    · show Steps p.tables e below (T38.setTop (mkF m 17 #[.val (.long q9_0), .second, .val (.int (((q9_0.toUInt64 >>> ((32 : Int32) &&& 0x3f).toInt64.toUInt64).toInt64).toInt32))] [(.int (own_F10 (q9_0.toInt32))), (.int (32 : Int32))])) t
      refine XS.iadd X38.here hx rfl (hb hby d9_17) rfl ?_
      show Steps p.tables e below (T38.setTop (mkF m 18 #[.val (.long q9_0), .second, .val (.int (((q9_0.toUInt64 >>> ((32 : Int32) &&& 0x3f).toInt64.toUInt64).toInt64).toInt32))] [(.int ((32 : Int32) + (own_F10 (q9_0.toInt32))))])) t
      refine XS.goto X38.here hx rfl (pc0 := 18) (pc' := 25) rfl (hb hby d9_18) (by decide) (by decide) ?_
      show Steps p.tables e below (T38.setTop (mkF m 25 #[.val (.long q9_0), .second, .val (.int (((q9_0.toUInt64 >>> ((32 : Int32) &&& 0x3f).toInt64.toUInt64).toInt64).toInt32))] [(.int ((32 : Int32) + (own_F10 (q9_0.toInt32))))])) t
      exact k
    rw [show own_F9 q9_0 = ((32 : Int32) + (own_F10 (q9_0.toInt32))) from ((if_pos hc33).trans rfl)]
    exact own_retI X38 hx Bd.returns (hb hby d9_25) hlk (by decide) (by decide) ⟨rfl, N39, e38⟩
  · skip
    refine own_by (T' := s₁) (g' := (mkF m 22 #[.val (.long q9_0), .second, .val (.int (((q9_0.toUInt64 >>> ((32 : Int32) &&& 0x3f).toInt64.toUInt64).toInt64).toInt32))] [(.int (((q9_0.toUInt64 >>> ((32 : Int32) &&& 0x3f).toInt64.toUInt64).toInt64).toInt32))])) (fun t k => ?_) ?_
    · show Steps p.tables e below (s₁.setTop (mkF m 7 #[.val (.long q9_0), .second, .val (.int (((q9_0.toUInt64 >>> ((32 : Int32) &&& 0x3f).toInt64.toUInt64).toInt64).toInt32))] [(.int (((q9_0.toUInt64 >>> ((32 : Int32) &&& 0x3f).toInt64.toUInt64).toInt64).toInt32))])) t
      refine XS.ifYes X0.here hx rfl (pc0 := 7) (pc' := 21) rfl (hb hby d9_7) rfl ((if0 _ _).trans (feq hc33).2) (by decide) (by decide) ?_
      show Steps p.tables e below (s₁.setTop (mkF m 21 #[.val (.long q9_0), .second, .val (.int (((q9_0.toUInt64 >>> ((32 : Int32) &&& 0x3f).toInt64.toUInt64).toInt64).toInt32))] [])) t
      refine XS.iloadN X0.here hx rfl (hb hby d9_21) rfl ?_
      show Steps p.tables e below (s₁.setTop (mkF m 22 #[.val (.long q9_0), .second, .val (.int (((q9_0.toUInt64 >>> ((32 : Int32) &&& 0x3f).toInt64.toUInt64).toInt64).toInt32))] [(.int (((q9_0.toUInt64 >>> ((32 : Int32) &&& 0x3f).toInt64.toUInt64).toInt64).toInt32))])) t
      exact k
    obtain ⟨v40, _, ⟨T40, L40, k40, n40⟩, -, X40, ⟨Lc40, hQ40, l40, y40, z40⟩, st40⟩ := Jvm.LawKit.callS X0 hx (y := (⟨"java/lang/Integer", "numberOfLeadingZeros", "(I)I"⟩ : MethodName)) hown (mvT hZ (hw _ (List.mem_of_getElem? (i := 53) rfl))) (mvT hZ (hw _ (List.mem_of_getElem? (i := 54) rfl))) (mvT hZ (hw _ (List.mem_of_getElem? (i := 55) rfl))) (mvT hZ (hw _ (List.mem_of_getElem? (i := 56) rfl))) (by decide) (backOf (W := 0) (own_rm10 l Z a0 hw [] (((q9_0.toUInt64 >>> ((32 : Int32) &&& 0x3f).toInt64.toUInt64).toInt64).toInt32) h0 n0 Z0) hZ (hw _ (List.mem_of_getElem? (i := 56) rfl)) (hw _ (List.mem_of_getElem? (i := 55) rfl)) (by decide) (by decide)) (g := (mkF m 22 #[.val (.long q9_0), .second, .val (.int (((q9_0.toUInt64 >>> ((32 : Int32) &&& 0x3f).toInt64.toUInt64).toInt64).toInt32))] [(.int (((q9_0.toUInt64 >>> ((32 : Int32) &&& 0x3f).toInt64.toUInt64).toInt64).toInt32))])) rfl (by rw [hml]; rfl) (argsL := [(.int (((q9_0.toUInt64 >>> ((32 : Int32) &&& 0x3f).toInt64.toUInt64).toInt64).toInt32))]) (rest := []) (lenOf pd__I_I rfl) rfl (by show 2 * 0 + _ ≤ _; exact Nat.le_of_eq rfl) (hb hby d9_22) (fun _ _ => ⟨rfl, e0, (by decide : 0 + 0 ≤ _), (by decide : 0 + 0 ≤ _)⟩)
    dsimp only [Pt.U, Pt.locs, Pt.cells, Pt.slots] at X40 l40 y40 z40 st40 hQ40
    subst l40 y40 z40
    obtain ⟨rfl, M40, e40⟩ := hQ40
    have N41 := Fr.app N0 M40
    refine own_by (T' := T40) (g' := (mkF m 25 #[.val (.long q9_0), .second, .val (.int (((q9_0.toUInt64 >>> ((32 : Int32) &&& 0x3f).toInt64.toUInt64).toInt64).toInt32))] [(.int (own_F10 (((q9_0.toUInt64 >>> ((32 : Int32) &&& 0x3f).toInt64.toUInt64).toInt64).toInt32)))])) st40 ?_
    rw [show own_F9 q9_0 = (own_F10 (((q9_0.toUInt64 >>> ((32 : Int32) &&& 0x3f).toInt64.toUInt64).toInt64).toInt32)) from ((if_neg hc33).trans rfl)]
    exact own_retI X40 hx Bd.returns (hb hby d9_25) hlk (by decide) (by decide) ⟨rfl, N41, e40⟩
theorem d8_0 : decode jdk_35_method_46_code 0 = .ok (.lload_n 0, 1) := by decide +kernel
theorem d8_1 : decode jdk_35_method_46_code 1 = .ok (.ldc2_w 168, 3) := by decide +kernel
theorem d8_4 : decode jdk_35_method_46_code 4 = .ok (.lload_n 0, 1) := by decide +kernel
theorem d8_5 : decode jdk_35_method_46_code 5 = .ok (.invokestatic 98, 3) := by decide +kernel
theorem pd__J_I : parseMethodDescriptor "(J)I" = some ⟨[.long], some .int⟩ := by decide +kernel
theorem d8_8 : decode jdk_35_method_46_code 8 = .ok (.lushr, 1) := by decide +kernel
theorem d8_9 : decode jdk_35_method_46_code 9 = .ok (.land, 1) := by decide +kernel
theorem d8_10 : decode jdk_35_method_46_code 10 = .ok (.lreturn, 1) := by decide +kernel
def own_F8 (q8_0 : Int64) : Int64 := (q8_0 &&& (((-9223372036854775808 : Int64).toUInt64 >>> ((own_F9 q8_0) &&& 0x3f).toInt64.toUInt64).toInt64))
theorem own_ef8 (m : MethodId) (x0 : Int64) : entryFrame m #[(.long x0)] 2 = mkF m 0 #[.val (.long x0), .second] [] := by first | (simp [entryFrame, mkF, argsToLocals, Value.category]; done) | rfl
def own_Q8 (r : Int64) (h0 : Heap) (n0 : Nat) (v : Option Value) (h : Heap) (L : List Loc) : Prop := v = some (.long r) ∧ Fr n0 L ∧ h = h0
set_option maxRecDepth 65536 in
set_option maxHeartbeats 40000000 in
theorem own_rm8 (l : Launch) (Z : State) (a0 : Array Value) (hw : ∀ d ∈ tables_1, d.before a0 Z = true) (ws : List Jvm.Cond) (q8_0 : Int64) (h0 : Heap) (n0 : Nat) (Z0 : n0 ≤ h0.size) :
    MetFree l (⟨"java/lang/Long", "highestOneBit", "(J)J"⟩ : MethodName) (head1 (Jvm.Cond.code (⟨"java/lang/Long", "highestOneBit", "(J)J"⟩ : MethodName) jdk_35_method_46_code 2 (some .long) :: ws) ({ frames := 2, cells := 0, slots := 0, locals := 32 } : Room)) (fun a U => a = #[(.long q8_0)] ∧ Z.Warmed39 U.vm ∧ U.heap = h0) (fun _ _ _ _ _ => True) (fun _ U o U' => ∃ v L, o = .returned v ∧ own_Q8 (own_F8 q8_0) h0 n0 v U'.heap L ∧ FrameEnd U o U' L ({ frames := 2, cells := 0, slots := 0, locals := 32 } : Room).cells ({ frames := 2, cells := 0, slots := 0, locals := 32 } : Room).slots) := by
  refine MetFree.of_bodySF (plainFor_of_name pn_java_lang_Long) hisR ?_
  intro p e s m args below meth c s₁ Bd hml0 hP hK
  obtain ⟨rfl, hZ, hh⟩ := hP
  have hx := Bd.exec
  have hby := Bd.bytes
  have hlk : meth.locks = false := BodyLoose.notSynchronized Bd
  have hml : c.maxLocals = 2 := hml0
  have hown : s.vm.findClass "java/lang/Long" = some m.cls := findClass_of_methodNamed Bd.named
  have hnm := (name_of_methodNamed Bd.named Bd.method).1
  have X0 : Stand p l e ({ frames := 2, cells := 0, slots := 0, locals := 32 } : Room) s m #[(.long q8_0)] below meth c s₁ [] 0 0 := Stand.of_body Bd
  have e0 : s₁.heap = h0 := by rw [← hh, Bd.state]; rfl
  have N0 := Fr.nil n0
  show own_Go p e below (own_P s below ({ frames := 2, cells := 0, slots := 0, locals := 32 } : Room) (own_Q8 (own_F8 q8_0) h0 n0)) s₁ (entryFrame m #[(.long q8_0)] 2)
  refine own_in (own_ef8 m q8_0) ?_
  refine own_by (T' := s₁) (g' := (mkF m 5 #[.val (.long q8_0), .second] [(.long q8_0), (.long (-9223372036854775808 : Int64)), (.long q8_0)])) (fun t k => ?_) ?_
  · show Steps p.tables e below (s₁.setTop (mkF m 0 #[.val (.long q8_0), .second] [])) t
    refine XS.lloadN X0.here hx rfl (hb hby d8_0) rfl ?_
    show Steps p.tables e below (s₁.setTop (mkF m 1 #[.val (.long q8_0), .second] [(.long q8_0)])) t
    refine X0.ldc2Long hx hown (mvT hZ (hw _ (List.mem_of_getElem? (i := 49) rfl))) (g := (mkF m 1 #[.val (.long q8_0), .second] [(.long q8_0)])) rfl (hb hby d8_1) _ ?_
    show Steps p.tables e below (s₁.setTop (mkF m 4 #[.val (.long q8_0), .second] [(.long (-9223372036854775808 : Int64)), (.long q8_0)])) t
    refine XS.lloadN X0.here hx rfl (hb hby d8_4) rfl ?_
    show Steps p.tables e below (s₁.setTop (mkF m 5 #[.val (.long q8_0), .second] [(.long q8_0), (.long (-9223372036854775808 : Int64)), (.long q8_0)])) t
    exact k
  obtain ⟨v42, _, ⟨T42, L42, k42, n42⟩, -, X42, ⟨Lc42, hQ42, l42, y42, z42⟩, st42⟩ := Jvm.LawKit.callS X0 hx (y := (⟨"java/lang/Long", "numberOfLeadingZeros", "(J)I"⟩ : MethodName)) hown (mvT hZ (hw _ (List.mem_of_getElem? (i := 50) rfl))) (mvT hZ (hw _ (List.mem_of_getElem? (i := 51) rfl))) (mvT hZ (hw _ (List.mem_of_getElem? (i := 47) rfl))) (mvT hZ (hw _ (List.mem_of_getElem? (i := 52) rfl))) (by decide) (backOf (W := 4) (own_rm9 l Z a0 hw [] q8_0 h0 n0 Z0) hZ (hw _ (List.mem_of_getElem? (i := 52) rfl)) (hw _ (List.mem_of_getElem? (i := 47) rfl)) (by decide) (by decide)) (g := (mkF m 5 #[.val (.long q8_0), .second] [(.long q8_0), (.long (-9223372036854775808 : Int64)), (.long q8_0)])) rfl (by rw [hml]; rfl) (argsL := [(.long q8_0)]) (rest := [(.long (-9223372036854775808 : Int64)), (.long q8_0)]) (lenOf pd__J_I rfl) rfl (by show 2 * 0 + _ ≤ _; exact Nat.le_of_eq rfl) (hb hby d8_5) (fun _ _ => ⟨rfl, e0, (by decide : 0 + 0 ≤ _), (by decide : 0 + 0 ≤ _)⟩)
  dsimp only [Pt.U, Pt.locs, Pt.cells, Pt.slots] at X42 l42 y42 z42 st42 hQ42
  subst l42 y42 z42
  obtain ⟨rfl, M42, e42⟩ := hQ42
  have N43 := Fr.app N0 M42
  refine own_by (T' := T42) (g' := (mkF m 8 #[.val (.long q8_0), .second] [(.int (own_F9 q8_0)), (.long (-9223372036854775808 : Int64)), (.long q8_0)])) st42 ?_
  refine own_by (T' := T42) (g' := (mkF m 10 #[.val (.long q8_0), .second] [(.long (q8_0 &&& (((-9223372036854775808 : Int64).toUInt64 >>> ((own_F9 q8_0) &&& 0x3f).toInt64.toUInt64).toInt64)))])) (fun t k => ?_) ?_
  · show Steps p.tables e below (T42.setTop (mkF m 8 #[.val (.long q8_0), .second] [(.int (own_F9 q8_0)), (.long (-9223372036854775808 : Int64)), (.long q8_0)])) t
    refine XS.lushr X42.here hx rfl (hb hby d8_8) rfl ?_
    show Steps p.tables e below (T42.setTop (mkF m 9 #[.val (.long q8_0), .second] [(.long (((-9223372036854775808 : Int64).toUInt64 >>> ((own_F9 q8_0) &&& 0x3f).toInt64.toUInt64).toInt64)), (.long q8_0)])) t
    refine XS.land X42.here hx rfl (hb hby d8_9) rfl ?_
    show Steps p.tables e below (T42.setTop (mkF m 10 #[.val (.long q8_0), .second] [(.long (q8_0 &&& (((-9223372036854775808 : Int64).toUInt64 >>> ((own_F9 q8_0) &&& 0x3f).toInt64.toUInt64).toInt64)))])) t
    exact k
  rw [show own_F8 q8_0 = (q8_0 &&& (((-9223372036854775808 : Int64).toUInt64 >>> ((own_F9 q8_0) &&& 0x3f).toInt64.toUInt64).toInt64)) from rfl]
  exact own_retJ X42 hx Bd.returns (hb hby d8_10) hlk (by decide) (by decide) ⟨rfl, N43, e42⟩
theorem d7_0 : decode prog_44_method_4_code 0 = .ok (.aload_n 0, 1) := by decide +kernel
theorem d7_1 : decode prog_44_method_4_code 1 = .ok (.invokeinterface 1 1, 5) := by decide +kernel
theorem pd___Z : parseMethodDescriptor "()Z" = some ⟨[], some .boolean⟩ := by decide +kernel
theorem d7_6 : decode prog_44_method_4_code 6 = .ok (.ifCond .ne 20, 3) := by decide +kernel
theorem d7_26 : decode prog_44_method_4_code 26 = .ok (.return_, 1) := by decide +kernel
theorem pn_com_example_rundown_rundown_llvm_Type : plainName "com/example/rundown/rundown/llvm/Type" = true := by first | (simp [plainName, overriddenIn]; done) | decide +kernel
theorem own_ef7 (m : MethodId) (x0 : Addr) : entryFrame m #[(.ref x0)] 1 = mkF m 0 #[.val (.ref x0)] [] := by first | (simp [entryFrame, mkF, argsToLocals, Value.category]; done) | rfl
def own_Q7 (Z : State) (a7_0 : Addr) (w_bits_a7_0 : Int32) (h0 : Heap) (n0 : Nat) (v : Option Value) (h : Heap) (L : List Loc) : Prop := v = none ∧ Fr n0 L ∧ Keep h0 h []
set_option maxRecDepth 65536 in
set_option maxHeartbeats 40000000 in
theorem own_rm7 (l : Launch) (Z : State) (a0 : Array Value) (hw : ∀ d ∈ tables_1, d.before a0 Z = true) (ws : List Jvm.Cond) (a7_0 : Addr) (w_bits_a7_0 : Int32) (h0 : Heap) (n0 : Nat) (Z0 : n0 ≤ h0.size) (HS : ¬ ((own_F4 w_bits_a7_0) = (0 : Int32))) (E_a7_0 : Exa Z h0 a7_0 "com/example/rundown/rundown/llvm/Type$IntegerType") (F_bits_a7_0 : Fld Z h0 a7_0 "com/example/rundown/rundown/llvm/Type$IntegerType" "bits" "I" (.int w_bits_a7_0)) :
    MetFree l (⟨"com/example/rundown/rundown/llvm/Type", "requireSized", "(Lcom/example/rundown/rundown/llvm/Type;)V"⟩ : MethodName) (head1 (Jvm.Cond.code (⟨"com/example/rundown/rundown/llvm/Type", "requireSized", "(Lcom/example/rundown/rundown/llvm/Type;)V"⟩ : MethodName) prog_44_method_4_code 1 none :: ws) ({ frames := 1, cells := 0, slots := 0, locals := 12 } : Room)) (fun a U => a = #[(.ref a7_0)] ∧ Z.Warmed39 U.vm ∧ U.heap = h0) (fun _ _ _ _ _ => True) (fun _ U o U' => ∃ v L, o = .returned v ∧ own_Q7 Z a7_0 w_bits_a7_0 h0 n0 v U'.heap L ∧ FrameEnd U o U' L ({ frames := 1, cells := 0, slots := 0, locals := 12 } : Room).cells ({ frames := 1, cells := 0, slots := 0, locals := 12 } : Room).slots) := by
  refine MetFree.of_bodySF (plainFor_of_name pn_com_example_rundown_rundown_llvm_Type) hisR ?_
  intro p e s m args below meth c s₁ Bd hml0 hP hK
  obtain ⟨rfl, hZ, hh⟩ := hP
  have hx := Bd.exec
  have hby := Bd.bytes
  have hlk : meth.locks = false := BodyLoose.notSynchronized Bd
  have hml : c.maxLocals = 1 := hml0
  have hown : s.vm.findClass "com/example/rundown/rundown/llvm/Type" = some m.cls := findClass_of_methodNamed Bd.named
  have hnm := (name_of_methodNamed Bd.named Bd.method).1
  have X0 : Stand p l e ({ frames := 1, cells := 0, slots := 0, locals := 12 } : Room) s m #[(.ref a7_0)] below meth c s₁ [] 0 0 := Stand.of_body Bd
  have e0 : s₁.heap = h0 := by rw [← hh, Bd.state]; rfl
  have N0 := Fr.nil n0
  show own_Go p e below (own_P s below ({ frames := 1, cells := 0, slots := 0, locals := 12 } : Room) (own_Q7 Z a7_0 w_bits_a7_0 h0 n0)) s₁ (entryFrame m #[(.ref a7_0)] 1)
  refine own_in (own_ef7 m a7_0) ?_
  refine own_by (T' := s₁) (g' := (mkF m 1 #[.val (.ref a7_0)] [(.ref a7_0)])) (fun t k => ?_) ?_
  · show Steps p.tables e below (s₁.setTop (mkF m 0 #[.val (.ref a7_0)] [])) t
    refine XS.aloadN X0.here hx rfl (hb hby d7_0) rfl rfl ?_
    show Steps p.tables e below (s₁.setTop (mkF m 1 #[.val (.ref a7_0)] [(.ref a7_0)])) t
    exact k
  obtain ⟨cq44, kq44, q44a, q44b, q44c⟩ := isOf hZ e0 E_a7_0
  obtain ⟨v44, _, ⟨T44, L44, k44, n44⟩, -, X44, ⟨Lc44, hQ44, l44, y44, z44⟩, st44⟩ := X0.interfaceBack hx (xi := (⟨"com/example/rundown/rundown/llvm/Type", "isSized", "()Z"⟩ : MethodName)) (y := (⟨"com/example/rundown/rundown/llvm/Type$IntegerType", "isSized", "()Z"⟩ : MethodName)) hown (mvT hZ (hw _ (List.mem_of_getElem? (i := 36) rfl))) (mvT hZ (hw _ (List.mem_of_getElem? (i := 37) rfl))) (mvT hZ (hw _ (List.mem_of_getElem? (i := 38) rfl))) (mvT hZ (hw _ (List.mem_of_getElem? (i := 39) rfl))) (mvT hZ (hw _ (List.mem_of_getElem? (i := 18) rfl))) (mvT hZ (hw _ (List.mem_of_getElem? (i := 40) rfl))) (mvT hZ (hw _ (List.mem_of_getElem? (i := 41) rfl))) (mvT hZ (hw _ (List.mem_of_getElem? (i := 42) rfl))) (by decide) (backOf (W := 0) (own_rm4 l Z a0 hw [] a7_0 w_bits_a7_0 h0 n0 Z0 F_bits_a7_0) hZ (hw _ (List.mem_of_getElem? (i := 20) rfl)) (hw _ (List.mem_of_getElem? (i := 2) rfl)) (by decide) (by decide)) q44a q44b q44c (g := (mkF m 1 #[.val (.ref a7_0)] [(.ref a7_0)])) rfl (by rw [hml]; rfl) (Steps.refl _) (argsL := []) (rest := []) (lenOf pd___Z rfl) rfl (by show 2 * 0 + _ ≤ _; exact Nat.le_of_eq rfl) (hb hby d7_1) (fun _ _ => ⟨rfl, e0, (by decide : 0 + 0 ≤ _), (by decide : 0 + 0 ≤ _)⟩)
  dsimp only [Pt.U, Pt.locs, Pt.cells, Pt.slots] at X44 l44 y44 z44 st44 hQ44
  subst l44 y44 z44
  obtain ⟨rfl, M44, e44⟩ := hQ44
  have N45 := Fr.app N0 M44
  refine own_via (T' := T44) (g' := (mkF m 6 #[.val (.ref a7_0)] [(.int (own_F4 w_bits_a7_0))])) st44 ?_
  refine own_by (T' := T44) (g' := (mkF m 26 #[.val (.ref a7_0)] [])) (fun t k => ?_) ?_
  · show Steps p.tables e below (T44.setTop (mkF m 6 #[.val (.ref a7_0)] [(.int (own_F4 w_bits_a7_0))])) t
    refine XS.ifYes X44.here hx rfl (pc0 := 6) (pc' := 26) rfl (hb hby d7_6) rfl ((if0 _ _).trans (feq HS).2) (by decide) (by decide) ?_
    show Steps p.tables e below (T44.setTop (mkF m 26 #[.val (.ref a7_0)] [])) t
    exact k
  exact own_ret0 X44 hx Bd.returns (hb hby d7_26) hlk (by decide) (by decide) (by rw [e44]; exact ⟨rfl, N45, (Keep.refl h0 [])⟩)
theorem d6_0 : decode prog_47_method_4_code 0 = .ok (.aload_n 0, 1) := by decide +kernel
theorem d6_1 : decode prog_47_method_4_code 1 = .ok (.invokestatic 13, 3) := by decide +kernel
theorem pd__Lcom_example_rundown_rundown_llvm_Type__V : parseMethodDescriptor "(Lcom/example/rundown/rundown/llvm/Type;)V" = some ⟨[(.object "com/example/rundown/rundown/llvm/Type")], none⟩ := by decide +kernel
theorem d6_4 : decode prog_47_method_4_code 4 = .ok (.aload_n 0, 1) := by decide +kernel
theorem d6_5 : decode prog_47_method_4_code 5 = .ok (.invokevirtual 19, 3) := by decide +kernel
theorem pd___J : parseMethodDescriptor "()J" = some ⟨[], some .long⟩ := by decide +kernel
theorem d6_8 : decode prog_47_method_4_code 8 = .ok (.ldc2_w 23, 3) := by decide +kernel
theorem d6_11 : decode prog_47_method_4_code 11 = .ok (.lmul, 1) := by decide +kernel
theorem d6_12 : decode prog_47_method_4_code 12 = .ok (.lconst 1, 1) := by decide +kernel
theorem d6_13 : decode prog_47_method_4_code 13 = .ok (.lsub, 1) := by decide +kernel
theorem d6_14 : decode prog_47_method_4_code 14 = .ok (.invokestatic 25, 3) := by decide +kernel
theorem pd__J_J : parseMethodDescriptor "(J)J" = some ⟨[.long], some .long⟩ := by decide +kernel
theorem d6_17 : decode prog_47_method_4_code 17 = .ok (.lreturn, 1) := by decide +kernel
def own_F6 (w_bits_a6_0 : Int32) : Int64 := (own_F8 (((own_F5 w_bits_a6_0) * (2 : Int64)) - (1 : Int64)))
theorem own_ef6 (m : MethodId) (x0 : Addr) : entryFrame m #[(.ref x0)] 1 = mkF m 0 #[.val (.ref x0)] [] := by first | (simp [entryFrame, mkF, argsToLocals, Value.category]; done) | rfl
def own_Q6 (r : Int64) (h0 : Heap) (n0 : Nat) (v : Option Value) (h : Heap) (L : List Loc) : Prop := v = some (.long r) ∧ Fr n0 L ∧ Keep h0 h []
set_option maxRecDepth 65536 in
set_option maxHeartbeats 40000000 in
theorem own_rm6 (l : Launch) (Z : State) (a0 : Array Value) (hw : ∀ d ∈ tables_1, d.before a0 Z = true) (ws : List Jvm.Cond) (a6_0 : Addr) (w_bits_a6_0 : Int32) (h0 : Heap) (n0 : Nat) (Z0 : n0 ≤ h0.size) (HS : ¬ ((own_F4 w_bits_a6_0) = (0 : Int32))) (F_bits_a6_0 : Fld Z h0 a6_0 "com/example/rundown/rundown/llvm/Type$IntegerType" "bits" "I" (.int w_bits_a6_0)) (E_a6_0 : Exa Z h0 a6_0 "com/example/rundown/rundown/llvm/Type$IntegerType") :
    MetFree l (⟨"com/example/rundown/rundown/llvm/Type$IntegerType", "size", "()J"⟩ : MethodName) (head1 (Jvm.Cond.code (⟨"com/example/rundown/rundown/llvm/Type$IntegerType", "size", "()J"⟩ : MethodName) prog_47_method_4_code 1 (some .long) :: ws) ({ frames := 3, cells := 0, slots := 0, locals := 45 } : Room)) (fun a U => a = #[(.ref a6_0)] ∧ Z.Warmed39 U.vm ∧ U.heap = h0) (fun _ _ _ _ _ => True) (fun _ U o U' => ∃ v L, o = .returned v ∧ own_Q6 (own_F6 w_bits_a6_0) h0 n0 v U'.heap L ∧ FrameEnd U o U' L ({ frames := 3, cells := 0, slots := 0, locals := 45 } : Room).cells ({ frames := 3, cells := 0, slots := 0, locals := 45 } : Room).slots) := by
  refine MetFree.of_bodySF (plainFor_of_name pn_com_example_rundown_rundown_llvm_Type_IntegerType) hisR ?_
  intro p e s m args below meth c s₁ Bd hml0 hP hK
  obtain ⟨rfl, hZ, hh⟩ := hP
  have hx := Bd.exec
  have hby := Bd.bytes
  have hlk : meth.locks = false := BodyLoose.notSynchronized Bd
  have hml : c.maxLocals = 1 := hml0
  have hown : s.vm.findClass "com/example/rundown/rundown/llvm/Type$IntegerType" = some m.cls := findClass_of_methodNamed Bd.named
  have hnm := (name_of_methodNamed Bd.named Bd.method).1
  have X0 : Stand p l e ({ frames := 3, cells := 0, slots := 0, locals := 45 } : Room) s m #[(.ref a6_0)] below meth c s₁ [] 0 0 := Stand.of_body Bd
  have e0 : s₁.heap = h0 := by rw [← hh, Bd.state]; rfl
  have N0 := Fr.nil n0
  show own_Go p e below (own_P s below ({ frames := 3, cells := 0, slots := 0, locals := 45 } : Room) (own_Q6 (own_F6 w_bits_a6_0) h0 n0)) s₁ (entryFrame m #[(.ref a6_0)] 1)
  refine own_in (own_ef6 m a6_0) ?_
  refine own_by (T' := s₁) (g' := (mkF m 1 #[.val (.ref a6_0)] [(.ref a6_0)])) (fun t k => ?_) ?_
  · show Steps p.tables e below (s₁.setTop (mkF m 0 #[.val (.ref a6_0)] [])) t
    refine XS.aloadN X0.here hx rfl (hb hby d6_0) rfl rfl ?_
    show Steps p.tables e below (s₁.setTop (mkF m 1 #[.val (.ref a6_0)] [(.ref a6_0)])) t
    exact k
  obtain ⟨v46, _, ⟨T46, L46, k46, n46⟩, -, X46, ⟨Lc46, hQ46, l46, y46, z46⟩, st46⟩ := callSN X0 hx (y := (⟨"com/example/rundown/rundown/llvm/Type", "requireSized", "(Lcom/example/rundown/rundown/llvm/Type;)V"⟩ : MethodName)) hown (Jvm.Cond.methodLinkNest_wide hZ (hw _ (List.mem_of_getElem? (i := 32) rfl)) :) (mvT hZ (hw _ (List.mem_of_getElem? (i := 33) rfl))) (mvT hZ (hw _ (List.mem_of_getElem? (i := 34) rfl))) (mvT hZ (hw _ (List.mem_of_getElem? (i := 35) rfl))) (by decide) (backOf (W := 0) (own_rm7 l Z a0 hw [] a6_0 w_bits_a6_0 h0 n0 Z0 HS E_a6_0 F_bits_a6_0) hZ (hw _ (List.mem_of_getElem? (i := 35) rfl)) (hw _ (List.mem_of_getElem? (i := 34) rfl)) (by decide) (by decide)) (g := (mkF m 1 #[.val (.ref a6_0)] [(.ref a6_0)])) rfl (by rw [hml]; rfl) (argsL := [(.ref a6_0)]) (rest := []) (lenOf pd__Lcom_example_rundown_rundown_llvm_Type__V rfl) rfl (by show 2 * 0 + _ ≤ _; exact Nat.le_of_eq rfl) (hb hby d6_1) (fun _ _ => ⟨rfl, e0, (by decide : 0 + 0 ≤ _), (by decide : 0 + 0 ≤ _)⟩)
  dsimp only [Pt.U, Pt.locs, Pt.cells, Pt.slots] at X46 l46 y46 z46 st46 hQ46
  subst l46 y46 z46
  obtain ⟨rfl, M46, K46⟩ := hQ46
  have f47 := F_bits_a6_0.keep K46 nin0
  have f48 := E_a6_0.keep K46
  have K49 : Keep h0 T46.heap [] := (Keep.refl h0 []).trans K46 all0
  have Z50 := Nat.le_trans Z0 K46.1
  have N51 := Fr.app N0 M46
  refine own_via (T' := T46) (g' := (mkF m 4 #[.val (.ref a6_0)] [])) st46 ?_
  refine own_by (T' := T46) (g' := (mkF m 5 #[.val (.ref a6_0)] [(.ref a6_0)])) (fun t k => ?_) ?_
  · show Steps p.tables e below (T46.setTop (mkF m 4 #[.val (.ref a6_0)] [])) t
    refine XS.aloadN X46.here hx rfl (hb hby d6_4) rfl rfl ?_
    show Steps p.tables e below (T46.setTop (mkF m 5 #[.val (.ref a6_0)] [(.ref a6_0)])) t
    exact k
  obtain ⟨cq52, kq52, q52a, q52b, q52c⟩ := isOf hZ rfl f48
  obtain ⟨v52, _, ⟨T52, L52, k52, n52⟩, -, X52, ⟨Lc52, hQ52, l52, y52, z52⟩, st52⟩ := X46.virtualBack hx (y := (⟨"com/example/rundown/rundown/llvm/Type$IntegerType", "storeSize", "()J"⟩ : MethodName)) (z := (⟨"com/example/rundown/rundown/llvm/Type$IntegerType", "storeSize", "()J"⟩ : MethodName)) hown (mvT hZ (hw _ (List.mem_of_getElem? (i := 43) rfl))) (mvT hZ (hw _ (List.mem_of_getElem? (i := 22) rfl))) (notFace_of_selects (args := #[]) (mvT hZ (hw _ (List.mem_of_getElem? (i := 24) rfl)))) (mvT hZ (hw _ (List.mem_of_getElem? (i := 24) rfl))) (mvT hZ (hw _ (List.mem_of_getElem? (i := 23) rfl))) (by decide) (backOf (W := 0) (own_rm5 l Z a0 hw [] a6_0 w_bits_a6_0 T46.heap n0 Z50 f47) hZ (hw _ (List.mem_of_getElem? (i := 25) rfl)) (hw _ (List.mem_of_getElem? (i := 2) rfl)) (by decide) (by decide)) q52a q52c (g := (mkF m 5 #[.val (.ref a6_0)] [(.ref a6_0)])) rfl (by rw [hml]; rfl) (Steps.refl _) (argsL := []) (rest := []) (lenOf pd___J rfl) rfl (by show 2 * 0 + _ ≤ _; exact Nat.le_of_eq rfl) (hb hby d6_5) (fun _ _ => ⟨rfl, rfl, (by decide : 0 + 0 ≤ _), (by decide : 0 + 0 ≤ _)⟩)
  dsimp only [Pt.U, Pt.locs, Pt.cells, Pt.slots] at X52 l52 y52 z52 st52 hQ52
  subst l52 y52 z52
  obtain ⟨rfl, M52, e52⟩ := hQ52
  have N53 := Fr.app N51 M52
  refine own_via (T' := T52) (g' := (mkF m 8 #[.val (.ref a6_0)] [(.long (own_F5 w_bits_a6_0))])) st52 ?_
  refine own_by (T' := T52) (g' := (mkF m 14 #[.val (.ref a6_0)] [(.long (((own_F5 w_bits_a6_0) * (2 : Int64)) - (1 : Int64)))])) (fun t k => ?_) ?_
  · show Steps p.tables e below (T52.setTop (mkF m 8 #[.val (.ref a6_0)] [(.long (own_F5 w_bits_a6_0))])) t
    refine X52.ldc2Long hx hown (mvT hZ (hw _ (List.mem_of_getElem? (i := 44) rfl))) (g := (mkF m 8 #[.val (.ref a6_0)] [(.long (own_F5 w_bits_a6_0))])) rfl (hb hby d6_8) _ ?_
    show Steps p.tables e below (T52.setTop (mkF m 11 #[.val (.ref a6_0)] [(.long (2 : Int64)), (.long (own_F5 w_bits_a6_0))])) t
    refine XS.lmul X52.here hx rfl (hb hby d6_11) rfl ?_
    show Steps p.tables e below (T52.setTop (mkF m 12 #[.val (.ref a6_0)] [(.long ((own_F5 w_bits_a6_0) * (2 : Int64)))])) t
    refine XS.lconst X52.here hx rfl (hb hby d6_12) ?_
    show Steps p.tables e below (T52.setTop (mkF m 13 #[.val (.ref a6_0)] [(.long (1 : Int64)), (.long ((own_F5 w_bits_a6_0) * (2 : Int64)))])) t
    refine XS.lsub X52.here hx rfl (hb hby d6_13) rfl ?_
    show Steps p.tables e below (T52.setTop (mkF m 14 #[.val (.ref a6_0)] [(.long (((own_F5 w_bits_a6_0) * (2 : Int64)) - (1 : Int64)))])) t
    exact k
  obtain ⟨v54, _, ⟨T54, L54, k54, n54⟩, -, X54, ⟨Lc54, hQ54, l54, y54, z54⟩, st54⟩ := Jvm.LawKit.callS X52 hx (y := (⟨"java/lang/Long", "highestOneBit", "(J)J"⟩ : MethodName)) hown (mvT hZ (hw _ (List.mem_of_getElem? (i := 45) rfl))) (mvT hZ (hw _ (List.mem_of_getElem? (i := 46) rfl))) (mvT hZ (hw _ (List.mem_of_getElem? (i := 47) rfl))) (mvT hZ (hw _ (List.mem_of_getElem? (i := 48) rfl))) (by decide) (backOf (W := 0) (own_rm8 l Z a0 hw [] (((own_F5 w_bits_a6_0) * (2 : Int64)) - (1 : Int64)) T46.heap n0 Z50) hZ (hw _ (List.mem_of_getElem? (i := 48) rfl)) (hw _ (List.mem_of_getElem? (i := 47) rfl)) (by decide) (by decide)) (g := (mkF m 14 #[.val (.ref a6_0)] [(.long (((own_F5 w_bits_a6_0) * (2 : Int64)) - (1 : Int64)))])) rfl (by rw [hml]; rfl) (argsL := [(.long (((own_F5 w_bits_a6_0) * (2 : Int64)) - (1 : Int64)))]) (rest := []) (lenOf pd__J_J rfl) rfl (by show 2 * 0 + _ ≤ _; exact Nat.le_of_eq rfl) (hb hby d6_14) (fun _ _ => ⟨rfl, e52, (by decide : 0 + 0 ≤ _), (by decide : 0 + 0 ≤ _)⟩)
  dsimp only [Pt.U, Pt.locs, Pt.cells, Pt.slots] at X54 l54 y54 z54 st54 hQ54
  subst l54 y54 z54
  obtain ⟨rfl, M54, e54⟩ := hQ54
  have N55 := Fr.app N53 M54
  refine own_by (T' := T54) (g' := (mkF m 17 #[.val (.ref a6_0)] [(.long (own_F8 (((own_F5 w_bits_a6_0) * (2 : Int64)) - (1 : Int64))))])) st54 ?_
  rw [show own_F6 w_bits_a6_0 = (own_F8 (((own_F5 w_bits_a6_0) * (2 : Int64)) - (1 : Int64))) from rfl]
  exact own_retJ X54 hx Bd.returns (hb hby d6_17) hlk (by decide) (by decide) ⟨rfl, N55, (by rw [e54]; exact K49)⟩
theorem pd__I_V : parseMethodDescriptor "(I)V" = some ⟨[.int], none⟩ := by decide +kernel
theorem pn_com_example_rundown_rundown_llvm_IntegerTypeIsSizedPinLaw : plainName "com/example/rundown/rundown/llvm/IntegerTypeIsSizedPinLaw" = true := by first | (simp [plainName, overriddenIn]; done) | decide +kernel
def own_F0_61_2 (p0_0 : Int32) (p0_1 : Int32) (i57 : Int32) (i75 : Int32) : Int32 := (if (own_F4 i57) = i75 then (if (own_F4 i57) = (0 : Int32) then (1 : Int32) else (if (own_F6 i57) < (own_F5 i57) then (0 : Int32) else (if (own_F6 i57) < ((2 : Int64) * (own_F5 i57)) then (if ((own_F6 i57) &&& ((own_F6 i57) - (1 : Int64))) = (0 : Int64) then (if (16 : Int64) < (own_F6 i57) then (0 : Int32) else (1 : Int32)) else (0 : Int32)) else (0 : Int32)))) else (0 : Int32))
def own_F0_24_1 (p0_0 : Int32) (p0_1 : Int32) (i57 : Int32) : Int32 := (if (16 : Int64) < (own_F5 i57) then (own_F0_61_2 p0_0 p0_1 i57 (0 : Int32)) else (own_F0_61_2 p0_0 p0_1 i57 (1 : Int32)))
def own_F0 (p0_0 : Int32) (p0_1 : Int32) : Int32 := (if (p0_1 &&& (1 : Int32)) = (0 : Int32) then (own_F0_24_1 p0_0 p0_1 ((p0_0 &&& (1073741823 : Int32)) + (1 : Int32))) else (own_F0_24_1 p0_0 p0_1 ((121 : Int32) + (p0_0 &&& (15 : Int32)))))
theorem own_ef0 (m : MethodId) (x0 : Int32) (x1 : Int32) : entryFrame m #[(.int x0), (.int x1)] maxLocals = mkF m 0 #[.val (.int x0), .val (.int x1), .unset, .unset, .unset, .unset, .unset, .unset, .unset] [] := by first | (simp [entryFrame, mkF, argsToLocals, Value.category, maxLocals]; done) | rfl
def own_Q0 (r : Int32) (h0 : Heap) (n0 : Nat) (v : Option Value) (h : Heap) (L : List Loc) : Prop := v = some (.int r) ∧ Fr n0 L
set_option maxRecDepth 65536 in
set_option maxHeartbeats 40000000 in
theorem own_rm0 (l : Launch) (Z : State) (a0 : Array Value) (hw : ∀ d ∈ tables_1, d.before a0 Z = true) (ws : List Jvm.Cond) (p0_0 : Int32) (p0_1 : Int32) (h0 : Heap) (n0 : Nat) (Z0 : n0 ≤ h0.size) :
    MetFree l x (head1 (Jvm.Cond.code x code maxLocals ret :: ws) room_1) (fun a U => a = #[(.int p0_0), (.int p0_1)] ∧ Z.Warmed39 U.vm ∧ U.heap = h0) (fun _ _ _ _ _ => True) (fun _ U o U' => ∃ v L, o = .returned v ∧ own_Q0 (own_F0 p0_0 p0_1) h0 n0 v U'.heap L ∧ FrameEnd U o U' L room_1.cells room_1.slots) := by
  refine MetFree.of_bodySF (plainFor_of_name pn_com_example_rundown_rundown_llvm_IntegerTypeIsSizedPinLaw) hisR ?_
  intro p e s m args below meth c s₁ Bd hml0 hP hK
  obtain ⟨rfl, hZ, hh⟩ := hP
  have hx := Bd.exec
  have hby := Bd.bytes
  have hlk : meth.locks = false := BodyLoose.notSynchronized Bd
  have hml : c.maxLocals = 9 := hml0
  have hown : s.vm.findClass "com/example/rundown/rundown/llvm/IntegerTypeIsSizedPinLaw" = some m.cls := findClass_of_methodNamed Bd.named
  have hnm := (name_of_methodNamed Bd.named Bd.method).1
  have X0 : Stand p l e room_1 s m #[(.int p0_0), (.int p0_1)] below meth c s₁ [] 0 0 := Stand.of_body Bd
  have e0 : s₁.heap = h0 := by rw [← hh, Bd.state]; rfl
  have N0 := Fr.nil n0
  show own_Go p e below (own_P s below room_1 (own_Q0 (own_F0 p0_0 p0_1) h0 n0)) s₁ (entryFrame m #[(.int p0_0), (.int p0_1)] maxLocals)
  refine own_in (own_ef0 m p0_0 p0_1) ?_
  refine own_by (T' := s₁) (g' := (mkF m 3 #[.val (.int p0_0), .val (.int p0_1), .unset, .unset, .unset, .unset, .unset, .unset, .unset] [(.int (p0_1 &&& (1 : Int32)))])) (fun t k => ?_) ?_
  · show Steps p.tables e below (s₁.setTop (mkF m 0 #[.val (.int p0_0), .val (.int p0_1), .unset, .unset, .unset, .unset, .unset, .unset, .unset] [])) t
    refine XS.iloadN X0.here hx rfl (hb hby at_0) rfl ?_
    show Steps p.tables e below (s₁.setTop (mkF m 1 #[.val (.int p0_0), .val (.int p0_1), .unset, .unset, .unset, .unset, .unset, .unset, .unset] [(.int p0_1)])) t
    refine XS.iconst X0.here hx rfl (hb hby at_1) ?_
    show Steps p.tables e below (s₁.setTop (mkF m 2 #[.val (.int p0_0), .val (.int p0_1), .unset, .unset, .unset, .unset, .unset, .unset, .unset] [(.int (1 : Int32)), (.int p0_1)])) t
    refine XS.iand X0.here hx rfl (hb hby at_2) rfl ?_
    show Steps p.tables e below (s₁.setTop (mkF m 3 #[.val (.int p0_0), .val (.int p0_1), .unset, .unset, .unset, .unset, .unset, .unset, .unset] [(.int (p0_1 &&& (1 : Int32)))])) t
    exact k
  have J0_1 : ∀ (T58 : State) (L58 : List Loc) (i57 : Int32), Stand p l e room_1 s m #[(.int p0_0), (.int p0_1)] below meth c T58 L58 0 0 → T58.heap = h0 → Fr n0 L58 → own_Go p e below (own_P s below room_1 (own_Q0 (own_F0_24_1 p0_0 p0_1 i57) h0 n0)) T58 (mkF m 24 #[.val (.int p0_0), .val (.int p0_1), .val (.int i57), .unset, .unset, .unset, .unset, .unset, .unset] []) := by
    intro T58 L58 i57 X58 e58 N58
    obtain ⟨T59, h59, X59, e59, E59, A59, D59, -, st59⟩ := newO X58 hx hZ hown (hw _ (List.mem_of_getElem? (i := 0) rfl)) (hw _ (List.mem_of_getElem? (i := 1) rfl)) (hw _ (List.mem_of_getElem? (i := 2) rfl)) e58 (g := (mkF m 24 #[.val (.int p0_0), .val (.int p0_1), .val (.int i57), .unset, .unset, .unset, .unset, .unset, .unset] [])) rfl (hb hby at_24) (by decide) (by decide)
    obtain ⟨b59, g59⟩ : ∃ z, z = h0.size := ⟨_, rfl⟩
    rw [← g59] at A59 D59 st59
    have gn_b59 : n0 ≤ b59 := Nat.le_trans Z0 (Nat.le_of_eq g59.symm)
    have sz_b59 : h0.size ≤ b59 := Nat.le_trans (Keep.refl h0 []).1 (Nat.le_of_eq g59.symm)
    have K60 : Keep h0 h59 [] := (Keep.refl h0 []).ext E59
    have Z61 := Nat.le_trans Z0 E59.1
    have f62 : Fld Z h59 b59 "com/example/rundown/rundown/llvm/Type$IntegerType" "bits" "I" (.int (0 : Int32)) := D59 (Or.inr (hw _ (List.mem_of_getElem? (i := 15) rfl))) (ty := .int) (by decide)
    refine own_by (T' := T59) (g' := (mkF m 27 #[.val (.int p0_0), .val (.int p0_1), .val (.int i57), .unset, .unset, .unset, .unset, .unset, .unset] [(.ref b59)])) st59 ?_
    refine own_by (T' := T59) (g' := (mkF m 29 #[.val (.int p0_0), .val (.int p0_1), .val (.int i57), .unset, .unset, .unset, .unset, .unset, .unset] [(.int i57), (.ref b59), (.ref b59)])) (fun t k => ?_) ?_
    · show Steps p.tables e below (T59.setTop (mkF m 27 #[.val (.int p0_0), .val (.int p0_1), .val (.int i57), .unset, .unset, .unset, .unset, .unset, .unset] [(.ref b59)])) t
      refine XS.dup X59.here hx rfl (hb hby at_27) rfl rfl ?_
      show Steps p.tables e below (T59.setTop (mkF m 28 #[.val (.int p0_0), .val (.int p0_1), .val (.int i57), .unset, .unset, .unset, .unset, .unset, .unset] [(.ref b59), (.ref b59)])) t
      refine XS.iloadN X59.here hx rfl (hb hby at_28) rfl ?_
      show Steps p.tables e below (T59.setTop (mkF m 29 #[.val (.int p0_0), .val (.int p0_1), .val (.int i57), .unset, .unset, .unset, .unset, .unset, .unset] [(.int i57), (.ref b59), (.ref b59)])) t
      exact k
    obtain ⟨v63, _, ⟨T63, L63, k63, n63⟩, -, X63, ⟨Lc63, hQ63, l63, y63, z63⟩, st63⟩ := X59.specialBack hx (y := (⟨"com/example/rundown/rundown/llvm/Type$IntegerType", "<init>", "(I)V"⟩ : MethodName)) rfl hown (mvT hZ (hw _ (List.mem_of_getElem? (i := 3) rfl))) (mvT hZ (hw _ (List.mem_of_getElem? (i := 4) rfl))) (mvT hZ (hw _ (List.mem_of_getElem? (i := 5) rfl))) (by decide) (backOf (W := 1) (own_rm1 l Z a0 hw [] b59 i57 (.int (0 : Int32)) h59 n0 Z61 A59 f62 gn_b59) hZ (hw _ (List.mem_of_getElem? (i := 5) rfl)) (hw _ (List.mem_of_getElem? (i := 2) rfl)) (by decide) (by decide)) (g := (mkF m 29 #[.val (.int p0_0), .val (.int p0_1), .val (.int i57), .unset, .unset, .unset, .unset, .unset, .unset] [(.int i57), (.ref b59), (.ref b59)])) rfl (by rw [hml]; rfl) (Steps.refl _) (a := b59) (argsL := [(.int i57)]) (rest := [(.ref b59)]) (lenOf pd__I_V rfl) rfl (by show 2 * 0 + _ ≤ _; exact Nat.le_of_eq rfl) (hb hby at_29) (fun _ _ => ⟨rfl, e59, (by decide : 1 + 0 ≤ _), (by decide : 1 + 0 ≤ _)⟩)
    dsimp only [Pt.U, Pt.locs, Pt.cells, Pt.slots] at X63 l63 y63 z63 st63 hQ63
    subst l63 y63 z63
    obtain ⟨rfl, M63, K63, f64, f65⟩ := hQ63
    have f66 := A59.keep K63
    have K67 : Keep h0 T63.heap [] := K60.trans K63 (allS (Or.inr sz_b59) all0)
    have Z68 := Nat.le_trans Z61 K63.1
    have N69 := Fr.app N58 M63
    refine own_via (T' := T63) (g' := (mkF m 32 #[.val (.int p0_0), .val (.int p0_1), .val (.int i57), .unset, .unset, .unset, .unset, .unset, .unset] [(.ref b59)])) st63 ?_
    refine own_by (T' := T63) (g' := (mkF m 34 #[.val (.int p0_0), .val (.int p0_1), .val (.int i57), .val (.ref b59), .unset, .unset, .unset, .unset, .unset] [(.ref b59)])) (fun t k => ?_) ?_
    · show Steps p.tables e below (T63.setTop (mkF m 32 #[.val (.int p0_0), .val (.int p0_1), .val (.int i57), .unset, .unset, .unset, .unset, .unset, .unset] [(.ref b59)])) t
      refine XS.astoreN X63.here hx rfl (hb hby at_32) rfl rfl (l' := #[.val (.int p0_0), .val (.int p0_1), .val (.int i57), .val (.ref b59), .unset, .unset, .unset, .unset, .unset]) rfl ?_
      show Steps p.tables e below (T63.setTop (mkF m 33 #[.val (.int p0_0), .val (.int p0_1), .val (.int i57), .val (.ref b59), .unset, .unset, .unset, .unset, .unset] [])) t
      refine XS.aloadN X63.here hx rfl (hb hby at_33) rfl rfl ?_
      show Steps p.tables e below (T63.setTop (mkF m 34 #[.val (.int p0_0), .val (.int p0_1), .val (.int i57), .val (.ref b59), .unset, .unset, .unset, .unset, .unset] [(.ref b59)])) t
      exact k
    obtain ⟨cq70, kq70, q70a, q70b, q70c⟩ := isOf hZ rfl f64
    obtain ⟨v70, _, ⟨T70, L70, k70, n70⟩, -, X70, ⟨Lc70, hQ70, l70, y70, z70⟩, st70⟩ := X63.virtualBack hx (y := (⟨"com/example/rundown/rundown/llvm/Type$IntegerType", "isSized", "()Z"⟩ : MethodName)) (z := (⟨"com/example/rundown/rundown/llvm/Type$IntegerType", "isSized", "()Z"⟩ : MethodName)) hown (mvT hZ (hw _ (List.mem_of_getElem? (i := 16) rfl))) (mvT hZ (hw _ (List.mem_of_getElem? (i := 17) rfl))) (notFace_of_selects (args := #[]) (mvT hZ (hw _ (List.mem_of_getElem? (i := 19) rfl)))) (mvT hZ (hw _ (List.mem_of_getElem? (i := 19) rfl))) (mvT hZ (hw _ (List.mem_of_getElem? (i := 18) rfl))) (by decide) (backOf (W := 0) (own_rm4 l Z a0 hw [] b59 i57 T63.heap n0 Z68 f65) hZ (hw _ (List.mem_of_getElem? (i := 20) rfl)) (hw _ (List.mem_of_getElem? (i := 2) rfl)) (by decide) (by decide)) q70a q70c (g := (mkF m 34 #[.val (.int p0_0), .val (.int p0_1), .val (.int i57), .val (.ref b59), .unset, .unset, .unset, .unset, .unset] [(.ref b59)])) rfl (by rw [hml]; rfl) (Steps.refl _) (argsL := []) (rest := []) (lenOf pd___Z rfl) rfl (by show 2 * 0 + _ ≤ _; exact Nat.le_of_eq rfl) (hb hby at_34) (fun _ _ => ⟨rfl, rfl, (by decide : 1 + 0 ≤ _), (by decide : 1 + 0 ≤ _)⟩)
    dsimp only [Pt.U, Pt.locs, Pt.cells, Pt.slots] at X70 l70 y70 z70 st70 hQ70
    subst l70 y70 z70
    obtain ⟨rfl, M70, e70⟩ := hQ70
    have N71 := Fr.app N69 M70
    refine own_via (T' := T70) (g' := (mkF m 37 #[.val (.int p0_0), .val (.int p0_1), .val (.int i57), .val (.ref b59), .unset, .unset, .unset, .unset, .unset] [(.int (own_F4 i57))])) st70 ?_
    refine own_by (T' := T70) (g' := (mkF m 40 #[.val (.int p0_0), .val (.int p0_1), .val (.int i57), .val (.ref b59), .val (.int (own_F4 i57)), .unset, .unset, .unset, .unset] [(.ref b59)])) (fun t k => ?_) ?_
    · show Steps p.tables e below (T70.setTop (mkF m 37 #[.val (.int p0_0), .val (.int p0_1), .val (.int i57), .val (.ref b59), .unset, .unset, .unset, .unset, .unset] [(.int (own_F4 i57))])) t
      refine XS.istore X70.here hx rfl (hb hby at_37) rfl (l' := #[.val (.int p0_0), .val (.int p0_1), .val (.int i57), .val (.ref b59), .val (.int (own_F4 i57)), .unset, .unset, .unset, .unset]) rfl ?_
      show Steps p.tables e below (T70.setTop (mkF m 39 #[.val (.int p0_0), .val (.int p0_1), .val (.int i57), .val (.ref b59), .val (.int (own_F4 i57)), .unset, .unset, .unset, .unset] [])) t
      refine XS.aloadN X70.here hx rfl (hb hby at_39) rfl rfl ?_
      show Steps p.tables e below (T70.setTop (mkF m 40 #[.val (.int p0_0), .val (.int p0_1), .val (.int i57), .val (.ref b59), .val (.int (own_F4 i57)), .unset, .unset, .unset, .unset] [(.ref b59)])) t
      exact k
    obtain ⟨cq72, kq72, q72a, q72b, q72c⟩ := isOf hZ e70 f64
    obtain ⟨v72, _, ⟨T72, L72, k72, n72⟩, -, X72, ⟨Lc72, hQ72, l72, y72, z72⟩, st72⟩ := X70.virtualBack hx (y := (⟨"com/example/rundown/rundown/llvm/Type$IntegerType", "storeSize", "()J"⟩ : MethodName)) (z := (⟨"com/example/rundown/rundown/llvm/Type$IntegerType", "storeSize", "()J"⟩ : MethodName)) hown (mvT hZ (hw _ (List.mem_of_getElem? (i := 21) rfl))) (mvT hZ (hw _ (List.mem_of_getElem? (i := 22) rfl))) (notFace_of_selects (args := #[]) (mvT hZ (hw _ (List.mem_of_getElem? (i := 24) rfl)))) (mvT hZ (hw _ (List.mem_of_getElem? (i := 24) rfl))) (mvT hZ (hw _ (List.mem_of_getElem? (i := 23) rfl))) (by decide) (backOf (W := 0) (own_rm5 l Z a0 hw [] b59 i57 T63.heap n0 Z68 f65) hZ (hw _ (List.mem_of_getElem? (i := 25) rfl)) (hw _ (List.mem_of_getElem? (i := 2) rfl)) (by decide) (by decide)) q72a q72c (g := (mkF m 40 #[.val (.int p0_0), .val (.int p0_1), .val (.int i57), .val (.ref b59), .val (.int (own_F4 i57)), .unset, .unset, .unset, .unset] [(.ref b59)])) rfl (by rw [hml]; rfl) (Steps.refl _) (argsL := []) (rest := []) (lenOf pd___J rfl) rfl (by show 2 * 0 + _ ≤ _; exact Nat.le_of_eq rfl) (hb hby at_40) (fun _ _ => ⟨rfl, e70, (by decide : 1 + 0 ≤ _), (by decide : 1 + 0 ≤ _)⟩)
    dsimp only [Pt.U, Pt.locs, Pt.cells, Pt.slots] at X72 l72 y72 z72 st72 hQ72
    subst l72 y72 z72
    obtain ⟨rfl, M72, e72⟩ := hQ72
    have N73 := Fr.app N71 M72
    refine own_via (T' := T72) (g' := (mkF m 43 #[.val (.int p0_0), .val (.int p0_1), .val (.int i57), .val (.ref b59), .val (.int (own_F4 i57)), .unset, .unset, .unset, .unset] [(.long (own_F5 i57))])) st72 ?_
    refine own_by (T' := T72) (g' := (mkF m 53 #[.val (.int p0_0), .val (.int p0_1), .val (.int i57), .val (.ref b59), .val (.int (own_F4 i57)), .val (.long (own_F5 i57)), .second, .unset, .unset] [(.int (lcmpW (own_F5 i57) (16 : Int64))), (.int (own_F4 i57))])) (fun t k => ?_) ?_
    · show Steps p.tables e below (T72.setTop (mkF m 43 #[.val (.int p0_0), .val (.int p0_1), .val (.int i57), .val (.ref b59), .val (.int (own_F4 i57)), .unset, .unset, .unset, .unset] [(.long (own_F5 i57))])) t
      refine XS.lstore X72.here hx rfl (hb hby at_43) rfl (l' := #[.val (.int p0_0), .val (.int p0_1), .val (.int i57), .val (.ref b59), .val (.int (own_F4 i57)), .val (.long (own_F5 i57)), .second, .unset, .unset]) rfl ?_
      show Steps p.tables e below (T72.setTop (mkF m 45 #[.val (.int p0_0), .val (.int p0_1), .val (.int i57), .val (.ref b59), .val (.int (own_F4 i57)), .val (.long (own_F5 i57)), .second, .unset, .unset] [])) t
      refine XS.iload X72.here hx rfl (hb hby at_45) rfl ?_
      show Steps p.tables e below (T72.setTop (mkF m 47 #[.val (.int p0_0), .val (.int p0_1), .val (.int i57), .val (.ref b59), .val (.int (own_F4 i57)), .val (.long (own_F5 i57)), .second, .unset, .unset] [(.int (own_F4 i57))])) t
      refine XS.lload X72.here hx rfl (hb hby at_47) rfl ?_
      show Steps p.tables e below (T72.setTop (mkF m 49 #[.val (.int p0_0), .val (.int p0_1), .val (.int i57), .val (.ref b59), .val (.int (own_F4 i57)), .val (.long (own_F5 i57)), .second, .unset, .unset] [(.long (own_F5 i57)), (.int (own_F4 i57))])) t
      refine X72.ldc2Long hx hown (mvT hZ (hw _ (List.mem_of_getElem? (i := 26) rfl))) (g := (mkF m 49 #[.val (.int p0_0), .val (.int p0_1), .val (.int i57), .val (.ref b59), .val (.int (own_F4 i57)), .val (.long (own_F5 i57)), .second, .unset, .unset] [(.long (own_F5 i57)), (.int (own_F4 i57))])) rfl (hb hby at_49) _ ?_
      show Steps p.tables e below (T72.setTop (mkF m 52 #[.val (.int p0_0), .val (.int p0_1), .val (.int i57), .val (.ref b59), .val (.int (own_F4 i57)), .val (.long (own_F5 i57)), .second, .unset, .unset] [(.long (16 : Int64)), (.long (own_F5 i57)), (.int (own_F4 i57))])) t
      refine XS.lcmp X72.here hx rfl (hb hby at_52) rfl ?_
      show Steps p.tables e below (T72.setTop (mkF m 53 #[.val (.int p0_0), .val (.int p0_1), .val (.int i57), .val (.ref b59), .val (.int (own_F4 i57)), .val (.long (own_F5 i57)), .second, .unset, .unset] [(.int (lcmpW (own_F5 i57) (16 : Int64))), (.int (own_F4 i57))])) t
      exact k
    have J0_2 : ∀ (T76 : State) (L76 : List Loc) (i75 : Int32), Stand p l e room_1 s m #[(.int p0_0), (.int p0_1)] below meth c T76 L76 1 1 → T76.heap = T63.heap → Fr n0 L76 → own_Go p e below (own_P s below room_1 (own_Q0 (own_F0_61_2 p0_0 p0_1 i57 i75) h0 n0)) T76 (mkF m 61 #[.val (.int p0_0), .val (.int p0_1), .val (.int i57), .val (.ref b59), .val (.int (own_F4 i57)), .val (.long (own_F5 i57)), .second, .unset, .unset] [(.int i75), (.int (own_F4 i57))]) := by
      intro T76 L76 i75 X76 e76 N76
      by_cases hc77 : (own_F4 i57) = i75
      · skip
        refine own_by (T' := T76) (g' := (mkF m 68 #[.val (.int p0_0), .val (.int p0_1), .val (.int i57), .val (.ref b59), .val (.int (own_F4 i57)), .val (.long (own_F5 i57)), .second, .unset, .unset] [(.int (own_F4 i57))])) (fun t k => ?_) ?_
        · show Steps p.tables e below (T76.setTop (mkF m 61 #[.val (.int p0_0), .val (.int p0_1), .val (.int i57), .val (.ref b59), .val (.int (own_F4 i57)), .val (.long (own_F5 i57)), .second, .unset, .unset] [(.int i75), (.int (own_F4 i57))])) t
          refine XS.icmpYes X76.here hx rfl (pc0 := 61) (pc' := 66) rfl (hb hby at_61) rfl (teq hc77).1 (by decide) (by decide) ?_
          show Steps p.tables e below (T76.setTop (mkF m 66 #[.val (.int p0_0), .val (.int p0_1), .val (.int i57), .val (.ref b59), .val (.int (own_F4 i57)), .val (.long (own_F5 i57)), .second, .unset, .unset] [])) t
          refine XS.iload X76.here hx rfl (hb hby at_66) rfl ?_
          show Steps p.tables e below (T76.setTop (mkF m 68 #[.val (.int p0_0), .val (.int p0_1), .val (.int i57), .val (.ref b59), .val (.int (own_F4 i57)), .val (.long (own_F5 i57)), .second, .unset, .unset] [(.int (own_F4 i57))])) t
          exact k
        by_cases hc78 : (own_F4 i57) = (0 : Int32)
        · skip
          refine own_by (T' := T76) (g' := (mkF m 72 #[.val (.int p0_0), .val (.int p0_1), .val (.int i57), .val (.ref b59), .val (.int (own_F4 i57)), .val (.long (own_F5 i57)), .second, .unset, .unset] [(.int (1 : Int32))])) (fun t k => ?_) ?_
          · show Steps p.tables e below (T76.setTop (mkF m 68 #[.val (.int p0_0), .val (.int p0_1), .val (.int i57), .val (.ref b59), .val (.int (own_F4 i57)), .val (.long (own_F5 i57)), .second, .unset, .unset] [(.int (own_F4 i57))])) t
            refine XS.ifNo X76.here hx rfl (hb hby at_68) rfl ((if0 _ _).trans (teq hc78).2) ?_
            show Steps p.tables e below (T76.setTop (mkF m 71 #[.val (.int p0_0), .val (.int p0_1), .val (.int i57), .val (.ref b59), .val (.int (own_F4 i57)), .val (.long (own_F5 i57)), .second, .unset, .unset] [])) t
            refine XS.iconst X76.here hx rfl (hb hby at_71) ?_
            show Steps p.tables e below (T76.setTop (mkF m 72 #[.val (.int p0_0), .val (.int p0_1), .val (.int i57), .val (.ref b59), .val (.int (own_F4 i57)), .val (.long (own_F5 i57)), .second, .unset, .unset] [(.int (1 : Int32))])) t
            exact k
          rw [show own_F0_61_2 p0_0 p0_1 i57 i75 = (1 : Int32) from ((if_pos hc77).trans ((if_pos hc78).trans rfl))]
          exact own_retN X76 hx (t := .boolean) Bd.returns (by simp) (hb hby at_72) hlk (by decide) (by decide) ⟨rfl, N76⟩
        · skip
          refine own_by (T' := T76) (g' := (mkF m 74 #[.val (.int p0_0), .val (.int p0_1), .val (.int i57), .val (.ref b59), .val (.int (own_F4 i57)), .val (.long (own_F5 i57)), .second, .unset, .unset] [(.ref b59)])) (fun t k => ?_) ?_
          · show Steps p.tables e below (T76.setTop (mkF m 68 #[.val (.int p0_0), .val (.int p0_1), .val (.int i57), .val (.ref b59), .val (.int (own_F4 i57)), .val (.long (own_F5 i57)), .second, .unset, .unset] [(.int (own_F4 i57))])) t
            refine XS.ifYes X76.here hx rfl (pc0 := 68) (pc' := 73) rfl (hb hby at_68) rfl ((if0 _ _).trans (feq hc78).2) (by decide) (by decide) ?_
            show Steps p.tables e below (T76.setTop (mkF m 73 #[.val (.int p0_0), .val (.int p0_1), .val (.int i57), .val (.ref b59), .val (.int (own_F4 i57)), .val (.long (own_F5 i57)), .second, .unset, .unset] [])) t
            refine XS.aloadN X76.here hx rfl (hb hby at_73) rfl rfl ?_
            show Steps p.tables e below (T76.setTop (mkF m 74 #[.val (.int p0_0), .val (.int p0_1), .val (.int i57), .val (.ref b59), .val (.int (own_F4 i57)), .val (.long (own_F5 i57)), .second, .unset, .unset] [(.ref b59)])) t
            exact k
          obtain ⟨cq79, kq79, q79a, q79b, q79c⟩ := isOf hZ e76 f64
          obtain ⟨v79, _, ⟨T79, L79, k79, n79⟩, -, X79, ⟨Lc79, hQ79, l79, y79, z79⟩, st79⟩ := X76.virtualBack hx (y := (⟨"com/example/rundown/rundown/llvm/Type$IntegerType", "size", "()J"⟩ : MethodName)) (z := (⟨"com/example/rundown/rundown/llvm/Type$IntegerType", "size", "()J"⟩ : MethodName)) hown (mvT hZ (hw _ (List.mem_of_getElem? (i := 27) rfl))) (mvT hZ (hw _ (List.mem_of_getElem? (i := 28) rfl))) (notFace_of_selects (args := #[]) (mvT hZ (hw _ (List.mem_of_getElem? (i := 30) rfl)))) (mvT hZ (hw _ (List.mem_of_getElem? (i := 30) rfl))) (mvT hZ (hw _ (List.mem_of_getElem? (i := 29) rfl))) (by decide) (backOf (W := 0) (own_rm6 l Z a0 hw [] b59 i57 T63.heap n0 Z68 hc78 f65 f64) hZ (hw _ (List.mem_of_getElem? (i := 31) rfl)) (hw _ (List.mem_of_getElem? (i := 2) rfl)) (by decide) (by decide)) q79a q79c (g := (mkF m 74 #[.val (.int p0_0), .val (.int p0_1), .val (.int i57), .val (.ref b59), .val (.int (own_F4 i57)), .val (.long (own_F5 i57)), .second, .unset, .unset] [(.ref b59)])) rfl (by rw [hml]; rfl) (Steps.refl _) (argsL := []) (rest := []) (lenOf pd___J rfl) rfl (by show 2 * 0 + _ ≤ _; exact Nat.le_of_eq rfl) (hb hby at_74) (fun _ _ => ⟨rfl, e76, (by decide : 1 + 0 ≤ _), (by decide : 1 + 0 ≤ _)⟩)
          dsimp only [Pt.U, Pt.locs, Pt.cells, Pt.slots] at X79 l79 y79 z79 st79 hQ79
          subst l79 y79 z79
          obtain ⟨rfl, M79, K79⟩ := hQ79
          have f80 := f64.keep K79
          have f81 := f65.keep K79 nin0
          have K82 : Keep h0 T79.heap [] := K67.trans K79 all0
          have Z83 := Nat.le_trans Z68 K79.1
          have N84 := Fr.app N76 M79
          refine own_via (T' := T79) (g' := (mkF m 77 #[.val (.int p0_0), .val (.int p0_1), .val (.int i57), .val (.ref b59), .val (.int (own_F4 i57)), .val (.long (own_F5 i57)), .second, .unset, .unset] [(.long (own_F6 i57))])) st79 ?_
          refine own_by (T' := T79) (g' := (mkF m 84 #[.val (.int p0_0), .val (.int p0_1), .val (.int i57), .val (.ref b59), .val (.int (own_F4 i57)), .val (.long (own_F5 i57)), .second, .val (.long (own_F6 i57)), .second] [(.int (lcmpW (own_F6 i57) (own_F5 i57)))])) (fun t k => ?_) ?_
          · show Steps p.tables e below (T79.setTop (mkF m 77 #[.val (.int p0_0), .val (.int p0_1), .val (.int i57), .val (.ref b59), .val (.int (own_F4 i57)), .val (.long (own_F5 i57)), .second, .unset, .unset] [(.long (own_F6 i57))])) t
            refine XS.lstore X79.here hx rfl (hb hby at_77) rfl (l' := #[.val (.int p0_0), .val (.int p0_1), .val (.int i57), .val (.ref b59), .val (.int (own_F4 i57)), .val (.long (own_F5 i57)), .second, .val (.long (own_F6 i57)), .second]) rfl ?_
            show Steps p.tables e below (T79.setTop (mkF m 79 #[.val (.int p0_0), .val (.int p0_1), .val (.int i57), .val (.ref b59), .val (.int (own_F4 i57)), .val (.long (own_F5 i57)), .second, .val (.long (own_F6 i57)), .second] [])) t
            refine XS.lload X79.here hx rfl (hb hby at_79) rfl ?_
            show Steps p.tables e below (T79.setTop (mkF m 81 #[.val (.int p0_0), .val (.int p0_1), .val (.int i57), .val (.ref b59), .val (.int (own_F4 i57)), .val (.long (own_F5 i57)), .second, .val (.long (own_F6 i57)), .second] [(.long (own_F6 i57))])) t
            refine XS.lload X79.here hx rfl (hb hby at_81) rfl ?_
            show Steps p.tables e below (T79.setTop (mkF m 83 #[.val (.int p0_0), .val (.int p0_1), .val (.int i57), .val (.ref b59), .val (.int (own_F4 i57)), .val (.long (own_F5 i57)), .second, .val (.long (own_F6 i57)), .second] [(.long (own_F5 i57)), (.long (own_F6 i57))])) t
            refine XS.lcmp X79.here hx rfl (hb hby at_83) rfl ?_
            show Steps p.tables e below (T79.setTop (mkF m 84 #[.val (.int p0_0), .val (.int p0_1), .val (.int i57), .val (.ref b59), .val (.int (own_F4 i57)), .val (.long (own_F5 i57)), .second, .val (.long (own_F6 i57)), .second] [(.int (lcmpW (own_F6 i57) (own_F5 i57)))])) t
            exact k
          by_cases hc85 : (own_F6 i57) < (own_F5 i57)
          · skip
            refine own_by (T' := T79) (g' := (mkF m 125 #[.val (.int p0_0), .val (.int p0_1), .val (.int i57), .val (.ref b59), .val (.int (own_F4 i57)), .val (.long (own_F5 i57)), .second, .val (.long (own_F6 i57)), .second] [(.int (0 : Int32))])) (fun t k => ?_) ?_
            · show Steps p.tables e below (T79.setTop (mkF m 84 #[.val (.int p0_0), .val (.int p0_1), .val (.int i57), .val (.ref b59), .val (.int (own_F4 i57)), .val (.long (own_F5 i57)), .second, .val (.long (own_F6 i57)), .second] [(.int (lcmpW (own_F6 i57) (own_F5 i57)))])) t
              refine XS.ifYes X79.here hx rfl (pc0 := 84) (pc' := 124) rfl (hb hby at_84) rfl ((if0 _ _).trans (tlt ((lw_lt _ _).mpr hc85)).1) (by decide) (by decide) ?_
              show Steps p.tables e below (T79.setTop (mkF m 124 #[.val (.int p0_0), .val (.int p0_1), .val (.int i57), .val (.ref b59), .val (.int (own_F4 i57)), .val (.long (own_F5 i57)), .second, .val (.long (own_F6 i57)), .second] [])) t
              refine XS.iconst X79.here hx rfl (hb hby at_124) ?_
              show Steps p.tables e below (T79.setTop (mkF m 125 #[.val (.int p0_0), .val (.int p0_1), .val (.int i57), .val (.ref b59), .val (.int (own_F4 i57)), .val (.long (own_F5 i57)), .second, .val (.long (own_F6 i57)), .second] [(.int (0 : Int32))])) t
              exact k
            rw [show own_F0_61_2 p0_0 p0_1 i57 i75 = (0 : Int32) from ((if_pos hc77).trans ((if_neg hc78).trans ((if_pos hc85).trans rfl)))]
            exact own_retN X79 hx (t := .boolean) Bd.returns (by simp) (hb hby at_125) hlk (by decide) (by decide) ⟨rfl, N84⟩
          · skip
            refine own_by (T' := T79) (g' := (mkF m 96 #[.val (.int p0_0), .val (.int p0_1), .val (.int i57), .val (.ref b59), .val (.int (own_F4 i57)), .val (.long (own_F5 i57)), .second, .val (.long (own_F6 i57)), .second] [(.int (lcmpW (own_F6 i57) ((2 : Int64) * (own_F5 i57))))])) (fun t k => ?_) ?_
            · show Steps p.tables e below (T79.setTop (mkF m 84 #[.val (.int p0_0), .val (.int p0_1), .val (.int i57), .val (.ref b59), .val (.int (own_F4 i57)), .val (.long (own_F5 i57)), .second, .val (.long (own_F6 i57)), .second] [(.int (lcmpW (own_F6 i57) (own_F5 i57)))])) t
              refine XS.ifNo X79.here hx rfl (hb hby at_84) rfl ((if0 _ _).trans (flt (fun q => hc85 ((lw_lt _ _).mp q))).1) ?_
              show Steps p.tables e below (T79.setTop (mkF m 87 #[.val (.int p0_0), .val (.int p0_1), .val (.int i57), .val (.ref b59), .val (.int (own_F4 i57)), .val (.long (own_F5 i57)), .second, .val (.long (own_F6 i57)), .second] [])) t
              refine XS.lload X79.here hx rfl (hb hby at_87) rfl ?_
              show Steps p.tables e below (T79.setTop (mkF m 89 #[.val (.int p0_0), .val (.int p0_1), .val (.int i57), .val (.ref b59), .val (.int (own_F4 i57)), .val (.long (own_F5 i57)), .second, .val (.long (own_F6 i57)), .second] [(.long (own_F6 i57))])) t
              refine X79.ldc2Long hx hown (mvT hZ (hw _ (List.mem_of_getElem? (i := 58) rfl))) (g := (mkF m 89 #[.val (.int p0_0), .val (.int p0_1), .val (.int i57), .val (.ref b59), .val (.int (own_F4 i57)), .val (.long (own_F5 i57)), .second, .val (.long (own_F6 i57)), .second] [(.long (own_F6 i57))])) rfl (hb hby at_89) _ ?_
              show Steps p.tables e below (T79.setTop (mkF m 92 #[.val (.int p0_0), .val (.int p0_1), .val (.int i57), .val (.ref b59), .val (.int (own_F4 i57)), .val (.long (own_F5 i57)), .second, .val (.long (own_F6 i57)), .second] [(.long (2 : Int64)), (.long (own_F6 i57))])) t
              refine XS.lload X79.here hx rfl (hb hby at_92) rfl ?_
              show Steps p.tables e below (T79.setTop (mkF m 94 #[.val (.int p0_0), .val (.int p0_1), .val (.int i57), .val (.ref b59), .val (.int (own_F4 i57)), .val (.long (own_F5 i57)), .second, .val (.long (own_F6 i57)), .second] [(.long (own_F5 i57)), (.long (2 : Int64)), (.long (own_F6 i57))])) t
              refine XS.lmul X79.here hx rfl (hb hby at_94) rfl ?_
              show Steps p.tables e below (T79.setTop (mkF m 95 #[.val (.int p0_0), .val (.int p0_1), .val (.int i57), .val (.ref b59), .val (.int (own_F4 i57)), .val (.long (own_F5 i57)), .second, .val (.long (own_F6 i57)), .second] [(.long ((2 : Int64) * (own_F5 i57))), (.long (own_F6 i57))])) t
              refine XS.lcmp X79.here hx rfl (hb hby at_95) rfl ?_
              show Steps p.tables e below (T79.setTop (mkF m 96 #[.val (.int p0_0), .val (.int p0_1), .val (.int i57), .val (.ref b59), .val (.int (own_F4 i57)), .val (.long (own_F5 i57)), .second, .val (.long (own_F6 i57)), .second] [(.int (lcmpW (own_F6 i57) ((2 : Int64) * (own_F5 i57))))])) t
              exact k
            by_cases hc89 : (own_F6 i57) < ((2 : Int64) * (own_F5 i57))
            · skip
              refine own_by (T' := T79) (g' := (mkF m 108 #[.val (.int p0_0), .val (.int p0_1), .val (.int i57), .val (.ref b59), .val (.int (own_F4 i57)), .val (.long (own_F5 i57)), .second, .val (.long (own_F6 i57)), .second] [(.int (lcmpW ((own_F6 i57) &&& ((own_F6 i57) - (1 : Int64))) (0 : Int64)))])) (fun t k => ?_) ?_
              · show Steps p.tables e below (T79.setTop (mkF m 96 #[.val (.int p0_0), .val (.int p0_1), .val (.int i57), .val (.ref b59), .val (.int (own_F4 i57)), .val (.long (own_F5 i57)), .second, .val (.long (own_F6 i57)), .second] [(.int (lcmpW (own_F6 i57) ((2 : Int64) * (own_F5 i57))))])) t
                refine XS.ifNo X79.here hx rfl (hb hby at_96) rfl ((if0 _ _).trans (tlt ((lw_lt _ _).mpr hc89)).2.1) ?_
                show Steps p.tables e below (T79.setTop (mkF m 99 #[.val (.int p0_0), .val (.int p0_1), .val (.int i57), .val (.ref b59), .val (.int (own_F4 i57)), .val (.long (own_F5 i57)), .second, .val (.long (own_F6 i57)), .second] [])) t
                refine XS.lload X79.here hx rfl (hb hby at_99) rfl ?_
                show Steps p.tables e below (T79.setTop (mkF m 101 #[.val (.int p0_0), .val (.int p0_1), .val (.int i57), .val (.ref b59), .val (.int (own_F4 i57)), .val (.long (own_F5 i57)), .second, .val (.long (own_F6 i57)), .second] [(.long (own_F6 i57))])) t
                refine XS.lload X79.here hx rfl (hb hby at_101) rfl ?_
                show Steps p.tables e below (T79.setTop (mkF m 103 #[.val (.int p0_0), .val (.int p0_1), .val (.int i57), .val (.ref b59), .val (.int (own_F4 i57)), .val (.long (own_F5 i57)), .second, .val (.long (own_F6 i57)), .second] [(.long (own_F6 i57)), (.long (own_F6 i57))])) t
                refine XS.lconst X79.here hx rfl (hb hby at_103) ?_
                show Steps p.tables e below (T79.setTop (mkF m 104 #[.val (.int p0_0), .val (.int p0_1), .val (.int i57), .val (.ref b59), .val (.int (own_F4 i57)), .val (.long (own_F5 i57)), .second, .val (.long (own_F6 i57)), .second] [(.long (1 : Int64)), (.long (own_F6 i57)), (.long (own_F6 i57))])) t
                refine XS.lsub X79.here hx rfl (hb hby at_104) rfl ?_
                show Steps p.tables e below (T79.setTop (mkF m 105 #[.val (.int p0_0), .val (.int p0_1), .val (.int i57), .val (.ref b59), .val (.int (own_F4 i57)), .val (.long (own_F5 i57)), .second, .val (.long (own_F6 i57)), .second] [(.long ((own_F6 i57) - (1 : Int64))), (.long (own_F6 i57))])) t
                refine XS.land X79.here hx rfl (hb hby at_105) rfl ?_
                show Steps p.tables e below (T79.setTop (mkF m 106 #[.val (.int p0_0), .val (.int p0_1), .val (.int i57), .val (.ref b59), .val (.int (own_F4 i57)), .val (.long (own_F5 i57)), .second, .val (.long (own_F6 i57)), .second] [(.long ((own_F6 i57) &&& ((own_F6 i57) - (1 : Int64))))])) t
                refine XS.lconst X79.here hx rfl (hb hby at_106) ?_
                show Steps p.tables e below (T79.setTop (mkF m 107 #[.val (.int p0_0), .val (.int p0_1), .val (.int i57), .val (.ref b59), .val (.int (own_F4 i57)), .val (.long (own_F5 i57)), .second, .val (.long (own_F6 i57)), .second] [(.long (0 : Int64)), (.long ((own_F6 i57) &&& ((own_F6 i57) - (1 : Int64))))])) t
                refine XS.lcmp X79.here hx rfl (hb hby at_107) rfl ?_
                show Steps p.tables e below (T79.setTop (mkF m 108 #[.val (.int p0_0), .val (.int p0_1), .val (.int i57), .val (.ref b59), .val (.int (own_F4 i57)), .val (.long (own_F5 i57)), .second, .val (.long (own_F6 i57)), .second] [(.int (lcmpW ((own_F6 i57) &&& ((own_F6 i57) - (1 : Int64))) (0 : Int64)))])) t
                exact k
              by_cases hc92 : ((own_F6 i57) &&& ((own_F6 i57) - (1 : Int64))) = (0 : Int64)
              · skip
                refine own_by (T' := T79) (g' := (mkF m 117 #[.val (.int p0_0), .val (.int p0_1), .val (.int i57), .val (.ref b59), .val (.int (own_F4 i57)), .val (.long (own_F5 i57)), .second, .val (.long (own_F6 i57)), .second] [(.int (lcmpW (own_F6 i57) (16 : Int64)))])) (fun t k => ?_) ?_
                · show Steps p.tables e below (T79.setTop (mkF m 108 #[.val (.int p0_0), .val (.int p0_1), .val (.int i57), .val (.ref b59), .val (.int (own_F4 i57)), .val (.long (own_F5 i57)), .second, .val (.long (own_F6 i57)), .second] [(.int (lcmpW ((own_F6 i57) &&& ((own_F6 i57) - (1 : Int64))) (0 : Int64)))])) t
                  refine XS.ifNo X79.here hx rfl (hb hby at_108) rfl ((if0 _ _).trans (teq ((lw_eq _ _).mpr hc92)).2) ?_
                  show Steps p.tables e below (T79.setTop (mkF m 111 #[.val (.int p0_0), .val (.int p0_1), .val (.int i57), .val (.ref b59), .val (.int (own_F4 i57)), .val (.long (own_F5 i57)), .second, .val (.long (own_F6 i57)), .second] [])) t
                  refine XS.lload X79.here hx rfl (hb hby at_111) rfl ?_
                  show Steps p.tables e below (T79.setTop (mkF m 113 #[.val (.int p0_0), .val (.int p0_1), .val (.int i57), .val (.ref b59), .val (.int (own_F4 i57)), .val (.long (own_F5 i57)), .second, .val (.long (own_F6 i57)), .second] [(.long (own_F6 i57))])) t
                  refine X79.ldc2Long hx hown (mvT hZ (hw _ (List.mem_of_getElem? (i := 26) rfl))) (g := (mkF m 113 #[.val (.int p0_0), .val (.int p0_1), .val (.int i57), .val (.ref b59), .val (.int (own_F4 i57)), .val (.long (own_F5 i57)), .second, .val (.long (own_F6 i57)), .second] [(.long (own_F6 i57))])) rfl (hb hby at_113) _ ?_
                  show Steps p.tables e below (T79.setTop (mkF m 116 #[.val (.int p0_0), .val (.int p0_1), .val (.int i57), .val (.ref b59), .val (.int (own_F4 i57)), .val (.long (own_F5 i57)), .second, .val (.long (own_F6 i57)), .second] [(.long (16 : Int64)), (.long (own_F6 i57))])) t
                  refine XS.lcmp X79.here hx rfl (hb hby at_116) rfl ?_
                  show Steps p.tables e below (T79.setTop (mkF m 117 #[.val (.int p0_0), .val (.int p0_1), .val (.int i57), .val (.ref b59), .val (.int (own_F4 i57)), .val (.long (own_F5 i57)), .second, .val (.long (own_F6 i57)), .second] [(.int (lcmpW (own_F6 i57) (16 : Int64)))])) t
                  exact k
                by_cases hc94 : (16 : Int64) < (own_F6 i57)
                · skip
                  refine own_by (T' := T79) (g' := (mkF m 125 #[.val (.int p0_0), .val (.int p0_1), .val (.int i57), .val (.ref b59), .val (.int (own_F4 i57)), .val (.long (own_F5 i57)), .second, .val (.long (own_F6 i57)), .second] [(.int (0 : Int32))])) (fun t k => ?_) ?_
                  · show Steps p.tables e below (T79.setTop (mkF m 117 #[.val (.int p0_0), .val (.int p0_1), .val (.int i57), .val (.ref b59), .val (.int (own_F4 i57)), .val (.long (own_F5 i57)), .second, .val (.long (own_F6 i57)), .second] [(.int (lcmpW (own_F6 i57) (16 : Int64)))])) t
                    refine XS.ifYes X79.here hx rfl (pc0 := 117) (pc' := 124) rfl (hb hby at_117) rfl ((if0 _ _).trans (tlt ((lw_gt _ _).mpr hc94)).2.2.1) (by decide) (by decide) ?_
                    show Steps p.tables e below (T79.setTop (mkF m 124 #[.val (.int p0_0), .val (.int p0_1), .val (.int i57), .val (.ref b59), .val (.int (own_F4 i57)), .val (.long (own_F5 i57)), .second, .val (.long (own_F6 i57)), .second] [])) t
                    refine XS.iconst X79.here hx rfl (hb hby at_124) ?_
                    show Steps p.tables e below (T79.setTop (mkF m 125 #[.val (.int p0_0), .val (.int p0_1), .val (.int i57), .val (.ref b59), .val (.int (own_F4 i57)), .val (.long (own_F5 i57)), .second, .val (.long (own_F6 i57)), .second] [(.int (0 : Int32))])) t
                    exact k
                  rw [show own_F0_61_2 p0_0 p0_1 i57 i75 = (0 : Int32) from ((if_pos hc77).trans ((if_neg hc78).trans ((if_neg hc85).trans ((if_pos hc89).trans ((if_pos hc92).trans ((if_pos hc94).trans rfl))))))]
                  exact own_retN X79 hx (t := .boolean) Bd.returns (by simp) (hb hby at_125) hlk (by decide) (by decide) ⟨rfl, N84⟩
                · skip
                  refine own_by (T' := T79) (g' := (mkF m 125 #[.val (.int p0_0), .val (.int p0_1), .val (.int i57), .val (.ref b59), .val (.int (own_F4 i57)), .val (.long (own_F5 i57)), .second, .val (.long (own_F6 i57)), .second] [(.int (1 : Int32))])) (fun t k => ?_) ?_
                  · show Steps p.tables e below (T79.setTop (mkF m 117 #[.val (.int p0_0), .val (.int p0_1), .val (.int i57), .val (.ref b59), .val (.int (own_F4 i57)), .val (.long (own_F5 i57)), .second, .val (.long (own_F6 i57)), .second] [(.int (lcmpW (own_F6 i57) (16 : Int64)))])) t
                    refine XS.ifNo X79.here hx rfl (hb hby at_117) rfl ((if0 _ _).trans (flt (fun q => hc94 ((lw_gt _ _).mp q))).2.2.1) ?_
                    show Steps p.tables e below (T79.setTop (mkF m 120 #[.val (.int p0_0), .val (.int p0_1), .val (.int i57), .val (.ref b59), .val (.int (own_F4 i57)), .val (.long (own_F5 i57)), .second, .val (.long (own_F6 i57)), .second] [])) t
                    refine XS.iconst X79.here hx rfl (hb hby at_120) ?_
                    show Steps p.tables e below (T79.setTop (mkF m 121 #[.val (.int p0_0), .val (.int p0_1), .val (.int i57), .val (.ref b59), .val (.int (own_F4 i57)), .val (.long (own_F5 i57)), .second, .val (.long (own_F6 i57)), .second] [(.int (1 : Int32))])) t
                    refine XS.goto X79.here hx rfl (pc0 := 121) (pc' := 125) rfl (hb hby at_121) (by decide) (by decide) ?_
                    show Steps p.tables e below (T79.setTop (mkF m 125 #[.val (.int p0_0), .val (.int p0_1), .val (.int i57), .val (.ref b59), .val (.int (own_F4 i57)), .val (.long (own_F5 i57)), .second, .val (.long (own_F6 i57)), .second] [(.int (1 : Int32))])) t
                    exact k
                  rw [show own_F0_61_2 p0_0 p0_1 i57 i75 = (1 : Int32) from ((if_pos hc77).trans ((if_neg hc78).trans ((if_neg hc85).trans ((if_pos hc89).trans ((if_pos hc92).trans ((if_neg hc94).trans rfl))))))]
                  exact own_retN X79 hx (t := .boolean) Bd.returns (by simp) (hb hby at_125) hlk (by decide) (by decide) ⟨rfl, N84⟩
              · skip
                refine own_by (T' := T79) (g' := (mkF m 125 #[.val (.int p0_0), .val (.int p0_1), .val (.int i57), .val (.ref b59), .val (.int (own_F4 i57)), .val (.long (own_F5 i57)), .second, .val (.long (own_F6 i57)), .second] [(.int (0 : Int32))])) (fun t k => ?_) ?_
                · show Steps p.tables e below (T79.setTop (mkF m 108 #[.val (.int p0_0), .val (.int p0_1), .val (.int i57), .val (.ref b59), .val (.int (own_F4 i57)), .val (.long (own_F5 i57)), .second, .val (.long (own_F6 i57)), .second] [(.int (lcmpW ((own_F6 i57) &&& ((own_F6 i57) - (1 : Int64))) (0 : Int64)))])) t
                  refine XS.ifYes X79.here hx rfl (pc0 := 108) (pc' := 124) rfl (hb hby at_108) rfl ((if0 _ _).trans (feq (fun q => hc92 ((lw_eq _ _).mp q))).2) (by decide) (by decide) ?_
                  show Steps p.tables e below (T79.setTop (mkF m 124 #[.val (.int p0_0), .val (.int p0_1), .val (.int i57), .val (.ref b59), .val (.int (own_F4 i57)), .val (.long (own_F5 i57)), .second, .val (.long (own_F6 i57)), .second] [])) t
                  refine XS.iconst X79.here hx rfl (hb hby at_124) ?_
                  show Steps p.tables e below (T79.setTop (mkF m 125 #[.val (.int p0_0), .val (.int p0_1), .val (.int i57), .val (.ref b59), .val (.int (own_F4 i57)), .val (.long (own_F5 i57)), .second, .val (.long (own_F6 i57)), .second] [(.int (0 : Int32))])) t
                  exact k
                rw [show own_F0_61_2 p0_0 p0_1 i57 i75 = (0 : Int32) from ((if_pos hc77).trans ((if_neg hc78).trans ((if_neg hc85).trans ((if_pos hc89).trans ((if_neg hc92).trans rfl)))))]
                exact own_retN X79 hx (t := .boolean) Bd.returns (by simp) (hb hby at_125) hlk (by decide) (by decide) ⟨rfl, N84⟩
            · skip
              refine own_by (T' := T79) (g' := (mkF m 125 #[.val (.int p0_0), .val (.int p0_1), .val (.int i57), .val (.ref b59), .val (.int (own_F4 i57)), .val (.long (own_F5 i57)), .second, .val (.long (own_F6 i57)), .second] [(.int (0 : Int32))])) (fun t k => ?_) ?_
              · show Steps p.tables e below (T79.setTop (mkF m 96 #[.val (.int p0_0), .val (.int p0_1), .val (.int i57), .val (.ref b59), .val (.int (own_F4 i57)), .val (.long (own_F5 i57)), .second, .val (.long (own_F6 i57)), .second] [(.int (lcmpW (own_F6 i57) ((2 : Int64) * (own_F5 i57))))])) t
                refine XS.ifYes X79.here hx rfl (pc0 := 96) (pc' := 124) rfl (hb hby at_96) rfl ((if0 _ _).trans (flt (fun q => hc89 ((lw_lt _ _).mp q))).2.1) (by decide) (by decide) ?_
                show Steps p.tables e below (T79.setTop (mkF m 124 #[.val (.int p0_0), .val (.int p0_1), .val (.int i57), .val (.ref b59), .val (.int (own_F4 i57)), .val (.long (own_F5 i57)), .second, .val (.long (own_F6 i57)), .second] [])) t
                refine XS.iconst X79.here hx rfl (hb hby at_124) ?_
                show Steps p.tables e below (T79.setTop (mkF m 125 #[.val (.int p0_0), .val (.int p0_1), .val (.int i57), .val (.ref b59), .val (.int (own_F4 i57)), .val (.long (own_F5 i57)), .second, .val (.long (own_F6 i57)), .second] [(.int (0 : Int32))])) t
                exact k
              rw [show own_F0_61_2 p0_0 p0_1 i57 i75 = (0 : Int32) from ((if_pos hc77).trans ((if_neg hc78).trans ((if_neg hc85).trans ((if_neg hc89).trans rfl))))]
              exact own_retN X79 hx (t := .boolean) Bd.returns (by simp) (hb hby at_125) hlk (by decide) (by decide) ⟨rfl, N84⟩
      · skip
        refine own_by (T' := T76) (g' := (mkF m 65 #[.val (.int p0_0), .val (.int p0_1), .val (.int i57), .val (.ref b59), .val (.int (own_F4 i57)), .val (.long (own_F5 i57)), .second, .unset, .unset] [(.int (0 : Int32))])) (fun t k => ?_) ?_
        · show Steps p.tables e below (T76.setTop (mkF m 61 #[.val (.int p0_0), .val (.int p0_1), .val (.int i57), .val (.ref b59), .val (.int (own_F4 i57)), .val (.long (own_F5 i57)), .second, .unset, .unset] [(.int i75), (.int (own_F4 i57))])) t
          refine XS.icmpNo X76.here hx rfl (hb hby at_61) rfl (feq hc77).1 ?_
          show Steps p.tables e below (T76.setTop (mkF m 64 #[.val (.int p0_0), .val (.int p0_1), .val (.int i57), .val (.ref b59), .val (.int (own_F4 i57)), .val (.long (own_F5 i57)), .second, .unset, .unset] [])) t
          refine XS.iconst X76.here hx rfl (hb hby at_64) ?_
          show Steps p.tables e below (T76.setTop (mkF m 65 #[.val (.int p0_0), .val (.int p0_1), .val (.int i57), .val (.ref b59), .val (.int (own_F4 i57)), .val (.long (own_F5 i57)), .second, .unset, .unset] [(.int (0 : Int32))])) t
          exact k
        rw [show own_F0_61_2 p0_0 p0_1 i57 i75 = (0 : Int32) from ((if_neg hc77).trans rfl)]
        exact own_retN X76 hx (t := .boolean) Bd.returns (by simp) (hb hby at_65) hlk (by decide) (by decide) ⟨rfl, N76⟩
    by_cases hc74 : (16 : Int64) < (own_F5 i57)
    · skip
      refine own_by (T' := T72) (g' := (mkF m 61 #[.val (.int p0_0), .val (.int p0_1), .val (.int i57), .val (.ref b59), .val (.int (own_F4 i57)), .val (.long (own_F5 i57)), .second, .unset, .unset] [(.int (0 : Int32)), (.int (own_F4 i57))])) (fun t k => ?_) ?_
      · show Steps p.tables e below (T72.setTop (mkF m 53 #[.val (.int p0_0), .val (.int p0_1), .val (.int i57), .val (.ref b59), .val (.int (own_F4 i57)), .val (.long (own_F5 i57)), .second, .unset, .unset] [(.int (lcmpW (own_F5 i57) (16 : Int64))), (.int (own_F4 i57))])) t
        refine XS.ifYes X72.here hx rfl (pc0 := 53) (pc' := 60) rfl (hb hby at_53) rfl ((if0 _ _).trans (tlt ((lw_gt _ _).mpr hc74)).2.2.1) (by decide) (by decide) ?_
        show Steps p.tables e below (T72.setTop (mkF m 60 #[.val (.int p0_0), .val (.int p0_1), .val (.int i57), .val (.ref b59), .val (.int (own_F4 i57)), .val (.long (own_F5 i57)), .second, .unset, .unset] [(.int (own_F4 i57))])) t
        refine XS.iconst X72.here hx rfl (hb hby at_60) ?_
        show Steps p.tables e below (T72.setTop (mkF m 61 #[.val (.int p0_0), .val (.int p0_1), .val (.int i57), .val (.ref b59), .val (.int (own_F4 i57)), .val (.long (own_F5 i57)), .second, .unset, .unset] [(.int (0 : Int32)), (.int (own_F4 i57))])) t
        exact k
      rw [show own_F0_24_1 p0_0 p0_1 i57 = (own_F0_61_2 p0_0 p0_1 i57 (0 : Int32)) from ((if_pos hc74).trans rfl)]
      exact J0_2 _ _ (0 : Int32) X72 e72 N73
    · skip
      refine own_by (T' := T72) (g' := (mkF m 61 #[.val (.int p0_0), .val (.int p0_1), .val (.int i57), .val (.ref b59), .val (.int (own_F4 i57)), .val (.long (own_F5 i57)), .second, .unset, .unset] [(.int (1 : Int32)), (.int (own_F4 i57))])) (fun t k => ?_) ?_
      · show Steps p.tables e below (T72.setTop (mkF m 53 #[.val (.int p0_0), .val (.int p0_1), .val (.int i57), .val (.ref b59), .val (.int (own_F4 i57)), .val (.long (own_F5 i57)), .second, .unset, .unset] [(.int (lcmpW (own_F5 i57) (16 : Int64))), (.int (own_F4 i57))])) t
        refine XS.ifNo X72.here hx rfl (hb hby at_53) rfl ((if0 _ _).trans (flt (fun q => hc74 ((lw_gt _ _).mp q))).2.2.1) ?_
        show Steps p.tables e below (T72.setTop (mkF m 56 #[.val (.int p0_0), .val (.int p0_1), .val (.int i57), .val (.ref b59), .val (.int (own_F4 i57)), .val (.long (own_F5 i57)), .second, .unset, .unset] [(.int (own_F4 i57))])) t
        refine XS.iconst X72.here hx rfl (hb hby at_56) ?_
        show Steps p.tables e below (T72.setTop (mkF m 57 #[.val (.int p0_0), .val (.int p0_1), .val (.int i57), .val (.ref b59), .val (.int (own_F4 i57)), .val (.long (own_F5 i57)), .second, .unset, .unset] [(.int (1 : Int32)), (.int (own_F4 i57))])) t
        refine XS.goto X72.here hx rfl (pc0 := 57) (pc' := 61) rfl (hb hby at_57) (by decide) (by decide) ?_
        show Steps p.tables e below (T72.setTop (mkF m 61 #[.val (.int p0_0), .val (.int p0_1), .val (.int i57), .val (.ref b59), .val (.int (own_F4 i57)), .val (.long (own_F5 i57)), .second, .unset, .unset] [(.int (1 : Int32)), (.int (own_F4 i57))])) t
        exact k
      rw [show own_F0_24_1 p0_0 p0_1 i57 = (own_F0_61_2 p0_0 p0_1 i57 (1 : Int32)) from ((if_neg hc74).trans rfl)]
      exact J0_2 _ _ (1 : Int32) X72 e72 N73
  by_cases hc56 : (p0_1 &&& (1 : Int32)) = (0 : Int32)
  · skip
    refine own_by (T' := s₁) (g' := (mkF m 24 #[.val (.int p0_0), .val (.int p0_1), .val (.int ((p0_0 &&& (1073741823 : Int32)) + (1 : Int32))), .unset, .unset, .unset, .unset, .unset, .unset] [])) (fun t k => ?_) ?_
    · show Steps p.tables e below (s₁.setTop (mkF m 3 #[.val (.int p0_0), .val (.int p0_1), .unset, .unset, .unset, .unset, .unset, .unset, .unset] [(.int (p0_1 &&& (1 : Int32)))])) t
      refine XS.ifYes X0.here hx rfl (pc0 := 3) (pc' := 17) rfl (hb hby at_3) rfl ((if0 _ _).trans (teq hc56).1) (by decide) (by decide) ?_
      show Steps p.tables e below (s₁.setTop (mkF m 17 #[.val (.int p0_0), .val (.int p0_1), .unset, .unset, .unset, .unset, .unset, .unset, .unset] [])) t
      refine XS.iloadN X0.here hx rfl (hb hby at_17) rfl ?_
      show Steps p.tables e below (s₁.setTop (mkF m 18 #[.val (.int p0_0), .val (.int p0_1), .unset, .unset, .unset, .unset, .unset, .unset, .unset] [(.int p0_0)])) t
      refine X0.ldcInt hx hown (mvT hZ (hw _ (List.mem_of_getElem? (i := 59) rfl))) (g := (mkF m 18 #[.val (.int p0_0), .val (.int p0_1), .unset, .unset, .unset, .unset, .unset, .unset, .unset] [(.int p0_0)])) rfl (hb hby at_18) _ ?_
      show Steps p.tables e below (s₁.setTop (mkF m 20 #[.val (.int p0_0), .val (.int p0_1), .unset, .unset, .unset, .unset, .unset, .unset, .unset] [(.int (1073741823 : Int32)), (.int p0_0)])) t
      refine XS.iand X0.here hx rfl (hb hby at_20) rfl ?_
      show Steps p.tables e below (s₁.setTop (mkF m 21 #[.val (.int p0_0), .val (.int p0_1), .unset, .unset, .unset, .unset, .unset, .unset, .unset] [(.int (p0_0 &&& (1073741823 : Int32)))])) t
      refine XS.iconst X0.here hx rfl (hb hby at_21) ?_
      show Steps p.tables e below (s₁.setTop (mkF m 22 #[.val (.int p0_0), .val (.int p0_1), .unset, .unset, .unset, .unset, .unset, .unset, .unset] [(.int (1 : Int32)), (.int (p0_0 &&& (1073741823 : Int32)))])) t
      refine XS.iadd X0.here hx rfl (hb hby at_22) rfl ?_
      show Steps p.tables e below (s₁.setTop (mkF m 23 #[.val (.int p0_0), .val (.int p0_1), .unset, .unset, .unset, .unset, .unset, .unset, .unset] [(.int ((p0_0 &&& (1073741823 : Int32)) + (1 : Int32)))])) t
      refine XS.istoreN X0.here hx rfl (hb hby at_23) rfl (l' := #[.val (.int p0_0), .val (.int p0_1), .val (.int ((p0_0 &&& (1073741823 : Int32)) + (1 : Int32))), .unset, .unset, .unset, .unset, .unset, .unset]) rfl ?_
      show Steps p.tables e below (s₁.setTop (mkF m 24 #[.val (.int p0_0), .val (.int p0_1), .val (.int ((p0_0 &&& (1073741823 : Int32)) + (1 : Int32))), .unset, .unset, .unset, .unset, .unset, .unset] [])) t
      exact k
    rw [show own_F0 p0_0 p0_1 = (own_F0_24_1 p0_0 p0_1 ((p0_0 &&& (1073741823 : Int32)) + (1 : Int32))) from ((if_pos hc56).trans rfl)]
    exact J0_1 _ _ ((p0_0 &&& (1073741823 : Int32)) + (1 : Int32)) X0 e0 N0
  · skip
    refine own_by (T' := s₁) (g' := (mkF m 24 #[.val (.int p0_0), .val (.int p0_1), .val (.int ((121 : Int32) + (p0_0 &&& (15 : Int32)))), .unset, .unset, .unset, .unset, .unset, .unset] [])) (fun t k => ?_) ?_
    · show Steps p.tables e below (s₁.setTop (mkF m 3 #[.val (.int p0_0), .val (.int p0_1), .unset, .unset, .unset, .unset, .unset, .unset, .unset] [(.int (p0_1 &&& (1 : Int32)))])) t
      refine XS.ifNo X0.here hx rfl (hb hby at_3) rfl ((if0 _ _).trans (feq hc56).1) ?_
      show Steps p.tables e below (s₁.setTop (mkF m 6 #[.val (.int p0_0), .val (.int p0_1), .unset, .unset, .unset, .unset, .unset, .unset, .unset] [])) t
      refine XS.bipush X0.here hx rfl (hb hby at_6) ?_
      show Steps p.tables e below (s₁.setTop (mkF m 8 #[.val (.int p0_0), .val (.int p0_1), .unset, .unset, .unset, .unset, .unset, .unset, .unset] [(.int (121 : Int32))])) t
      refine XS.iloadN X0.here hx rfl (hb hby at_8) rfl ?_
      show Steps p.tables e below (s₁.setTop (mkF m 9 #[.val (.int p0_0), .val (.int p0_1), .unset, .unset, .unset, .unset, .unset, .unset, .unset] [(.int p0_0), (.int (121 : Int32))])) t
      refine XS.bipush X0.here hx rfl (hb hby at_9) ?_
      show Steps p.tables e below (s₁.setTop (mkF m 11 #[.val (.int p0_0), .val (.int p0_1), .unset, .unset, .unset, .unset, .unset, .unset, .unset] [(.int (15 : Int32)), (.int p0_0), (.int (121 : Int32))])) t
      refine XS.iand X0.here hx rfl (hb hby at_11) rfl ?_
      show Steps p.tables e below (s₁.setTop (mkF m 12 #[.val (.int p0_0), .val (.int p0_1), .unset, .unset, .unset, .unset, .unset, .unset, .unset] [(.int (p0_0 &&& (15 : Int32))), (.int (121 : Int32))])) t
      refine XS.iadd X0.here hx rfl (hb hby at_12) rfl ?_
      show Steps p.tables e below (s₁.setTop (mkF m 13 #[.val (.int p0_0), .val (.int p0_1), .unset, .unset, .unset, .unset, .unset, .unset, .unset] [(.int ((121 : Int32) + (p0_0 &&& (15 : Int32))))])) t
      refine XS.istoreN X0.here hx rfl (hb hby at_13) rfl (l' := #[.val (.int p0_0), .val (.int p0_1), .val (.int ((121 : Int32) + (p0_0 &&& (15 : Int32)))), .unset, .unset, .unset, .unset, .unset, .unset]) rfl ?_
      show Steps p.tables e below (s₁.setTop (mkF m 14 #[.val (.int p0_0), .val (.int p0_1), .val (.int ((121 : Int32) + (p0_0 &&& (15 : Int32)))), .unset, .unset, .unset, .unset, .unset, .unset] [])) t
      refine XS.goto X0.here hx rfl (pc0 := 14) (pc' := 24) rfl (hb hby at_14) (by decide) (by decide) ?_
      show Steps p.tables e below (s₁.setTop (mkF m 24 #[.val (.int p0_0), .val (.int p0_1), .val (.int ((121 : Int32) + (p0_0 &&& (15 : Int32)))), .unset, .unset, .unset, .unset, .unset, .unset] [])) t
      exact k
    rw [show own_F0 p0_0 p0_1 = (own_F0_24_1 p0_0 p0_1 ((121 : Int32) + (p0_0 &&& (15 : Int32)))) from ((if_neg hc56).trans rfl)]
    exact J0_1 _ _ ((121 : Int32) + (p0_0 &&& (15 : Int32))) X0 e0 N0
theorem own_and_le (x m : Int32) (k : Nat) (hm : m.toBitVec.toNat = k) (hk : k < 2147483648) : 0 ≤ (x &&& m).toInt ∧ (x &&& m).toInt ≤ k := by
  have h1 : (x &&& m).toBitVec.toNat ≤ k := by
    rw [Int32.toBitVec_and, BitVec.toNat_and, hm]; exact Nat.and_le_right
  have h2 : (x &&& m).toInt = ((x &&& m).toBitVec.toNat : Int) := BitVec.toInt_eq_toNat_of_lt (by omega)
  omega
theorem own_plus (x y : Int32) (h1 : -2147483648 ≤ x.toInt + y.toInt) (h2 : x.toInt + y.toInt < 2147483648) : (x + y).toInt = x.toInt + y.toInt := by
  rw [Int32.toInt_add, Int.bmod_def]
  split <;> omega
theorem own_store (i : Int32) (h1 : 1 ≤ i.toInt) (h2 : i.toInt ≤ 1073741824) : (own_F5 i).toInt = (i.toInt + 7) / 8 := by
  have e7 : (7 : Int32).toInt = 7 := by decide
  have e8 : (8 : Int32).toInt = 8 := by decide
  have hp : (i + 7).toInt = i.toInt + 7 := by rw [own_plus _ _ (by omega) (by omega), e7]
  unfold own_F5
  rw [Int32.toInt_toInt64, Int32.toInt_div_of_ne_right _ _ (by decide), hp, e8, Int.tdiv_eq_ediv_of_nonneg (by omega)]
theorem own_key (a b i : Int32) (h1 : 1 ≤ i.toInt) (h2 : i.toInt ≤ 1073741824) : own_F0_24_1 a b i = 1 := by
  have hs := own_store i h1 h2
  have e128 : (128 : Int32).toInt = 128 := by decide
  have e16 : (16 : Int64).toInt = 16 := by decide
  by_cases q : i.toInt ≤ 128
  · have f4 : own_F4 i = 1 := if_neg (by rw [Int32.lt_iff_toInt_lt, e128]; omega)
    have hv : own_F5 i = 1 ∨ own_F5 i = 2 ∨ own_F5 i = 3 ∨ own_F5 i = 4 ∨ own_F5 i = 5 ∨ own_F5 i = 6 ∨ own_F5 i = 7 ∨ own_F5 i = 8 ∨ own_F5 i = 9 ∨ own_F5 i = 10 ∨ own_F5 i = 11 ∨ own_F5 i = 12 ∨ own_F5 i = 13 ∨ own_F5 i = 14 ∨ own_F5 i = 15 ∨ own_F5 i = 16 := by
      simp only [← Int64.toInt_inj, hs, show (1 : Int64).toInt = 1 from by decide, show (2 : Int64).toInt = 2 from by decide, show (3 : Int64).toInt = 3 from by decide, show (4 : Int64).toInt = 4 from by decide, show (5 : Int64).toInt = 5 from by decide, show (6 : Int64).toInt = 6 from by decide, show (7 : Int64).toInt = 7 from by decide, show (8 : Int64).toInt = 8 from by decide, show (9 : Int64).toInt = 9 from by decide, show (10 : Int64).toInt = 10 from by decide, show (11 : Int64).toInt = 11 from by decide, show (12 : Int64).toInt = 12 from by decide, show (13 : Int64).toInt = 13 from by decide, show (14 : Int64).toInt = 14 from by decide, show (15 : Int64).toInt = 15 from by decide, e16]
      omega
    unfold own_F0_24_1 own_F0_61_2 own_F6
    rw [f4]
    rcases hv with h | h | h | h | h | h | h | h | h | h | h | h | h | h | h | h <;> rw [h] <;> decide +kernel
  · have f4 : own_F4 i = 0 := if_pos (by rw [Int32.lt_iff_toInt_lt, e128]; omega)
    have g : (16 : Int64) < own_F5 i := by rw [Int64.lt_iff_toInt_lt, hs, e16]; omega
    unfold own_F0_24_1 own_F0_61_2
    rw [if_pos g, f4, if_pos rfl, if_pos rfl]
theorem own_law (a b : Int32) : own_F0 a b = 1 := by
  have p1 := own_and_le a 1073741823 1073741823 (by decide) (by decide)
  have p2 := own_and_le a 15 15 (by decide) (by decide)
  have e1 : (1 : Int32).toInt = 1 := by decide
  have e121 : (121 : Int32).toInt = 121 := by decide
  unfold own_F0
  split
  · have := own_plus (a &&& 1073741823) 1 (by omega) (by omega)
    exact own_key _ _ _ (by omega) (by omega)
  · have := own_plus 121 (a &&& 15) (by omega) (by omega)
    exact own_key _ _ _ (by omega) (by omega)

set_option maxRecDepth 65536 in
set_option maxHeartbeats 40000000 in
theorem own_comes {Post : Tables → Env → Array Value → State → Outcome → State → Prop} (hpost : ∀ tb e args s v u, (limb_1_1.after args s (.returned v) u = true ∧ limb_1_2.after args s (.returned v) u = true ∧ True) → FrameEnd s (.returned v) u (Jvm.fieldLocs frame_1_writes args s ++ Jvm.arrayLocs frame_1_arrays args s ++ Jvm.staticLocs frame_1_statics s) 16 128 → Post tb e args s (.returned v) u) :
    ArmFor flags0 classFile x code maxLocals ret World_1 tables_1 room_1 Calls_1 rest_1 Pre_1 Post := by
  intro l hfl _ _ p e ha hc hk s m args below hf hA hF happ hP
  obtain ⟨hcalls, hrest, hpre⟩ := hP
  obtain ⟨-, -, -, hnamed, -, -, -, hat⟩ := (Spec.applies_iff hf).mp happ
  obtain ⟨hg, hn⟩ := and_e (Cond.before_iff.mp (show (Jvm.Cond.and given_1 narrow_1).before args s = true from hpre))
  obtain ⟨hg1, hg2⟩ := and_e hg
  obtain ⟨hg3, hg4⟩ := and_e hg2
  obtain ⟨w0, w1, rfl⟩ : ∃ w0 w1 : Value, args = #[w0, w1] := by
    have hs : args.size = 2 := by simpa [Cond.value, given_1] using hg1
    obtain ⟨L⟩ := args
    match L, hs with
    | [w0, w1], _ => exact ⟨w0, w1, rfl⟩
  have hw := fun d (hd : d ∈ tables_1) => atoms_spec (ws := Jvm.Cond.code x code maxLocals ret :: tables_1) hat d (List.mem_cons_of_mem _ hd)
  have hfit : Fit s := fun {y c} hc i hi => by
    obtain ⟨ha, rfl⟩ := Array.getElem?_eq_some_iff.mp hc
    have q := List.all_eq_true.mp ((Array.all_eq_true_iff_forall_mem.mp hF) _ (Array.getElem_mem ha)) i (List.mem_range.mpr hi)
    simpa [Array.getElem?_eq_getElem hi] using q
  obtain ⟨i0, ei0⟩ := is_v hg3
  obtain rfl : w0 = (.int i0) := Option.some.inj ei0
  obtain ⟨i1, ei1⟩ := is_v hg4
  obtain rfl : w1 = (.int i1) := Option.some.inj ei1
  obtain ⟨n, o, h1, h2, h3, _, L, rfl, ⟨rfl, N⟩, hq⟩ := own_rm0 l s _ hw tables_1 i0 i1 s.heap s.heap.size (Nat.le_refl _) p e ha hc hk s m _ below hf ((Spec.applies_iff_loose hf).mp happ).1 ⟨rfl, State.Warmed39.refl s, rfl⟩ trivial
  refine ⟨n, _, h1, h2, h3, hpost _ _ _ _ _ _ ⟨Cond.after_iff.mpr rfl, Cond.after_iff.mpr (eq_i res_at (Term.int_eval (1)) (congrArg Value.int (own_law i0 i1))), trivial⟩ ⟨hq.1, hq.2.1, (hq.2.2.sift fun y hy => Or.inr (N y hy)).mono (by decide) (by decide)⟩⟩
theorem main_1_1 : Claimed_1_1 := own_comes fun _ _ _ _ _ _ h hF => ⟨h.1, hF⟩
theorem main_1_2 : Claimed_1_2 := own_comes fun _ _ _ _ _ _ h hF => ⟨h.2.1, hF⟩
end Jvm.Pilot.@@N@@
namespace Jvm.Pilot.@@N@@
open Jvm Jvm.ClassFile Sem Op Lib Jvm.Free Jvm.Stand Jvm.Pilot.@@N@@.Jvm.D
/-! MADE BY PROGRAM (witnessworld.py) out of the Statement's table words and the real class files: 15 classes; the members and pool entries that the words name. The judged class is class 1, her method 1. -/
namespace start1
open Jvm.ClassFile
def u (s : String) : CpInfo := .utf8 (stringToUtf16 s)
/-- a pool by its gaps: so many unusable entries, then the entry; so many at the end -/
def gap : Nat → List CpInfo → List CpInfo
  | 0, r => r
  | n + 1, r => .unusable :: gap n r
def poolList (es : List (Nat × CpInfo)) (last : Nat) : List CpInfo := es.foldr (fun e r => gap e.1 (e.2 :: r)) (gap last [])
def pool (es : List (Nat × CpInfo)) (last : Nat) : Array CpInfo := ⟨poolList es last⟩
def fileOf (pool : Array CpInfo) (this : Nat) (attrs : Array Attribute := #[]) (ms : Array MethodInfo := #[]) (fl : Nat := 33) (sup : Nat := 0) (ifs : Array Nat := #[]) (fds : Array FieldInfo := #[]) : ClassFile where
  minorVersion := 0
  majorVersion := 65
  constantPool := pool
  accessFlags := fl
  thisClass := this
  superClass := sup
  interfaces := ifs
  fields := fds
  methods := ms
  attributes := attrs
def plain (name : String) (sup : Option ClassId) : Class where
  name := name
  kind := .ordinary
  loader := none
  accessFlags := 33
  super := sup
  interfaces := #[]
  cf := none
  fields := #[]
  methods := #[]
  instanceTypes := #[]
  staticTypes := #[]
  resolved := #[]
  callSites := []
  init := .initialized
  statics := none
  mirror := none

def pool0 : Array CpInfo := pool [(5, u "<init>"), (0, u "()V"), (1, .class_ 10), (1, u "java/lang/Object")] 113

def k0c0 : Code := { maxStack := 0, maxLocals := 1, code := object_method_1_code, exceptionTable := #[], attributes := #[] }
def k0m0 : Method := { name := "<init>", desc := "()V", sig := { parameters := [], returnType := none }, accessFlags := 1, code := some k0c0 }
/-- java/lang/Object -/
def k0 : Class := { plain "java/lang/Object" none with
  accessFlags := 33
  interfaces := #[]
  cf := some (fileOf pool0 8 #[] #[{ accessFlags := 1, nameIndex := 5, descriptorIndex := 6, attributes := #[] }] 33 0 #[] #[])
  fields := #[]
  methods := #[k0m0]
  instanceTypes := #[]
  staticTypes := #[]
  resolved := Array.replicate 124 none
  statics := none }

def pool1 : Array CpInfo := pool [(2, .class_ 4), (1, u "java/lang/Object"), (0, u "<init>"), (0, u "()V"), (0, .integer 1073741823), (0, .class_ 9), (0, u "com/example/rundown/rundown/llvm/Type$IntegerType"), (0, .methodref 8 11), (0, .nameAndType 5 12), (0, u "(I)V"), (0, .methodref 8 14), (0, .nameAndType 15 16), (0, u "isSized"), (0, u "()Z"), (0, .methodref 8 18), (0, .nameAndType 19 20), (0, u "storeSize"), (0, u "()J"), (0, .long 16), (1, .methodref 8 24), (0, .nameAndType 25 20), (0, u "size"), (0, .long 2), (1, .class_ 29), (0, u "com/example/rundown/rundown/llvm/IntegerTypeIsSizedPinLaw"), (2, u "law"), (0, u "(II)Z")] 7

def k1m0 : Method := { name := "<init>", desc := "()V", sig := { parameters := [], returnType := none }, accessFlags := 2, code := none }
def k1c1 : Code := { maxStack := 6, maxLocals := 9, code := code, exceptionTable := #[], attributes := #[] }
def k1m1 : Method := { name := "law", desc := "(II)Z", sig := { parameters := [.int, .int], returnType := some .boolean }, accessFlags := 9, code := some k1c1 }
/-- com/example/rundown/rundown/llvm/IntegerTypeIsSizedPinLaw -/
def k1 : Class := { plain "com/example/rundown/rundown/llvm/IntegerTypeIsSizedPinLaw" (some 0) with
  accessFlags := 49
  interfaces := #[]
  cf := some (fileOf pool1 28 #[] #[{ accessFlags := 2, nameIndex := 5, descriptorIndex := 6, attributes := #[] }, { accessFlags := 9, nameIndex := 32, descriptorIndex := 33, attributes := #[] }] 49 2 #[] #[])
  fields := #[]
  methods := #[k1m0, k1m1]
  instanceTypes := #[]
  staticTypes := #[]
  resolved := Array.replicate 41 none
  statics := none }

def pool2 : Array CpInfo := pool [(1, .methodref 2 3), (0, .class_ 4), (0, .nameAndType 5 6), (0, u "java/lang/Object"), (0, u "<init>"), (0, u "()V"), (0, .class_ 8), (0, u "java/lang/Record")] 13

def k2c0 : Code := { maxStack := 1, maxLocals := 1, code := jdk_30_method_1_code, exceptionTable := #[], attributes := #[] }
def k2m0 : Method := { name := "<init>", desc := "()V", sig := { parameters := [], returnType := none }, accessFlags := 4, code := some k2c0 }
/-- java/lang/Record -/
def k2 : Class := { plain "java/lang/Record" (some 0) with
  accessFlags := 1057
  interfaces := #[]
  cf := some (fileOf pool2 7 #[] #[{ accessFlags := 4, nameIndex := 5, descriptorIndex := 6, attributes := #[] }] 1057 2 #[] #[])
  fields := #[]
  methods := #[k2m0]
  instanceTypes := #[]
  staticTypes := #[]
  resolved := Array.replicate 22 none
  statics := none }

def pool3 : Array CpInfo := pool [(1, .interfaceMethodref 2 3), (0, .class_ 4), (0, .nameAndType 5 6), (0, u "com/example/rundown/rundown/llvm/Type"), (0, u "isSized"), (0, u "()Z"), (16, .class_ 24), (0, u "com/example/rundown/rundown/llvm/Type$PointerType"), (5, u "POINTER"), (0, u "Lcom/example/rundown/rundown/llvm/Type;"), (0, .class_ 33), (0, u "com/example/rundown/rundown/llvm/Type$OtherType"), (5, u "VOID"), (0, .class_ 41), (0, u "java/lang/Object"), (5, u "requireSized"), (0, u "(Lcom/example/rundown/rundown/llvm/Type;)V"), (5, .class_ 55), (0, u "com/example/rundown/rundown/llvm/Type$StructType"), (0, .class_ 57), (0, u "com/example/rundown/rundown/llvm/Type$ArrayType"), (0, .class_ 59), (0, u "com/example/rundown/rundown/llvm/Type$FloatType"), (0, .class_ 61), (0, u "com/example/rundown/rundown/llvm/Type$IntegerType")] 22

def k3c0 : Code := { maxStack := 1, maxLocals := 1, code := ⟨#[0x04, 0xac]⟩, exceptionTable := #[], attributes := #[] }
def k3m0 : Method := { name := "isSized", desc := "()Z", sig := { parameters := [], returnType := some .boolean }, accessFlags := 1, code := some k3c0 }
def k3c1 : Code := { maxStack := 3, maxLocals := 1, code := prog_44_method_4_code, exceptionTable := #[], attributes := #[] }
def k3m1 : Method := { name := "requireSized", desc := "(Lcom/example/rundown/rundown/llvm/Type;)V", sig := { parameters := [(.object "com/example/rundown/rundown/llvm/Type")], returnType := none }, accessFlags := 10, code := some k3c1 }
/-- com/example/rundown/rundown/llvm/Type -/
def k3 : Class := { plain "com/example/rundown/rundown/llvm/Type" (some 0) with
  accessFlags := 1537
  interfaces := #[]
  cf := some (fileOf pool3 2 #[.nestMembers #[32, 54, 56, 58, 23, 60]] #[{ accessFlags := 1, nameIndex := 5, descriptorIndex := 6, attributes := #[] }, { accessFlags := 10, nameIndex := 47, descriptorIndex := 48, attributes := #[] }] 1537 40 #[] #[{ accessFlags := 25, nameIndex := 30, descriptorIndex := 31, attributes := #[] }, { accessFlags := 25, nameIndex := 39, descriptorIndex := 31, attributes := #[] }])
  fields := #[{ name := "POINTER", type := (.object "com/example/rundown/rundown/llvm/Type"), accessFlags := 25, slot := 0, constantValue := 0 }, { name := "VOID", type := (.object "com/example/rundown/rundown/llvm/Type"), accessFlags := 25, slot := 1, constantValue := 0 }]
  methods := #[k3m0, k3m1]
  instanceTypes := #[]
  staticTypes := #[(.object "com/example/rundown/rundown/llvm/Type"), (.object "com/example/rundown/rundown/llvm/Type")]
  resolved := Array.replicate 84 none
  statics := none }

def pool4 : Array CpInfo := pool [(1, .methodref 2 3), (0, .class_ 4), (0, .nameAndType 5 6), (0, u "java/lang/Record"), (0, u "<init>"), (0, u "()V"), (0, .fieldref 8 9), (0, .class_ 10), (0, .nameAndType 11 12), (0, u "com/example/rundown/rundown/llvm/Type$IntegerType"), (0, u "bits"), (0, u "I"), (0, .interfaceMethodref 14 15), (0, .class_ 16), (0, .nameAndType 17 18), (0, u "com/example/rundown/rundown/llvm/Type"), (0, u "requireSized"), (0, u "(Lcom/example/rundown/rundown/llvm/Type;)V"), (0, .methodref 8 20), (0, .nameAndType 21 22), (0, u "storeSize"), (0, u "()J"), (0, .long 2), (1, .methodref 26 27), (0, .class_ 28), (0, .nameAndType 29 30), (0, u "java/lang/Long"), (0, u "highestOneBit"), (0, u "(J)J"), (2, u "size"), (12, u "(I)V"), (3, u "isSized"), (0, u "()Z")] 35

def k4c0 : Code := { maxStack := 2, maxLocals := 2, code := prog_47_method_1_code, exceptionTable := #[], attributes := #[] }
def k4m0 : Method := { name := "<init>", desc := "(I)V", sig := { parameters := [.int], returnType := none }, accessFlags := 1, code := some k4c0 }
def k4c1 : Code := { maxStack := 2, maxLocals := 1, code := prog_47_method_2_code, exceptionTable := #[], attributes := #[] }
def k4m1 : Method := { name := "storeSize", desc := "()J", sig := { parameters := [], returnType := some .long }, accessFlags := 1, code := some k4c1 }
def k4c2 : Code := { maxStack := 2, maxLocals := 1, code := prog_47_method_3_code, exceptionTable := #[], attributes := #[] }
def k4m2 : Method := { name := "isSized", desc := "()Z", sig := { parameters := [], returnType := some .boolean }, accessFlags := 1, code := some k4c2 }
def k4c3 : Code := { maxStack := 4, maxLocals := 1, code := prog_47_method_4_code, exceptionTable := #[], attributes := #[] }
def k4m3 : Method := { name := "size", desc := "()J", sig := { parameters := [], returnType := some .long }, accessFlags := 1, code := some k4c3 }
/-- com/example/rundown/rundown/llvm/Type$IntegerType -/
def k4 : Class := { plain "com/example/rundown/rundown/llvm/Type$IntegerType" (some 2) with
  accessFlags := 49
  interfaces := #[3]
  cf := some (fileOf pool4 8 #[.nestHost 14] #[{ accessFlags := 1, nameIndex := 5, descriptorIndex := 46, attributes := #[] }, { accessFlags := 1, nameIndex := 21, descriptorIndex := 22, attributes := #[] }, { accessFlags := 1, nameIndex := 50, descriptorIndex := 51, attributes := #[] }, { accessFlags := 1, nameIndex := 33, descriptorIndex := 22, attributes := #[] }] 49 2 #[14] #[{ accessFlags := 18, nameIndex := 11, descriptorIndex := 12, attributes := #[] }])
  fields := #[{ name := "bits", type := .int, accessFlags := 18, slot := 0, constantValue := 0 }]
  methods := #[k4m0, k4m1, k4m2, k4m3]
  instanceTypes := #[.int]
  staticTypes := #[]
  resolved := Array.replicate 87 none
  statics := none }

def pool5 : Array CpInfo := pool [(1, .class_ 2), (0, u "java/io/Serializable"), (0, .class_ 4), (0, u "java/lang/Object")] 2

/-- java/io/Serializable -/
def k5 : Class := { plain "java/io/Serializable" (some 0) with
  accessFlags := 1537
  interfaces := #[]
  cf := some (fileOf pool5 1 #[] #[] 1537 3 #[] #[])
  fields := #[]
  methods := #[]
  instanceTypes := #[]
  staticTypes := #[]
  resolved := Array.replicate 7 none
  statics := none }

def pool6 : Array CpInfo := pool [(2, .class_ 4), (1, u "java/lang/Object"), (0, u "<init>"), (0, u "()V"), (1, .class_ 10), (1, u "java/lang/Number"), (2, .class_ 14), (0, u "java/io/Serializable"), (0, u "serialVersionUID"), (0, u "J")] 20

def k6m0 : Method := { name := "<init>", desc := "()V", sig := { parameters := [], returnType := none }, accessFlags := 1, code := none }
/-- java/lang/Number -/
def k6 : Class := { plain "java/lang/Number" (some 0) with
  accessFlags := 1057
  interfaces := #[5]
  cf := some (fileOf pool6 8 #[] #[{ accessFlags := 1, nameIndex := 5, descriptorIndex := 6, attributes := #[] }] 1057 2 #[13] #[{ accessFlags := 26, nameIndex := 15, descriptorIndex := 16, attributes := #[] }])
  fields := #[{ name := "serialVersionUID", type := .long, accessFlags := 26, slot := 0, constantValue := 0 }]
  methods := #[k6m0]
  instanceTypes := #[]
  staticTypes := #[.long]
  resolved := Array.replicate 37 none
  statics := none }

def pool7 : Array CpInfo := pool [(1, .class_ 2), (0, u "java/lang/Comparable"), (0, .class_ 4), (0, u "java/lang/Object")] 7

/-- java/lang/Comparable -/
def k7 : Class := { plain "java/lang/Comparable" (some 0) with
  accessFlags := 1537
  interfaces := #[]
  cf := some (fileOf pool7 1 #[] #[] 1537 3 #[] #[])
  fields := #[]
  methods := #[]
  instanceTypes := #[]
  staticTypes := #[]
  resolved := Array.replicate 12 none
  statics := none }

def pool8 : Array CpInfo := pool [(1, .class_ 2), (0, u "java/lang/constant/Constable"), (0, .class_ 4), (0, u "java/lang/Object")] 6

/-- java/lang/constant/Constable -/
def k8 : Class := { plain "java/lang/constant/Constable" (some 0) with
  accessFlags := 1537
  interfaces := #[]
  cf := some (fileOf pool8 1 #[] #[] 1537 3 #[] #[])
  fields := #[]
  methods := #[]
  instanceTypes := #[]
  staticTypes := #[]
  resolved := Array.replicate 11 none
  statics := none }

def pool9 : Array CpInfo := pool [(1, .class_ 2), (0, u "java/lang/constant/ConstantDesc"), (0, .class_ 4), (0, u "java/lang/Object")] 32

/-- java/lang/constant/ConstantDesc -/
def k9 : Class := { plain "java/lang/constant/ConstantDesc" (some 0) with
  accessFlags := 1537
  interfaces := #[]
  cf := some (fileOf pool9 1 #[] #[] 1537 3 #[] #[])
  fields := #[]
  methods := #[]
  instanceTypes := #[]
  staticTypes := #[]
  resolved := Array.replicate 37 none
  statics := none }

def pool10 : Array CpInfo := pool [(1, .class_ 2), (0, u "java/lang/Long"), (15, .class_ 20), (1, u "java/lang/Integer"), (77, .methodref 1 99), (0, .nameAndType 100 101), (0, u "numberOfLeadingZeros"), (0, u "(J)I"), (66, .long 9223372036854775808), (66, .class_ 237), (1, u "java/lang/Long$LongCache"), (33, .class_ 272), (0, u "java/lang/Number"), (2, u "value"), (0, u "J"), (31, .methodref 18 309), (0, .nameAndType 100 310), (0, u "(I)I"), (12, u "(J)J"), (37, u "TYPE"), (0, u "Ljava/lang/Class;"), (0, .class_ 364), (0, u "java/lang/Comparable"), (0, .class_ 366), (0, u "java/lang/constant/Constable"), (0, .class_ 368), (0, u "java/lang/constant/ConstantDesc"), (0, u "MIN_VALUE"), (1, u "MAX_VALUE"), (4, u "SIZE"), (0, u "I"), (1, u "BYTES"), (1, u "serialVersionUID"), (92, u "highestOneBit")] 49

def k10c0 : Code := { maxStack := 6, maxLocals := 2, code := jdk_35_method_46_code, exceptionTable := #[], attributes := #[] }
def k10m0 : Method := { name := "highestOneBit", desc := "(J)J", sig := { parameters := [.long], returnType := some .long }, accessFlags := 9, code := some k10c0 }
def k10c1 : Code := { maxStack := 3, maxLocals := 3, code := jdk_35_method_48_code, exceptionTable := #[], attributes := #[] }
def k10m1 : Method := { name := "numberOfLeadingZeros", desc := "(J)I", sig := { parameters := [.long], returnType := some .int }, accessFlags := 9, code := some k10c1 }
/-- java/lang/Long -/
def k10 : Class := { plain "java/lang/Long" (some 6) with
  accessFlags := 49
  interfaces := #[7, 8, 9]
  cf := some (fileOf pool10 1 #[.nestMembers #[235]] #[{ accessFlags := 9, nameIndex := 474, descriptorIndex := 323, attributes := #[] }, { accessFlags := 9, nameIndex := 100, descriptorIndex := 101, attributes := #[] }] 49 271 #[363, 365, 367] #[{ accessFlags := 25, nameIndex := 369, descriptorIndex := 276, attributes := #[] }, { accessFlags := 25, nameIndex := 371, descriptorIndex := 276, attributes := #[] }, { accessFlags := 25, nameIndex := 361, descriptorIndex := 362, attributes := #[] }, { accessFlags := 18, nameIndex := 275, descriptorIndex := 276, attributes := #[] }, { accessFlags := 25, nameIndex := 376, descriptorIndex := 377, attributes := #[] }, { accessFlags := 25, nameIndex := 379, descriptorIndex := 377, attributes := #[] }, { accessFlags := 26, nameIndex := 381, descriptorIndex := 276, attributes := #[] }])
  fields := #[{ name := "MIN_VALUE", type := .long, accessFlags := 25, slot := 0, constantValue := 0 }, { name := "MAX_VALUE", type := .long, accessFlags := 25, slot := 1, constantValue := 0 }, { name := "TYPE", type := (.object "java/lang/Class"), accessFlags := 25, slot := 2, constantValue := 0 }, { name := "value", type := .long, accessFlags := 18, slot := 0, constantValue := 0 }, { name := "SIZE", type := .int, accessFlags := 25, slot := 3, constantValue := 0 }, { name := "BYTES", type := .int, accessFlags := 25, slot := 4, constantValue := 0 }, { name := "serialVersionUID", type := .long, accessFlags := 26, slot := 5, constantValue := 0 }]
  methods := #[k10m0, k10m1]
  instanceTypes := #[.long]
  staticTypes := #[.long, .long, (.object "java/lang/Class"), .int, .int, .long]
  resolved := Array.replicate 524 none
  statics := none }

def pool11 : Array CpInfo := pool [(1, .class_ 2), (0, u "java/lang/Integer"), (16, u "digits"), (0, u "[C"), (32, u "numberOfLeadingZeros"), (0, u "(I)I"), (30, u "DigitOnes"), (0, u "[B"), (2, u "DigitTens"), (99, .class_ 190), (0, u "java/lang/Integer$IntegerCache"), (3, u "I"), (8, .class_ 204), (0, u "java/lang/Number"), (2, u "value"), (56, .integer 65536), (37, u "TYPE"), (0, u "Ljava/lang/Class;"), (0, .class_ 305), (0, u "java/lang/Comparable"), (0, .class_ 307), (0, u "java/lang/constant/Constable"), (0, .class_ 309), (0, u "java/lang/constant/ConstantDesc"), (0, u "MIN_VALUE"), (1, u "MAX_VALUE"), (3, u "SIZE"), (1, u "BYTES"), (1, u "serialVersionUID"), (0, u "J")] 131

def k11c0 : Code := { maxStack := 3, maxLocals := 2, code := jdk_33_method_47_code, exceptionTable := #[], attributes := #[] }
def k11m0 : Method := { name := "numberOfLeadingZeros", desc := "(I)I", sig := { parameters := [.int], returnType := some .int }, accessFlags := 9, code := some k11c0 }
/-- java/lang/Integer -/
def k11 : Class := { plain "java/lang/Integer" (some 6) with
  accessFlags := 49
  interfaces := #[7, 8, 9]
  cf := some (fileOf pool11 1 #[.nestMembers #[189]] #[{ accessFlags := 9, nameIndex := 53, descriptorIndex := 54, attributes := #[] }] 49 203 #[304, 306, 308] #[{ accessFlags := 25, nameIndex := 310, descriptorIndex := 194, attributes := #[] }, { accessFlags := 25, nameIndex := 312, descriptorIndex := 194, attributes := #[] }, { accessFlags := 25, nameIndex := 302, descriptorIndex := 303, attributes := #[] }, { accessFlags := 24, nameIndex := 19, descriptorIndex := 20, attributes := #[] }, { accessFlags := 24, nameIndex := 89, descriptorIndex := 86, attributes := #[] }, { accessFlags := 24, nameIndex := 85, descriptorIndex := 86, attributes := #[] }, { accessFlags := 18, nameIndex := 207, descriptorIndex := 194, attributes := #[] }, { accessFlags := 25, nameIndex := 316, descriptorIndex := 194, attributes := #[] }, { accessFlags := 25, nameIndex := 318, descriptorIndex := 194, attributes := #[] }, { accessFlags := 26, nameIndex := 320, descriptorIndex := 321, attributes := #[] }])
  fields := #[{ name := "MIN_VALUE", type := .int, accessFlags := 25, slot := 0, constantValue := 0 }, { name := "MAX_VALUE", type := .int, accessFlags := 25, slot := 1, constantValue := 0 }, { name := "TYPE", type := (.object "java/lang/Class"), accessFlags := 25, slot := 2, constantValue := 0 }, { name := "digits", type := (.array .char), accessFlags := 24, slot := 3, constantValue := 0 }, { name := "DigitTens", type := (.array .byte), accessFlags := 24, slot := 4, constantValue := 0 }, { name := "DigitOnes", type := (.array .byte), accessFlags := 24, slot := 5, constantValue := 0 }, { name := "value", type := .int, accessFlags := 18, slot := 0, constantValue := 0 }, { name := "SIZE", type := .int, accessFlags := 25, slot := 6, constantValue := 0 }, { name := "BYTES", type := .int, accessFlags := 25, slot := 7, constantValue := 0 }, { name := "serialVersionUID", type := .long, accessFlags := 26, slot := 8, constantValue := 0 }]
  methods := #[k11m0]
  instanceTypes := #[.int]
  staticTypes := #[.int, .int, (.object "java/lang/Class"), (.array .char), (.array .byte), (.array .byte), .int, .int, .long]
  resolved := Array.replicate 453 none
  statics := none }

def pool12 : Array CpInfo := pool [(1, u "java/lang/Cloneable"), (0, .class_ 1), (0, u "java/lang/Object"), (0, .class_ 3)] 3

/-- java/lang/Cloneable -/
def k12 : Class := { plain "java/lang/Cloneable" (some 0) with
  accessFlags := 1537
  interfaces := #[]
  cf := some (fileOf pool12 2 #[] #[] 1537 4 #[] #[])
  fields := #[]
  methods := #[]
  instanceTypes := #[]
  staticTypes := #[]
  resolved := Array.replicate 8 none
  statics := none }

/-- the primitive byte -/
def k13 : Class := { plain "byte" none with kind := .primitive 'B', accessFlags := 0x411 }
/-- [B -/
def k14 : Class := { plain "[B" (some 0) with kind := .array 13 .byte, interfaces := #[12, 5], accessFlags := 1041 }

def heap : Heap := #[]
def classes : Array Class := #[k0, k1, k2, k3, k4, k5, k6, k7, k8, k9, k10, k11, k12, k13, k14]
def interned : List (Array UInt16 × Addr) := []
def slotsUsed : Nat := 0
def theMethod : MethodId := ⟨1, 1⟩
def args0 : Array Value := #[.int 5, .int 6]
def aboutOver (below : List Frame) : State where
  vm := { classes := classes, interned := interned.toArray }
  heap := heap
  slotsUsed := slotsUsed
  threads := #[{ frames := .invoking theMethod args0 :: below }]
def below0 : List Frame := [.native { method := ⟨0, 0⟩, args := #[] }]
def about1 : State := aboutOver below0
def p0 : Program := .bare "" "" ""
def e0 : Env := launch0.env 0 0 0
theorem w_frames : about1.frames = Frame.invoking theMethod args0 :: below0 := rfl
set_option maxRecDepth 65536 in
theorem w_args : argsFit about1.vm theMethod args0 = true := by decide +kernel
set_option maxRecDepth 65536 in
theorem w_heap : heapFits about1 = true := by decide +kernel
set_option maxRecDepth 65536 in
theorem w_runnable : about1.curStatus? = some .runnable := by decide +kernel
set_option maxRecDepth 65536 in
theorem w_alone : about1.alone = true := by decide +kernel
set_option maxRecDepth 65536 in
theorem w_named : about1.methodNamed? x = some theMethod := by decide +kernel
set_option maxRecDepth 65536 in
theorem w_hears : about1.hears theMethod below0 = true := by decide +kernel
set_option maxRecDepth 65536 in
theorem w_ripe : about1.ripe theMethod args0 below0 = true := by decide +kernel
theorem w_running : about1.status = .running := rfl
set_option maxRecDepth 65536 in
theorem w_room : about1.hasRoom e0.platform room_1 = true :=
  launch0.hasRoom_least _ room_1 (by decide +kernel) (by decide +kernel) (by decide +kernel) (by decide +kernel) (by decide +kernel) (by decide +kernel)
theorem allAtoms_all (ts : List Jvm.Cond) (a : Array Jvm.Value) (st : Jvm.State) : (allAtoms ts).before a st = ts.all (fun c => c.before a st) := by
  induction ts with
  | nil => rfl
  | cons c t ih =>
    show (Jvm.Cond.and c (allAtoms t)).before a st = _
    rw [Jvm.Cond.before_and, ih, List.all_cons]
def words1 : List Jvm.Cond := Jvm.Cond.code x code maxLocals ret :: tables_1
/-- a 'code' word, met by the world's own term for the bytes: nothing is compared byte by byte -/
theorem code_word {y : MethodName} {bytes : ByteArray} {mx : Nat} {rt : Option FieldType} {a : Array Value} {s : State} {m : MethodId} {meth : Method} {c : Code} (h1 : s.methodNamed? y = some m) (h2 : s.vm.method? m = some meth) (h3 : meth.code = some c) (h4 : c.code = bytes)
    (h5 : (c.maxLocals == mx && c.exceptionTable.isEmpty && decide (c.maxStack ≤ mostOperands) && decide (meth.sig.returnType = rt) && !meth.locks && decide (parseMethodDescriptor y.desc = some meth.sig)) = true) : (Jvm.Cond.code y bytes mx rt).before a s = true := by
  simp only [Bool.and_eq_true, beq_iff_eq, Bool.not_eq_true', decide_eq_true_eq] at h5
  obtain ⟨⟨⟨⟨⟨g1, g2⟩, g3⟩, g4⟩, g5⟩, g6⟩ := h5
  simp [Cond.before, Cond.holds, Cond.value, h1, h2, h3, h4, g1, g2, g3, g4, g5, g6]
def isCode : Jvm.Cond → Bool
  | .code _ _ _ _ => true
  | _ => false
theorem all_split {L : List Jvm.Cond} {P : Jvm.Cond → Bool} (h1 : L.all (fun c => isCode c || P c) = true) (h2 : ∀ c ∈ L.filter isCode, P c = true) : L.all P = true := by
  refine List.all_eq_true.mpr fun c hc => ?_
  have h := List.all_eq_true.mp h1 c hc
  rcases Bool.eq_false_or_eq_true (isCode c) with hi | hi
  · exact h2 c (List.mem_filter.mpr ⟨hc, hi⟩)
  · simpa [hi] using h
set_option maxRecDepth 65536 in
theorem w_c0 : (Jvm.Cond.code x code maxLocals ret).before args0 about1 = true := code_word (m := ⟨1, 1⟩) (meth := k1m1) (c := k1c1) (by decide +kernel) rfl rfl rfl (by decide +kernel)
set_option maxRecDepth 65536 in
theorem w_c1 : (Jvm.Cond.code ({ cls := "com/example/rundown/rundown/llvm/Type$IntegerType", name := "<init>", desc := "(I)V" } : Jvm.MethodName) prog_47_method_1_code (2 : Nat) (Option.none : Option Jvm.ClassFile.FieldType)).before args0 about1 = true := code_word (m := ⟨4, 0⟩) (meth := k4m0) (c := k4c0) (by decide +kernel) rfl rfl rfl (by decide +kernel)
set_option maxRecDepth 65536 in
theorem w_c2 : (Jvm.Cond.code ({ cls := "java/lang/Record", name := "<init>", desc := "()V" } : Jvm.MethodName) jdk_30_method_1_code (1 : Nat) (Option.none : Option Jvm.ClassFile.FieldType)).before args0 about1 = true := code_word (m := ⟨2, 0⟩) (meth := k2m0) (c := k2c0) (by decide +kernel) rfl rfl rfl (by decide +kernel)
set_option maxRecDepth 65536 in
theorem w_c3 : (Jvm.Cond.code ({ cls := "java/lang/Object", name := "<init>", desc := "()V" } : Jvm.MethodName) object_method_1_code (1 : Nat) (Option.none : Option Jvm.ClassFile.FieldType)).before args0 about1 = true := code_word (m := ⟨0, 0⟩) (meth := k0m0) (c := k0c0) (by decide +kernel) rfl rfl rfl (by decide +kernel)
set_option maxRecDepth 65536 in
theorem w_c4 : (Jvm.Cond.code ({ cls := "com/example/rundown/rundown/llvm/Type$IntegerType", name := "isSized", desc := "()Z" } : Jvm.MethodName) prog_47_method_3_code (1 : Nat) (Option.some Jvm.ClassFile.FieldType.boolean)).before args0 about1 = true := code_word (m := ⟨4, 2⟩) (meth := k4m2) (c := k4c2) (by decide +kernel) rfl rfl rfl (by decide +kernel)
set_option maxRecDepth 65536 in
theorem w_c5 : (Jvm.Cond.code ({ cls := "com/example/rundown/rundown/llvm/Type$IntegerType", name := "storeSize", desc := "()J" } : Jvm.MethodName) prog_47_method_2_code (1 : Nat) (Option.some Jvm.ClassFile.FieldType.long)).before args0 about1 = true := code_word (m := ⟨4, 1⟩) (meth := k4m1) (c := k4c1) (by decide +kernel) rfl rfl rfl (by decide +kernel)
set_option maxRecDepth 65536 in
theorem w_c6 : (Jvm.Cond.code ({ cls := "com/example/rundown/rundown/llvm/Type$IntegerType", name := "size", desc := "()J" } : Jvm.MethodName) prog_47_method_4_code (1 : Nat) (Option.some Jvm.ClassFile.FieldType.long)).before args0 about1 = true := code_word (m := ⟨4, 3⟩) (meth := k4m3) (c := k4c3) (by decide +kernel) rfl rfl rfl (by decide +kernel)
set_option maxRecDepth 65536 in
theorem w_c7 : (Jvm.Cond.code ({ cls := "com/example/rundown/rundown/llvm/Type", name := "requireSized", desc := "(Lcom/example/rundown/rundown/llvm/Type;)V" } : Jvm.MethodName) prog_44_method_4_code (1 : Nat) (Option.none : Option Jvm.ClassFile.FieldType)).before args0 about1 = true := code_word (m := ⟨3, 1⟩) (meth := k3m1) (c := k3c1) (by decide +kernel) rfl rfl rfl (by decide +kernel)
set_option maxRecDepth 65536 in
theorem w_c8 : (Jvm.Cond.code ({ cls := "java/lang/Long", name := "highestOneBit", desc := "(J)J" } : Jvm.MethodName) jdk_35_method_46_code (2 : Nat) (Option.some Jvm.ClassFile.FieldType.long)).before args0 about1 = true := code_word (m := ⟨10, 0⟩) (meth := k10m0) (c := k10c0) (by decide +kernel) rfl rfl rfl (by decide +kernel)
set_option maxRecDepth 65536 in
theorem w_c9 : (Jvm.Cond.code ({ cls := "java/lang/Long", name := "numberOfLeadingZeros", desc := "(J)I" } : Jvm.MethodName) jdk_35_method_48_code (3 : Nat) (Option.some Jvm.ClassFile.FieldType.int)).before args0 about1 = true := code_word (m := ⟨10, 1⟩) (meth := k10m1) (c := k10c1) (by decide +kernel) rfl rfl rfl (by decide +kernel)
set_option maxRecDepth 65536 in
theorem w_c10 : (Jvm.Cond.code ({ cls := "java/lang/Integer", name := "numberOfLeadingZeros", desc := "(I)I" } : Jvm.MethodName) jdk_33_method_47_code (2 : Nat) (Option.some Jvm.ClassFile.FieldType.int)).before args0 about1 = true := code_word (m := ⟨11, 0⟩) (meth := k11m0) (c := k11c0) (by decide +kernel) rfl rfl rfl (by decide +kernel)
def codes1 : List Jvm.Cond := [Jvm.Cond.code x code maxLocals ret, Jvm.Cond.code ({ cls := "com/example/rundown/rundown/llvm/Type$IntegerType", name := "<init>", desc := "(I)V" } : Jvm.MethodName) prog_47_method_1_code (2 : Nat) (Option.none : Option Jvm.ClassFile.FieldType), Jvm.Cond.code ({ cls := "java/lang/Record", name := "<init>", desc := "()V" } : Jvm.MethodName) jdk_30_method_1_code (1 : Nat) (Option.none : Option Jvm.ClassFile.FieldType), Jvm.Cond.code ({ cls := "java/lang/Object", name := "<init>", desc := "()V" } : Jvm.MethodName) object_method_1_code (1 : Nat) (Option.none : Option Jvm.ClassFile.FieldType), Jvm.Cond.code ({ cls := "com/example/rundown/rundown/llvm/Type$IntegerType", name := "isSized", desc := "()Z" } : Jvm.MethodName) prog_47_method_3_code (1 : Nat) (Option.some Jvm.ClassFile.FieldType.boolean), Jvm.Cond.code ({ cls := "com/example/rundown/rundown/llvm/Type$IntegerType", name := "storeSize", desc := "()J" } : Jvm.MethodName) prog_47_method_2_code (1 : Nat) (Option.some Jvm.ClassFile.FieldType.long), Jvm.Cond.code ({ cls := "com/example/rundown/rundown/llvm/Type$IntegerType", name := "size", desc := "()J" } : Jvm.MethodName) prog_47_method_4_code (1 : Nat) (Option.some Jvm.ClassFile.FieldType.long), Jvm.Cond.code ({ cls := "com/example/rundown/rundown/llvm/Type", name := "requireSized", desc := "(Lcom/example/rundown/rundown/llvm/Type;)V" } : Jvm.MethodName) prog_44_method_4_code (1 : Nat) (Option.none : Option Jvm.ClassFile.FieldType), Jvm.Cond.code ({ cls := "java/lang/Long", name := "highestOneBit", desc := "(J)J" } : Jvm.MethodName) jdk_35_method_46_code (2 : Nat) (Option.some Jvm.ClassFile.FieldType.long), Jvm.Cond.code ({ cls := "java/lang/Long", name := "numberOfLeadingZeros", desc := "(J)I" } : Jvm.MethodName) jdk_35_method_48_code (3 : Nat) (Option.some Jvm.ClassFile.FieldType.int), Jvm.Cond.code ({ cls := "java/lang/Integer", name := "numberOfLeadingZeros", desc := "(I)I" } : Jvm.MethodName) jdk_33_method_47_code (2 : Nat) (Option.some Jvm.ClassFile.FieldType.int)]
set_option maxRecDepth 65536 in
theorem codes_eq : words1.filter isCode = codes1 := rfl
theorem w_codes : ∀ c ∈ words1.filter isCode, c.before args0 about1 = true := by
  rw [codes_eq]
  intro c hc
  simp only [codes1, List.mem_cons, List.not_mem_nil, or_false] at hc
  rcases hc with rfl | rfl | rfl | rfl | rfl | rfl | rfl | rfl | rfl | rfl | rfl
  · exact w_c0
  · exact w_c1
  · exact w_c2
  · exact w_c3
  · exact w_c4
  · exact w_c5
  · exact w_c6
  · exact w_c7
  · exact w_c8
  · exact w_c9
  · exact w_c10
set_option maxRecDepth 65536 in
theorem w_t1 : (words1.take 24).all (fun c => isCode c || c.before args0 about1) = true := by decide +kernel
set_option maxRecDepth 65536 in
theorem w_t2 : ((words1.drop 24).take 24).all (fun c => isCode c || c.before args0 about1) = true := by decide +kernel
set_option maxRecDepth 65536 in
theorem w_t3 : ((words1.drop 24).drop 24).all (fun c => isCode c || c.before args0 about1) = true := by decide +kernel
theorem w_tables : (allAtoms (Jvm.Cond.code x code maxLocals ret :: tables_1)).before args0 about1 = true := by
  rw [allAtoms_all]
  show words1.all (fun c => c.before args0 about1) = true
  refine all_split ?_ w_codes
  rw [← List.take_append_drop 24 words1, List.all_append, w_t1, ← List.take_append_drop 24 (words1.drop 24), List.all_append, w_t2, w_t3]
  rfl
set_option maxRecDepth 65536 in
theorem w_case : (Jvm.Cond.and given_1 narrow_1).before args0 about1 = true := by decide +kernel
theorem w_applies : (headSpec (Jvm.Cond.code x code maxLocals ret :: tables_1) room_1).applies x e0.platform about1 = true :=
  (Spec.applies_iff w_frames).mpr ⟨w_running, w_runnable, w_alone, w_named, w_hears, w_ripe, w_room, w_tables⟩
theorem atStart : AtStart classFile x code maxLocals ret World_1 tables_1 room_1 Calls_1 rest_1 Pre_1 launch0 p0 e0 about1 theMethod args0 below0 :=
  ⟨lists_1, trivial, launch0.admits_env _ _ _, launch0.least_env, fairChoices_fair.cas, fairChoices_fair.clock, w_frames, w_args, w_heap, w_applies, trivial, trivial, w_case⟩
end start1
theorem witness_1 : WitnessClaimed_1 := ⟨start1.p0, start1.e0, start1.about1, start1.theMethod, start1.args0, start1.below0, start1.atStart⟩
end Jvm.Pilot.@@N@@
