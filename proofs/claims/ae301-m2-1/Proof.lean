import JvmDerived
import JvmDerived.Pilot.@@N@@Statement
import JvmDerived.Pilot.@@N@@Code
set_option linter.unusedVariables false
set_option linter.unusedSimpArgs false
namespace Jvm.Pilot.@@N@@
open Jvm Jvm.ClassFile Sem Op Lib Jvm.Free Jvm.Stand Jvm.LawKit Jvm.RoadKit Bundle Jvm.Pilot.@@N@@.Jvm.D
/-- from the frame g at T the run reaches a state of which P holds -/
def own_Go (p : Program) (e : Env) (below : List Frame) (P : State → Outcome → Prop) (T : State) (g : JFrame) : Prop := ∃ t o, Steps p.tables e below (T.setTop g) t ∧ P t o
/-- the run has left the method: what it returned, the heap and the places written are as Q says -/
def own_P (s : State) (below : List Frame) (R : Room) (Q : Option Value → Heap → List Loc → Prop) (t : State) (o : Outcome) : Prop := t.status = .running ∧ Ended t below o ∧ ∃ v L, o = .returned v ∧ Q v t.heap L ∧ FrameEnd s o t L R.cells R.slots
section OwnKit
variable {p : Program} {l : Launch} {e : Env} {R : Room} {s : State} {m : MethodId} {args : Array Value} {below : List Frame} {meth : Method} {c : Code} {T T' : State} {locs : List Loc} {cells slots : Nat} {P : State → Outcome → Prop} {g g' : JFrame}
theorem own_by (k : ∀ t, Steps p.tables e below (T'.setTop g') t → Steps p.tables e below (T.setTop g) t) (h : own_Go p e below P T' g') : own_Go p e below P T g := by
  obtain ⟨t, o, st, q⟩ := h
  exact ⟨t, o, k t st, q⟩
theorem own_via (k : Steps p.tables e below (T.setTop g) (T'.setTop g')) (h : own_Go p e below P T' g') : own_Go p e below P T g := own_by (fun _ st => k.trans st) h
theorem own_in (q : g = g') (h : own_Go p e below P T g') : own_Go p e below P T g := q ▸ h
theorem own_out {v : Option Value} {Q : Option Value → Heap → List Loc → Prop} (X : Stand p l e R s m args below meth c T locs cells slots) (hv : meth.sig.returnType = none → v = none) (hlk : meth.locks = false) (hc : cells ≤ R.cells) (hs : slots ≤ R.slots) (q : Q v T.heap locs)
    (k : ∀ fs, (∀ (f : JFrame) (acts : List Action), f.method = m → f.locked = none → f.entered = [] → (doReturn e (T.setTop f) acts v).1 = T.setFrames fs) → Steps p.tables e below (T.setTop g) (T.setFrames fs)) : own_Go p e below (own_P s below R Q) T g := by
  obtain ⟨fs, hr, hrun, hended, hW, hsame⟩ := X.leave (v := v) hv hlk
  exact ⟨_, _, k fs hr, hrun, hended, _, _, rfl, q, ⟨_, rfl⟩, hW, hsame.mono hc hs⟩
theorem own_some {t : FieldType} {w : Value} (h : meth.sig.returnType = some t) : meth.sig.returnType = none → some w = none := fun q => by rw [h] at q; cases q
theorem own_retN {pc : Nat} {Ls : Array Slot} {z : Int32} {t : FieldType} {rest : List Value} {Q : Option Value → Heap → List Loc → Prop} (X : Stand p l e R s m args below meth c T locs cells slots) (hx : p.tables.exec = Jvm.exec) (hret : meth.sig.returnType = some t) (ht : t = .boolean ∨ t = .byte ∨ t = .char ∨ t = .short)
    (hd : decode c.code pc = .ok (.ireturn, 1)) (hlk : meth.locks = false) (hc : cells ≤ R.cells) (hs : slots ≤ R.slots) (q : Q (some (.int (nar t z))) T.heap locs) : own_Go p e below (own_P s below R Q) T (mkF m pc Ls (.int z :: rest)) :=
  own_out X (own_some hret) hlk hc hs q fun _ hr => retN X hx hret ht hd hr
theorem own_retI {pc : Nat} {Ls : Array Slot} {z : Int32} {rest : List Value} {Q : Option Value → Heap → List Loc → Prop} (X : Stand p l e R s m args below meth c T locs cells slots) (hx : p.tables.exec = Jvm.exec) (hret : meth.sig.returnType = some .int)
    (hd : decode c.code pc = .ok (.ireturn, 1)) (hlk : meth.locks = false) (hc : cells ≤ R.cells) (hs : slots ≤ R.slots) (q : Q (some (.int z)) T.heap locs) : own_Go p e below (own_P s below R Q) T (mkF m pc Ls (.int z :: rest)) :=
  own_out X (own_some hret) hlk hc hs q fun _ hr => retOut X hx hret rfl (Or.inl ⟨rfl, Or.inl rfl, _, rfl⟩) hd hr
theorem own_retJ {pc : Nat} {Ls : Array Slot} {z : Int64} {rest : List Value} {Q : Option Value → Heap → List Loc → Prop} (X : Stand p l e R s m args below meth c T locs cells slots) (hx : p.tables.exec = Jvm.exec) (hret : meth.sig.returnType = some .long)
    (hd : decode c.code pc = .ok (.lreturn, 1)) (hlk : meth.locks = false) (hc : cells ≤ R.cells) (hs : slots ≤ R.slots) (q : Q (some (.long z)) T.heap locs) : own_Go p e below (own_P s below R Q) T (mkF m pc Ls (.long z :: rest)) :=
  own_out X (own_some hret) hlk hc hs q fun _ hr => retOut X hx hret rfl (Or.inr (Or.inl ⟨rfl, rfl, _, rfl⟩)) hd hr
theorem own_retR {pc : Nat} {Ls : Array Slot} {w : Value} {t : FieldType} {rest : List Value} {Q : Option Value → Heap → List Loc → Prop} (X : Stand p l e R s m args below meth c T locs cells slots) (hx : p.tables.exec = Jvm.exec) (hret : meth.sig.returnType = some t) (ht : t.isReference = true) (hw : w.isRef = true) (hn : narrow t w = w)
    (hd : decode c.code pc = .ok (.areturn, 1)) (hlk : meth.locks = false) (hc : cells ≤ R.cells) (hs : slots ≤ R.slots) (q : Q (some w) T.heap locs) : own_Go p e below (own_P s below R Q) T (mkF m pc Ls (w :: rest)) :=
  own_out X (own_some hret) hlk hc hs q fun _ hr => retOut X hx hret hn (Or.inr (Or.inr (Or.inr (Or.inr ⟨rfl, ht, hw⟩)))) hd hr
theorem own_ret0 {pc : Nat} {Ls : Array Slot} {Q : Option Value → Heap → List Loc → Prop} (X : Stand p l e R s m args below meth c T locs cells slots) (hx : p.tables.exec = Jvm.exec) (hret : meth.sig.returnType = none)
    (hd : decode c.code pc = .ok (.return_, 1)) (hlk : meth.locks = false) (hc : cells ≤ R.cells) (hs : slots ≤ R.slots) (q : Q none T.heap locs) : own_Go p e below (own_P s below R Q) T (mkF m pc Ls []) :=
  own_out X (fun _ => rfl) hlk hc hs q fun _ hr => X.returnOut hx hret hd hr
theorem own_fitsR {C : String} {v : Value} (h : v.isRef = true) : fits (.object C) v = true := by
  cases v <;> first | rfl | (simp [Value.isRef] at h)
theorem own_tab (xs : List Int32) (d : Int32) (k : Nat) : (xs.map Value.int).getD k (.int d) = .int (xs.getD k d) := by
  simp only [List.getD_eq_getElem?_getD, List.getElem?_map]
  cases xs[k]? <;> rfl
end OwnKit
theorem d2_0 : decode jdk_43_method_3_code 0 = .ok (.iload_n 0, 1) := by decide +kernel
theorem d2_1 : decode jdk_43_method_3_code 1 = .ok (.sipush 255, 3) := by decide +kernel
theorem d2_4 : decode jdk_43_method_3_code 4 = .ok (.if_icmp .gt 7, 3) := by decide +kernel
theorem d2_11 : decode jdk_43_method_3_code 11 = .ok (.iconst 0, 1) := by decide +kernel
theorem d2_7 : decode jdk_43_method_3_code 7 = .ok (.iconst 1, 1) := by decide +kernel
theorem d2_8 : decode jdk_43_method_3_code 8 = .ok (.goto 4, 3) := by decide +kernel
theorem d2_12 : decode jdk_43_method_3_code 12 = .ok (.ireturn, 1) := by decide +kernel
theorem pn_java_lang_StringLatin1 : plainName "java/lang/StringLatin1" = true := by first | (simp [plainName, overriddenIn]; done) | decide +kernel
def own_F2 (p2_0 : Int32) : Int32 := (if (255 : Int32) < p2_0 then (0 : Int32) else (1 : Int32))
theorem own_ef2 (m : MethodId) (x0 : Int32) : entryFrame m #[(.int x0)] 1 = mkF m 0 #[.val (.int x0)] [] := by first | (simp [entryFrame, mkF, argsToLocals, Value.category]; done) | rfl
def own_Q2 (r : Int32) (h0 : Heap) (n0 : Nat) (v : Option Value) (h : Heap) (L : List Loc) : Prop := v = some (.int r) ∧ Fr n0 L ∧ h = h0
set_option maxRecDepth 65536 in
set_option maxHeartbeats 40000000 in
theorem own_rm2 (l : Launch) (Z : State) (a0 : Array Value) (hw : ∀ d ∈ tables_1, d.before a0 Z = true) (ws : List Jvm.Cond) (p2_0 : Int32) (h0 : Heap) (n0 : Nat) (Z0 : n0 ≤ h0.size) :
    MetFree l (⟨"java/lang/StringLatin1", "canEncode", "(C)Z"⟩ : MethodName) (head1 (Jvm.Cond.code (⟨"java/lang/StringLatin1", "canEncode", "(C)Z"⟩ : MethodName) jdk_43_method_3_code 1 (some .boolean) :: ws) ({ frames := 0, cells := 0, slots := 0, locals := 0 } : Room)) (fun a U => a = #[(.int p2_0)] ∧ Z.Warmed39 U.vm ∧ U.heap = h0) (fun _ _ _ _ _ => True) (fun _ U o U' => ∃ v L, o = .returned v ∧ own_Q2 (own_F2 p2_0) h0 n0 v U'.heap L ∧ FrameEnd U o U' L ({ frames := 0, cells := 0, slots := 0, locals := 0 } : Room).cells ({ frames := 0, cells := 0, slots := 0, locals := 0 } : Room).slots) := by
  refine MetFree.of_bodySF (plainFor_of_name pn_java_lang_StringLatin1) hisR ?_
  intro p e s m args below meth c s₁ Bd hml0 hP hK
  obtain ⟨rfl, hZ, hh⟩ := hP
  have hx := Bd.exec
  have hby := Bd.bytes
  have hlk : meth.locks = false := BodyLoose.notSynchronized Bd
  have hml : c.maxLocals = 1 := hml0
  have hown : s.vm.findClass "java/lang/StringLatin1" = some m.cls := findClass_of_methodNamed Bd.named
  have hnm := (name_of_methodNamed Bd.named Bd.method).1
  have X0 : Stand p l e ({ frames := 0, cells := 0, slots := 0, locals := 0 } : Room) s m #[(.int p2_0)] below meth c s₁ [] 0 0 := Stand.of_body Bd
  have e0 : s₁.heap = h0 := by rw [← hh, Bd.state]; rfl
  have N0 := Fr.nil n0
  show own_Go p e below (own_P s below ({ frames := 0, cells := 0, slots := 0, locals := 0 } : Room) (own_Q2 (own_F2 p2_0) h0 n0)) s₁ (entryFrame m #[(.int p2_0)] 1)
  refine own_in (own_ef2 m p2_0) ?_
  refine own_by (T' := s₁) (g' := (mkF m 4 #[.val (.int p2_0)] [(.int (255 : Int32)), (.int p2_0)])) (fun t k => ?_) ?_
  · show Steps p.tables e below (s₁.setTop (mkF m 0 #[.val (.int p2_0)] [])) t
    refine XS.iloadN X0.here hx rfl (hb hby d2_0) rfl ?_
    show Steps p.tables e below (s₁.setTop (mkF m 1 #[.val (.int p2_0)] [(.int p2_0)])) t
    refine XS.sipush X0.here hx rfl (hb hby d2_1) ?_
    show Steps p.tables e below (s₁.setTop (mkF m 4 #[.val (.int p2_0)] [(.int (255 : Int32)), (.int p2_0)])) t
    exact k
  by_cases hc1 : (255 : Int32) < p2_0
  · skip
    refine own_by (T' := s₁) (g' := (mkF m 12 #[.val (.int p2_0)] [(.int (0 : Int32))])) (fun t k => ?_) ?_
    · show Steps p.tables e below (s₁.setTop (mkF m 4 #[.val (.int p2_0)] [(.int (255 : Int32)), (.int p2_0)])) t
      refine XS.icmpYes X0.here hx rfl (pc0 := 4) (pc' := 11) rfl (hb hby d2_4) rfl (tlt hc1).2.2.1 (by decide) (by decide) ?_
      show Steps p.tables e below (s₁.setTop (mkF m 11 #[.val (.int p2_0)] [])) t
      refine XS.iconst X0.here hx rfl (hb hby d2_11) ?_
      show Steps p.tables e below (s₁.setTop (mkF m 12 #[.val (.int p2_0)] [(.int (0 : Int32))])) t
      exact k
    rw [show own_F2 p2_0 = (0 : Int32) from ((if_pos hc1).trans rfl)]
    exact own_retN X0 hx (t := .boolean) Bd.returns (by simp) (hb hby d2_12) hlk (by decide) (by decide) ⟨rfl, N0, e0⟩
  · skip
    refine own_by (T' := s₁) (g' := (mkF m 12 #[.val (.int p2_0)] [(.int (1 : Int32))])) (fun t k => ?_) ?_
    · show Steps p.tables e below (s₁.setTop (mkF m 4 #[.val (.int p2_0)] [(.int (255 : Int32)), (.int p2_0)])) t
      refine XS.icmpNo X0.here hx rfl (hb hby d2_4) rfl (flt hc1).2.2.1 ?_
      show Steps p.tables e below (s₁.setTop (mkF m 7 #[.val (.int p2_0)] [])) t
      refine XS.iconst X0.here hx rfl (hb hby d2_7) ?_
      show Steps p.tables e below (s₁.setTop (mkF m 8 #[.val (.int p2_0)] [(.int (1 : Int32))])) t
      refine XS.goto X0.here hx rfl (pc0 := 8) (pc' := 12) rfl (hb hby d2_8) (by decide) (by decide) ?_
      show Steps p.tables e below (s₁.setTop (mkF m 12 #[.val (.int p2_0)] [(.int (1 : Int32))])) t
      exact k
    rw [show own_F2 p2_0 = (1 : Int32) from ((if_neg hc1).trans rfl)]
    exact own_retN X0 hx (t := .boolean) Bd.returns (by simp) (hb hby d2_12) hlk (by decide) (by decide) ⟨rfl, N0, e0⟩
theorem d3_0 : decode jdk_43_method_46_code 0 = .ok (.iconst 1, 1) := by decide +kernel
theorem d3_1 : decode jdk_43_method_46_code 1 = .ok (.newarray .byte, 2) := by decide +kernel
theorem d3_3 : decode jdk_43_method_46_code 3 = .ok (.dup, 1) := by decide +kernel
theorem d3_4 : decode jdk_43_method_46_code 4 = .ok (.iconst 0, 1) := by decide +kernel
theorem d3_5 : decode jdk_43_method_46_code 5 = .ok (.iload_n 0, 1) := by decide +kernel
theorem d3_6 : decode jdk_43_method_46_code 6 = .ok (.i2b, 1) := by decide +kernel
theorem d3_7 : decode jdk_43_method_46_code 7 = .ok (.bastore, 1) := by decide +kernel
theorem d3_8 : decode jdk_43_method_46_code 8 = .ok (.areturn, 1) := by decide +kernel
theorem own_ef3 (m : MethodId) (x0 : Int32) : entryFrame m #[(.int x0)] 1 = mkF m 0 #[.val (.int x0)] [] := by first | (simp [entryFrame, mkF, argsToLocals, Value.category]; done) | rfl
def own_Q3 (Z : State) (p3_0 : Int32) (h0 : Heap) (n0 : Nat) (v : Option Value) (h : Heap) (L : List Loc) : Prop := ∃ b : Addr, v = some (.ref b) ∧ Fr n0 L ∧ Keep h0 h [] ∧ h0.size ≤ b ∧ n0 ≤ b
set_option maxRecDepth 65536 in
set_option maxHeartbeats 40000000 in
theorem own_rm3 (l : Launch) (Z : State) (a0 : Array Value) (hw : ∀ d ∈ tables_1, d.before a0 Z = true) (ws : List Jvm.Cond) (p3_0 : Int32) (h0 : Heap) (n0 : Nat) (Z0 : n0 ≤ h0.size) :
    MetFree l (⟨"java/lang/StringLatin1", "toBytes", "(C)[B"⟩ : MethodName) (head1 (Jvm.Cond.code (⟨"java/lang/StringLatin1", "toBytes", "(C)[B"⟩ : MethodName) jdk_43_method_46_code 1 (some (.array .byte)) :: ws) ({ frames := 0, cells := 1, slots := 1, locals := 0 } : Room)) (fun a U => a = #[(.int p3_0)] ∧ Z.Warmed39 U.vm ∧ U.heap = h0) (fun _ _ _ _ _ => True) (fun _ U o U' => ∃ v L, o = .returned v ∧ own_Q3 Z p3_0 h0 n0 v U'.heap L ∧ FrameEnd U o U' L ({ frames := 0, cells := 1, slots := 1, locals := 0 } : Room).cells ({ frames := 0, cells := 1, slots := 1, locals := 0 } : Room).slots) := by
  refine MetFree.of_bodySF (plainFor_of_name pn_java_lang_StringLatin1) hisR ?_
  intro p e s m args below meth c s₁ Bd hml0 hP hK
  obtain ⟨rfl, hZ, hh⟩ := hP
  have hx := Bd.exec
  have hby := Bd.bytes
  have hlk : meth.locks = false := BodyLoose.notSynchronized Bd
  have hml : c.maxLocals = 1 := hml0
  have hown : s.vm.findClass "java/lang/StringLatin1" = some m.cls := findClass_of_methodNamed Bd.named
  have hnm := (name_of_methodNamed Bd.named Bd.method).1
  have X0 : Stand p l e ({ frames := 0, cells := 1, slots := 1, locals := 0 } : Room) s m #[(.int p3_0)] below meth c s₁ [] 0 0 := Stand.of_body Bd
  have e0 : s₁.heap = h0 := by rw [← hh, Bd.state]; rfl
  have N0 := Fr.nil n0
  show own_Go p e below (own_P s below ({ frames := 0, cells := 1, slots := 1, locals := 0 } : Room) (own_Q3 Z p3_0 h0 n0)) s₁ (entryFrame m #[(.int p3_0)] 1)
  refine own_in (own_ef3 m p3_0) ?_
  refine own_by (T' := s₁) (g' := (mkF m 1 #[.val (.int p3_0)] [(.int (1 : Int32))])) (fun t k => ?_) ?_
  · show Steps p.tables e below (s₁.setTop (mkF m 0 #[.val (.int p3_0)] [])) t
    refine XS.iconst X0.here hx rfl (hb hby d3_0) ?_
    show Steps p.tables e below (s₁.setTop (mkF m 1 #[.val (.int p3_0)] [(.int (1 : Int32))])) t
    exact k
  obtain ⟨T2, h2, k2, X2, e2, E2, A2, st2⟩ := newP X0 hx hZ (hw _ (List.mem_of_getElem? (i := 14) rfl)) e0 (g := (mkF m 1 #[.val (.int p3_0)] [(.int (1 : Int32))])) rfl (hb hby d3_1) rfl (by decide) (cap := 1) (by decide) (by decide) (by decide) (by decide)
  obtain ⟨b2, g2⟩ : ∃ z, z = h0.size := ⟨_, rfl⟩
  rw [← g2] at A2 st2
  have gn_b2 : n0 ≤ b2 := Nat.le_trans Z0 (Nat.le_of_eq g2.symm)
  have sz_b2 : h0.size ≤ b2 := Nat.le_trans (Keep.refl h0 []).1 (Nat.le_of_eq g2.symm)
  have K3 : Keep h0 h2 [] := (Keep.refl h0 []).ext E2
  have Z4 := Nat.le_trans Z0 E2.1
  have f5 : Arv Z h2 b2 k2 .byte (1 : Int32) [(.int (0 : Int32))] (.int (0 : Int32)) := (Arv.new A2 (by decide)).pad (pad_rep [] (.int (0 : Int32)) 1)
  refine own_by (T' := T2) (g' := (mkF m 3 #[.val (.int p3_0)] [(.ref b2)])) st2 ?_
  refine own_by (T' := T2) (g' := (mkF m 7 #[.val (.int p3_0)] [(.int (p3_0.toInt8.toInt32)), (.int (0 : Int32)), (.ref b2), (.ref b2)])) (fun t k => ?_) ?_
  · show Steps p.tables e below (T2.setTop (mkF m 3 #[.val (.int p3_0)] [(.ref b2)])) t
    refine XS.dup X2.here hx rfl (hb hby d3_3) rfl rfl ?_
    show Steps p.tables e below (T2.setTop (mkF m 4 #[.val (.int p3_0)] [(.ref b2), (.ref b2)])) t
    refine XS.iconst X2.here hx rfl (hb hby d3_4) ?_
    show Steps p.tables e below (T2.setTop (mkF m 5 #[.val (.int p3_0)] [(.int (0 : Int32)), (.ref b2), (.ref b2)])) t
    refine XS.iloadN X2.here hx rfl (hb hby d3_5) rfl ?_
    show Steps p.tables e below (T2.setTop (mkF m 6 #[.val (.int p3_0)] [(.int p3_0), (.int (0 : Int32)), (.ref b2), (.ref b2)])) t
    refine XS.i2b X2.here hx rfl (hb hby d3_6) rfl ?_
    show Steps p.tables e below (T2.setTop (mkF m 7 #[.val (.int p3_0)] [(.int (p3_0.toInt8.toInt32)), (.int (0 : Int32)), (.ref b2), (.ref b2)])) t
    exact k
  obtain ⟨cl6, Ar6, q6, S6, N6, H6, G6⟩ := f5
  obtain ⟨T7, h7, X7, e7, W7, st7⟩ := stB X2 hx hZ e2 Ar6 (j := (0 : Int32)) (inb_of S6 ⟨by decide, by decide⟩) (g := (mkF m 7 #[.val (.int p3_0)] [(.int (p3_0.toInt8.toInt32)), (.int (0 : Int32)), (.ref b2), (.ref b2)])) rfl rfl (hb hby d3_7)
  have f8 : Arv Z h7 b2 k2 .byte (1 : Int32) [(.int (nar .byte (p3_0.toInt8.toInt32)))] (.int (0 : Int32)) := Arv.set Ar6 q6 S6 N6 H6 G6 (fits_nar_byte _) W7 0 rfl (Nat.le_of_ble_eq_true rfl)
  have K10 : Keep h0 h7 [] := K3.wr W7 (Or.inr sz_b2)
  have N11 := Fr.snoc X7 N0 gn_b2
  have Z12 := (Nat.le_trans Z4 (Keep.of_wr W7).1)
  refine own_by (T' := T7) (g' := (mkF m 8 #[.val (.int p3_0)] [(.ref b2)])) st7 ?_
  exact own_retR X7 hx Bd.returns rfl rfl rfl (hb hby d3_8) hlk (by decide) (by decide) (by rw [e7]; exact ⟨b2, rfl, N11, K10, sz_b2, gn_b2⟩)
theorem d4_0 : decode jdk_42_method_151_code 0 = .ok (.aload_n 0, 1) := by decide +kernel
theorem d4_1 : decode jdk_42_method_151_code 1 = .ok (.invokespecial 1, 3) := by decide +kernel
theorem d4_4 : decode jdk_42_method_151_code 4 = .ok (.aload_n 0, 1) := by decide +kernel
theorem d4_5 : decode jdk_42_method_151_code 5 = .ok (.aload_n 1, 1) := by decide +kernel
theorem d4_6 : decode jdk_42_method_151_code 6 = .ok (.putfield 9, 3) := by decide +kernel
theorem d4_9 : decode jdk_42_method_151_code 9 = .ok (.aload_n 0, 1) := by decide +kernel
theorem d4_10 : decode jdk_42_method_151_code 10 = .ok (.iload_n 2, 1) := by decide +kernel
theorem d4_11 : decode jdk_42_method_151_code 11 = .ok (.putfield 15, 3) := by decide +kernel
theorem d4_14 : decode jdk_42_method_151_code 14 = .ok (.return_, 1) := by decide +kernel
theorem pn_java_lang_String : plainName "java/lang/String" = true := by first | (simp [plainName, overriddenIn]; done) | decide +kernel
theorem own_ef4 (m : MethodId) (x0 : Addr) (x1 : Addr) (x2 : Int32) : entryFrame m #[(.ref x0), (.ref x1), (.int x2)] 3 = mkF m 0 #[.val (.ref x0), .val (.ref x1), .val (.int x2)] [] := by first | (simp [entryFrame, mkF, argsToLocals, Value.category]; done) | rfl
def own_Q4 (Z : State) (a4_0 : Addr) (a4_1 : Addr) (p4_2 : Int32) (u_value_a4_0 : Value) (u_coder_a4_0 : Value) (h0 : Heap) (n0 : Nat) (v : Option Value) (h : Heap) (L : List Loc) : Prop := v = none ∧ Fr n0 L ∧ Keep h0 h [a4_0] ∧ Exa Z h a4_0 "java/lang/String" ∧ Fld Z h a4_0 "java/lang/String" "value" "[B" (.ref a4_1) ∧ Fld Z h a4_0 "java/lang/String" "coder" "B" (.int (nar .byte p4_2))
set_option maxRecDepth 65536 in
set_option maxHeartbeats 40000000 in
theorem own_rm4 (l : Launch) (Z : State) (a0 : Array Value) (hw : ∀ d ∈ tables_1, d.before a0 Z = true) (ws : List Jvm.Cond) (a4_0 : Addr) (a4_1 : Addr) (p4_2 : Int32) (u_value_a4_0 : Value) (u_coder_a4_0 : Value) (h0 : Heap) (n0 : Nat) (Z0 : n0 ≤ h0.size) (E_a4_0 : Exa Z h0 a4_0 "java/lang/String") (F_value_a4_0 : Fld Z h0 a4_0 "java/lang/String" "value" "[B" u_value_a4_0) (ge_a4_0 : n0 ≤ a4_0) (F_coder_a4_0 : Fld Z h0 a4_0 "java/lang/String" "coder" "B" u_coder_a4_0) :
    MetFree l (⟨"java/lang/String", "<init>", "([BB)V"⟩ : MethodName) (head1 (Jvm.Cond.code (⟨"java/lang/String", "<init>", "([BB)V"⟩ : MethodName) jdk_42_method_151_code 3 none :: ws) ({ frames := 1, cells := 0, slots := 0, locals := 12 } : Room)) (fun a U => a = #[(.ref a4_0), (.ref a4_1), (.int p4_2)] ∧ Z.Warmed39 U.vm ∧ U.heap = h0) (fun _ _ _ _ _ => True) (fun _ U o U' => ∃ v L, o = .returned v ∧ own_Q4 Z a4_0 a4_1 p4_2 u_value_a4_0 u_coder_a4_0 h0 n0 v U'.heap L ∧ FrameEnd U o U' L ({ frames := 1, cells := 0, slots := 0, locals := 12 } : Room).cells ({ frames := 1, cells := 0, slots := 0, locals := 12 } : Room).slots) := by
  refine MetFree.of_bodySF (plainFor_of_name pn_java_lang_String) hisR ?_
  intro p e s m args below meth c s₁ Bd hml0 hP hK
  obtain ⟨rfl, hZ, hh⟩ := hP
  have hx := Bd.exec
  have hby := Bd.bytes
  have hlk : meth.locks = false := BodyLoose.notSynchronized Bd
  have hml : c.maxLocals = 3 := hml0
  have hown : s.vm.findClass "java/lang/String" = some m.cls := findClass_of_methodNamed Bd.named
  have hnm := (name_of_methodNamed Bd.named Bd.method).1
  have X0 : Stand p l e ({ frames := 1, cells := 0, slots := 0, locals := 12 } : Room) s m #[(.ref a4_0), (.ref a4_1), (.int p4_2)] below meth c s₁ [] 0 0 := Stand.of_body Bd
  have e0 : s₁.heap = h0 := by rw [← hh, Bd.state]; rfl
  have N0 := Fr.nil n0
  show own_Go p e below (own_P s below ({ frames := 1, cells := 0, slots := 0, locals := 12 } : Room) (own_Q4 Z a4_0 a4_1 p4_2 u_value_a4_0 u_coder_a4_0 h0 n0)) s₁ (entryFrame m #[(.ref a4_0), (.ref a4_1), (.int p4_2)] 3)
  refine own_in (own_ef4 m a4_0 a4_1 p4_2) ?_
  refine own_by (T' := s₁) (g' := (mkF m 1 #[.val (.ref a4_0), .val (.ref a4_1), .val (.int p4_2)] [(.ref a4_0)])) (fun t k => ?_) ?_
  · show Steps p.tables e below (s₁.setTop (mkF m 0 #[.val (.ref a4_0), .val (.ref a4_1), .val (.int p4_2)] [])) t
    refine XS.aloadN X0.here hx rfl (hb hby d4_0) rfl rfl ?_
    show Steps p.tables e below (s₁.setTop (mkF m 1 #[.val (.ref a4_0), .val (.ref a4_1), .val (.int p4_2)] [(.ref a4_0)])) t
    exact k
  obtain ⟨T13, X13, e13, st13⟩ := initO X0 hx hZ hown (hw _ (List.mem_of_getElem? (i := 19) rfl)) (hw _ (List.mem_of_getElem? (i := 20) rfl)) (hw _ (List.mem_of_getElem? (i := 21) rfl)) e0 (g := (mkF m 1 #[.val (.ref a4_0), .val (.ref a4_1), .val (.int p4_2)] [(.ref a4_0)])) rfl (by rw [hml]; rfl) rfl (hb hby d4_1) (by decide) (W := 0) (by show 2 * 0 + _ ≤ _; exact Nat.le_of_eq rfl) (by decide)
  refine own_by (T' := T13) (g' := (mkF m 4 #[.val (.ref a4_0), .val (.ref a4_1), .val (.int p4_2)] [])) st13 ?_
  refine own_by (T' := T13) (g' := (mkF m 6 #[.val (.ref a4_0), .val (.ref a4_1), .val (.int p4_2)] [(.ref a4_1), (.ref a4_0)])) (fun t k => ?_) ?_
  · show Steps p.tables e below (T13.setTop (mkF m 4 #[.val (.ref a4_0), .val (.ref a4_1), .val (.int p4_2)] [])) t
    refine XS.aloadN X13.here hx rfl (hb hby d4_4) rfl rfl ?_
    show Steps p.tables e below (T13.setTop (mkF m 5 #[.val (.ref a4_0), .val (.ref a4_1), .val (.int p4_2)] [(.ref a4_0)])) t
    refine XS.aloadN X13.here hx rfl (hb hby d4_5) rfl rfl ?_
    show Steps p.tables e below (T13.setTop (mkF m 6 #[.val (.ref a4_0), .val (.ref a4_1), .val (.int p4_2)] [(.ref a4_1), (.ref a4_0)])) t
    exact k
  obtain ⟨T14, h14, X14, e14, W14, st14⟩ := putF X13 hx hZ hown (host := "") (Or.inl (hw _ (List.mem_of_getElem? (i := 22) rfl))) Via.refl e13 F_value_a4_0 E_a4_0 (Or.inr ⟨(hw _ (List.mem_of_getElem? (i := 23) rfl)), rfl, hnm⟩) (hw _ (List.mem_of_getElem? (i := 10) rfl)) (ty := (.array .byte)) (by decide) rfl rfl (g := (mkF m 6 #[.val (.ref a4_0), .val (.ref a4_1), .val (.int p4_2)] [(.ref a4_1), (.ref a4_0)])) rfl rfl (hb hby d4_6)
  have f15 := F_value_a4_0.same W14
  have f16 := E_a4_0.wr W14
  have f18 := F_coder_a4_0.other W14 (Or.inr (slot_ne (Or.inr (hw _ (List.mem_of_getElem? (i := 25) rfl))) (Or.inr (hw _ (List.mem_of_getElem? (i := 23) rfl))) (by decide) (t := .byte) (t' := (.array .byte)) (by decide) (by decide)))
  have K19 : Keep h0 h14 [a4_0] := (Keep.refl h0 [a4_0]).wr W14 (Or.inl (List.mem_of_getElem? (i := 0) rfl))
  have N20 := Fr.snoc X14 N0 ge_a4_0
  have Z21 := (Nat.le_trans Z0 (Keep.of_wr W14).1)
  refine own_by (T' := T14) (g' := (mkF m 9 #[.val (.ref a4_0), .val (.ref a4_1), .val (.int p4_2)] [])) st14 ?_
  refine own_by (T' := T14) (g' := (mkF m 11 #[.val (.ref a4_0), .val (.ref a4_1), .val (.int p4_2)] [(.int p4_2), (.ref a4_0)])) (fun t k => ?_) ?_
  · show Steps p.tables e below (T14.setTop (mkF m 9 #[.val (.ref a4_0), .val (.ref a4_1), .val (.int p4_2)] [])) t
    refine XS.aloadN X14.here hx rfl (hb hby d4_9) rfl rfl ?_
    show Steps p.tables e below (T14.setTop (mkF m 10 #[.val (.ref a4_0), .val (.ref a4_1), .val (.int p4_2)] [(.ref a4_0)])) t
    refine XS.iloadN X14.here hx rfl (hb hby d4_10) rfl ?_
    show Steps p.tables e below (T14.setTop (mkF m 11 #[.val (.ref a4_0), .val (.ref a4_1), .val (.int p4_2)] [(.int p4_2), (.ref a4_0)])) t
    exact k
  obtain ⟨T22, h22, X22, e22, W22, st22⟩ := putFN X14 hx hZ hown (hw _ (List.mem_of_getElem? (i := 24) rfl)) Via.refl e14 f18 f16 (Or.inr ⟨(hw _ (List.mem_of_getElem? (i := 25) rfl)), rfl, hnm⟩) (hw _ (List.mem_of_getElem? (i := 10) rfl)) (ty := .byte) (v' := (.int (nar .byte p4_2))) (by decide) rfl (fits_nar_byte _) (g := (mkF m 11 #[.val (.ref a4_0), .val (.ref a4_1), .val (.int p4_2)] [(.int p4_2), (.ref a4_0)])) rfl rfl (hb hby d4_11)
  have f23 := f18.same W22
  have f24 := f16.wr W22
  have f25 := f15.other W22 (Or.inr (slot_ne (Or.inr (hw _ (List.mem_of_getElem? (i := 23) rfl))) (Or.inr (hw _ (List.mem_of_getElem? (i := 25) rfl))) (by decide) (t := (.array .byte)) (t' := .byte) (by decide) (by decide)))
  have K27 : Keep h0 h22 [a4_0] := K19.wr W22 (Or.inl (List.mem_of_getElem? (i := 0) rfl))
  have N28 := Fr.snoc X22 N20 ge_a4_0
  have Z29 := (Nat.le_trans Z21 (Keep.of_wr W22).1)
  refine own_by (T' := T22) (g' := (mkF m 14 #[.val (.ref a4_0), .val (.ref a4_1), .val (.int p4_2)] [])) st22 ?_
  exact own_ret0 X22 hx Bd.returns (hb hby d4_14) hlk (by decide) (by decide) (by rw [e22]; exact ⟨rfl, N28, K27, f24, f25, f23⟩)
theorem d1_0 : decode jdk_42_method_139_code 0 = .ok (.getstatic 38, 3) := by decide +kernel
theorem d1_3 : decode jdk_42_method_139_code 3 = .ok (.ifCond .eq 23, 3) := by decide +kernel
theorem d1_6 : decode jdk_42_method_139_code 6 = .ok (.iload_n 0, 1) := by decide +kernel
theorem d1_7 : decode jdk_42_method_139_code 7 = .ok (.invokestatic 1015, 3) := by decide +kernel
theorem pd__C_Z : parseMethodDescriptor "(C)Z" = some ⟨[.char], some .boolean⟩ := by decide +kernel
theorem d1_10 : decode jdk_42_method_139_code 10 = .ok (.ifCond .eq 16, 3) := by decide +kernel
theorem d1_13 : decode jdk_42_method_139_code 13 = .ok (.new 10, 3) := by decide +kernel
theorem d1_16 : decode jdk_42_method_139_code 16 = .ok (.dup, 1) := by decide +kernel
theorem d1_17 : decode jdk_42_method_139_code 17 = .ok (.iload_n 0, 1) := by decide +kernel
theorem d1_18 : decode jdk_42_method_139_code 18 = .ok (.invokestatic 1018, 3) := by decide +kernel
theorem pd__C__B : parseMethodDescriptor "(C)[B" = some ⟨[.char], some (.array .byte)⟩ := by decide +kernel
theorem d1_21 : decode jdk_42_method_139_code 21 = .ok (.iconst 0, 1) := by decide +kernel
theorem d1_22 : decode jdk_42_method_139_code 22 = .ok (.invokespecial 209, 3) := by decide +kernel
theorem pd___BB_V : parseMethodDescriptor "([BB)V" = some ⟨[(.array .byte), .byte], none⟩ := by decide +kernel
theorem d1_25 : decode jdk_42_method_139_code 25 = .ok (.areturn, 1) := by decide +kernel
theorem own_ef1 (m : MethodId) (x0 : Int32) : entryFrame m #[(.int x0)] 1 = mkF m 0 #[.val (.int x0)] [] := by first | (simp [entryFrame, mkF, argsToLocals, Value.category]; done) | rfl
def own_Q1 (Z : State) (p1_0 : Int32) (cs : Int32) (h0 : Heap) (n0 : Nat) (v : Option Value) (h : Heap) (L : List Loc) : Prop := ∃ b : Addr, v = some (.ref b) ∧ Fr n0 L ∧ Keep h0 h [] ∧ h0.size ≤ b ∧ n0 ≤ b ∧ Exa Z h b "java/lang/String" ∧ Fld Z h b "java/lang/String" "coder" "B" (.int (nar .byte (0 : Int32)))
set_option maxRecDepth 65536 in
set_option maxHeartbeats 40000000 in
theorem own_rm1 (l : Launch) (Z : State) (a0 : Array Value) (hw : ∀ d ∈ tables_1, d.before a0 Z = true) (ws : List Jvm.Cond) (p1_0 : Int32) (cs : Int32) (h0 : Heap) (n0 : Nat) (Z0 : n0 ≤ h0.size) (O0 : Old Z n0 h0) (HC : ¬ ((own_F2 p1_0) = (0 : Int32))) (SC : Sta Z Z.heap "java/lang/String" "COMPACT_STRINGS" "Z" (.int cs)) (HCS : ¬ (cs = (0 : Int32))) :
    MetFree l (⟨"java/lang/String", "valueOf", "(C)Ljava/lang/String;"⟩ : MethodName) (head1 (Jvm.Cond.code (⟨"java/lang/String", "valueOf", "(C)Ljava/lang/String;"⟩ : MethodName) jdk_42_method_139_code 1 (some (.object "java/lang/String")) :: ws) ({ frames := 2, cells := 2, slots := 5, locals := 27 } : Room)) (fun a U => a = #[(.int p1_0)] ∧ Z.Warmed39 U.vm ∧ U.heap = h0) (fun _ _ _ _ _ => True) (fun _ U o U' => ∃ v L, o = .returned v ∧ own_Q1 Z p1_0 cs h0 n0 v U'.heap L ∧ FrameEnd U o U' L ({ frames := 2, cells := 2, slots := 5, locals := 27 } : Room).cells ({ frames := 2, cells := 2, slots := 5, locals := 27 } : Room).slots) := by
  refine MetFree.of_bodySF (plainFor_of_name pn_java_lang_String) hisR ?_
  intro p e s m args below meth c s₁ Bd hml0 hP hK
  obtain ⟨rfl, hZ, hh⟩ := hP
  have hx := Bd.exec
  have hby := Bd.bytes
  have hlk : meth.locks = false := BodyLoose.notSynchronized Bd
  have hml : c.maxLocals = 1 := hml0
  have hown : s.vm.findClass "java/lang/String" = some m.cls := findClass_of_methodNamed Bd.named
  have hnm := (name_of_methodNamed Bd.named Bd.method).1
  have X0 : Stand p l e ({ frames := 2, cells := 2, slots := 5, locals := 27 } : Room) s m #[(.int p1_0)] below meth c s₁ [] 0 0 := Stand.of_body Bd
  have e0 : s₁.heap = h0 := by rw [← hh, Bd.state]; rfl
  have N0 := Fr.nil n0
  show own_Go p e below (own_P s below ({ frames := 2, cells := 2, slots := 5, locals := 27 } : Room) (own_Q1 Z p1_0 cs h0 n0)) s₁ (entryFrame m #[(.int p1_0)] 1)
  refine own_in (own_ef1 m p1_0) ?_
  obtain ⟨T30, X30, e30, st30⟩ := getS2 X0 hx hZ hown (host := "") (Or.inl (hw _ (List.mem_of_getElem? (i := 4) rfl))) Via.refl e0 (SC.ext O0.2) (g := (mkF m 0 #[.val (.int p1_0)] [])) rfl (hb hby d1_0)
  refine own_by (T' := T30) (g' := (mkF m 3 #[.val (.int p1_0)] [(.int cs)])) st30 ?_
  refine own_by (T' := T30) (g' := (mkF m 7 #[.val (.int p1_0)] [(.int p1_0)])) (fun t k => ?_) ?_
  · show Steps p.tables e below (T30.setTop (mkF m 3 #[.val (.int p1_0)] [(.int cs)])) t
    refine XS.ifNo X30.here hx rfl (hb hby d1_3) rfl ((if0 _ _).trans (feq HCS).1) ?_
    show Steps p.tables e below (T30.setTop (mkF m 6 #[.val (.int p1_0)] [])) t
    refine XS.iloadN X30.here hx rfl (hb hby d1_6) rfl ?_
    show Steps p.tables e below (T30.setTop (mkF m 7 #[.val (.int p1_0)] [(.int p1_0)])) t
    exact k
  obtain ⟨v31, _, ⟨T31, L31, k31, n31⟩, -, X31, ⟨Lc31, hQ31, l31, y31, z31⟩, st31⟩ := Jvm.LawKit.callS X30 hx (y := (⟨"java/lang/StringLatin1", "canEncode", "(C)Z"⟩ : MethodName)) hown (mvT hZ (hw _ (List.mem_of_getElem? (i := 5) rfl))) (mvT hZ (hw _ (List.mem_of_getElem? (i := 6) rfl))) (mvT hZ (hw _ (List.mem_of_getElem? (i := 7) rfl))) (mvT hZ (hw _ (List.mem_of_getElem? (i := 8) rfl))) (by decide) (backOf (W := 0) (own_rm2 l Z a0 hw [] p1_0 h0 n0 Z0) hZ (hw _ (List.mem_of_getElem? (i := 8) rfl)) (hw _ (List.mem_of_getElem? (i := 7) rfl)) (by decide) (by decide)) (g := (mkF m 7 #[.val (.int p1_0)] [(.int p1_0)])) rfl (by rw [hml]; rfl) (argsL := [(.int p1_0)]) (rest := []) (lenOf pd__C_Z rfl) rfl (by show 2 * 0 + _ ≤ _; exact Nat.le_of_eq rfl) (hb hby d1_7) (fun _ _ => ⟨rfl, e30, (by decide : 0 + 0 ≤ _), (by decide : 0 + 0 ≤ _)⟩)
  dsimp only [Pt.U, Pt.locs, Pt.cells, Pt.slots] at X31 l31 y31 z31 st31 hQ31
  subst l31 y31 z31
  obtain ⟨rfl, M31, e31⟩ := hQ31
  have N32 := Fr.app N0 M31
  refine own_by (T' := T31) (g' := (mkF m 10 #[.val (.int p1_0)] [(.int (own_F2 p1_0))])) st31 ?_
  refine own_by (T' := T31) (g' := (mkF m 13 #[.val (.int p1_0)] [])) (fun t k => ?_) ?_
  · show Steps p.tables e below (T31.setTop (mkF m 10 #[.val (.int p1_0)] [(.int (own_F2 p1_0))])) t
    refine XS.ifNo X31.here hx rfl (hb hby d1_10) rfl ((if0 _ _).trans (feq HC).1) ?_
    show Steps p.tables e below (T31.setTop (mkF m 13 #[.val (.int p1_0)] [])) t
    exact k
  obtain ⟨T33, h33, X33, e33, E33, A33, D33, -, st33⟩ := newO X31 hx hZ hown (hw _ (List.mem_of_getElem? (i := 9) rfl)) (hw _ (List.mem_of_getElem? (i := 10) rfl)) (hw _ (List.mem_of_getElem? (i := 2) rfl)) e31 (g := (mkF m 13 #[.val (.int p1_0)] [])) rfl (hb hby d1_13) (by decide) (by decide)
  obtain ⟨b33, g33⟩ : ∃ z, z = h0.size := ⟨_, rfl⟩
  rw [← g33] at A33 D33 st33
  have gn_b33 : n0 ≤ b33 := Nat.le_trans Z0 (Nat.le_of_eq g33.symm)
  have sz_b33 : h0.size ≤ b33 := Nat.le_trans (Keep.refl h0 []).1 (Nat.le_of_eq g33.symm)
  have K34 : Keep h0 h33 [] := (Keep.refl h0 []).ext E33
  have O35 := O0.ext E33
  have Z36 := Nat.le_trans Z0 E33.1
  have f37 : Fld Z h33 b33 "java/lang/String" "value" "[B" .null := D33 (Or.inr (hw _ (List.mem_of_getElem? (i := 23) rfl))) (ty := (.array .byte)) (by decide)
  have f38 : Fld Z h33 b33 "java/lang/String" "coder" "B" (.int (0 : Int32)) := D33 (Or.inr (hw _ (List.mem_of_getElem? (i := 25) rfl))) (ty := .byte) (by decide)
  refine own_by (T' := T33) (g' := (mkF m 16 #[.val (.int p1_0)] [(.ref b33)])) st33 ?_
  refine own_by (T' := T33) (g' := (mkF m 18 #[.val (.int p1_0)] [(.int p1_0), (.ref b33), (.ref b33)])) (fun t k => ?_) ?_
  · show Steps p.tables e below (T33.setTop (mkF m 16 #[.val (.int p1_0)] [(.ref b33)])) t
    refine XS.dup X33.here hx rfl (hb hby d1_16) rfl rfl ?_
    show Steps p.tables e below (T33.setTop (mkF m 17 #[.val (.int p1_0)] [(.ref b33), (.ref b33)])) t
    refine XS.iloadN X33.here hx rfl (hb hby d1_17) rfl ?_
    show Steps p.tables e below (T33.setTop (mkF m 18 #[.val (.int p1_0)] [(.int p1_0), (.ref b33), (.ref b33)])) t
    exact k
  obtain ⟨v39, _, ⟨T39, L39, k39, n39⟩, -, X39, ⟨Lc39, hQ39, l39, y39, z39⟩, st39⟩ := Jvm.LawKit.callS X33 hx (y := (⟨"java/lang/StringLatin1", "toBytes", "(C)[B"⟩ : MethodName)) hown (mvT hZ (hw _ (List.mem_of_getElem? (i := 11) rfl))) (mvT hZ (hw _ (List.mem_of_getElem? (i := 12) rfl))) (mvT hZ (hw _ (List.mem_of_getElem? (i := 7) rfl))) (mvT hZ (hw _ (List.mem_of_getElem? (i := 13) rfl))) (by decide) (backOf (W := 2) (own_rm3 l Z a0 hw [] p1_0 h33 n0 Z36) hZ (hw _ (List.mem_of_getElem? (i := 13) rfl)) (hw _ (List.mem_of_getElem? (i := 7) rfl)) (by decide) (by decide)) (g := (mkF m 18 #[.val (.int p1_0)] [(.int p1_0), (.ref b33), (.ref b33)])) rfl (by rw [hml]; rfl) (argsL := [(.int p1_0)]) (rest := [(.ref b33), (.ref b33)]) (lenOf pd__C__B rfl) rfl (by show 2 * 0 + _ ≤ _; exact Nat.le_of_eq rfl) (hb hby d1_18) (fun _ _ => ⟨rfl, e33, (by decide : 1 + 1 ≤ _), (by decide : 4 + 1 ≤ _)⟩)
  dsimp only [Pt.U, Pt.locs, Pt.cells, Pt.slots] at X39 l39 y39 z39 st39 hQ39
  subst l39 y39 z39
  obtain ⟨b39, rfl, M39, K39, sz39, gn39⟩ := hQ39
  have f40 := A33.keep K39
  have f41 := f37.keep K39 nin0
  have f42 := f38.keep K39 nin0
  have K43 : Keep h0 T39.heap [] := K34.trans K39 all0
  have O44 := O35.keep K39 all0
  have Z45 := Nat.le_trans Z36 K39.1
  have sz_b39 : h0.size ≤ b39 := Nat.le_trans K34.1 sz39
  have ne_b33_b39 : b33 ≠ b39 := Nat.ne_of_lt (Nat.lt_of_lt_of_le f38.lt sz39)
  have N46 := Fr.app N32 M39
  refine own_by (T' := T39) (g' := (mkF m 21 #[.val (.int p1_0)] [(.ref b39), (.ref b33), (.ref b33)])) st39 ?_
  refine own_by (T' := T39) (g' := (mkF m 22 #[.val (.int p1_0)] [(.int (0 : Int32)), (.ref b39), (.ref b33), (.ref b33)])) (fun t k => ?_) ?_
  · show Steps p.tables e below (T39.setTop (mkF m 21 #[.val (.int p1_0)] [(.ref b39), (.ref b33), (.ref b33)])) t
    refine XS.iconst X39.here hx rfl (hb hby d1_21) ?_
    show Steps p.tables e below (T39.setTop (mkF m 22 #[.val (.int p1_0)] [(.int (0 : Int32)), (.ref b39), (.ref b33), (.ref b33)])) t
    exact k
  obtain ⟨v47, _, ⟨T47, L47, k47, n47⟩, -, X47, ⟨Lc47, hQ47, l47, y47, z47⟩, st47⟩ := X39.specialBack hx (y := (⟨"java/lang/String", "<init>", "([BB)V"⟩ : MethodName)) rfl hown (mvT hZ (hw _ (List.mem_of_getElem? (i := 15) rfl))) (mvT hZ (hw _ (List.mem_of_getElem? (i := 16) rfl))) (mvT hZ (hw _ (List.mem_of_getElem? (i := 18) rfl))) (by decide) (backOf (W := 1) (own_rm4 l Z a0 hw [] b33 b39 (0 : Int32) .null (.int (0 : Int32)) T39.heap n0 Z45 f40 f41 gn_b33 f42) hZ (hw _ (List.mem_of_getElem? (i := 18) rfl)) (hw _ (List.mem_of_getElem? (i := 2) rfl)) (by decide) (by decide)) (g := (mkF m 22 #[.val (.int p1_0)] [(.int (0 : Int32)), (.ref b39), (.ref b33), (.ref b33)])) rfl (by rw [hml]; rfl) (Steps.refl _) (a := b33) (argsL := [(.ref b39), (.int (0 : Int32))]) (rest := [(.ref b33)]) (lenOf pd___BB_V rfl) rfl (by show 2 * 0 + _ ≤ _; exact Nat.le_of_eq rfl) (hb hby d1_22) (fun _ _ => ⟨rfl, rfl, (by decide : 2 + 0 ≤ _), (by decide : 5 + 0 ≤ _)⟩)
  dsimp only [Pt.U, Pt.locs, Pt.cells, Pt.slots] at X47 l47 y47 z47 st47 hQ47
  subst l47 y47 z47
  obtain ⟨rfl, M47, K47, f48, f49, f50⟩ := hQ47
  have f51 := f40.keep K47
  have K52 : Keep h0 T47.heap [] := K43.trans K47 (allS (Or.inr sz_b33) all0)
  have O53 := O44.keep K47 (allS gn_b33 all0)
  have Z54 := Nat.le_trans Z45 K47.1
  have N55 := Fr.app N46 M47
  refine own_via (T' := T47) (g' := (mkF m 25 #[.val (.int p1_0)] [(.ref b33)])) st47 ?_
  exact own_retR X47 hx Bd.returns rfl rfl rfl (hb hby d1_25) hlk (by decide) (by decide) ⟨b33, rfl, N55, K52, sz_b33, gn_b33, f48, f50⟩
theorem own_and_le (x m : Int32) (k : Nat) (hm : m.toBitVec.toNat = k) (hk : k < 2147483648) : 0 ≤ (x &&& m).toInt ∧ (x &&& m).toInt ≤ k := by
  have h1 : (x &&& m).toBitVec.toNat ≤ k := by
    rw [Int32.toBitVec_and, BitVec.toNat_and, hm]; exact Nat.and_le_right
  have h2 : (x &&& m).toInt = ((x &&& m).toBitVec.toNat : Int) := BitVec.toInt_eq_toNat_of_lt (by omega)
  omega
/-- i2c of a value that is a char already -/
theorem own_i2c (x : Int32) (h0 : 0 ≤ x.toInt) (h1 : x.toInt < 65536) : x.toUInt32.toUInt16.toUInt32.toInt32 = x := by
  have e : x.toInt = (x.toBitVec.toNat : Int) := by
    have := x.toBitVec.isLt
    have q : x.toInt = x.toBitVec.toInt := rfl
    rw [q, BitVec.toInt_eq_toNat_cond] at h0 h1 ⊢
    split at h0 <;> omega
  apply Int32.toBitVec_inj.mp
  apply BitVec.eq_of_toNat_eq
  show ((x.toBitVec.setWidth 16).setWidth 32).toNat = x.toBitVec.toNat
  rw [BitVec.toNat_setWidth, BitVec.toNat_setWidth]
  have : x.toBitVec.toNat < 65536 := by omega
  omega
theorem own_enc (x : Int32) : ¬ ((own_F2 ((x &&& (255 : Int32)).toUInt32.toUInt16.toUInt32.toInt32)) = (0 : Int32)) := by
  have h := own_and_le x 255 255 (by decide) (by decide)
  rw [own_i2c _ h.1 (by omega)]
  unfold own_F2
  rw [if_neg (by rw [Int32.lt_iff_toInt_lt, show (255 : Int32).toInt = 255 from by decide]; omega)]
  decide

theorem d7_0 : decode jdk_30_method_1_code 0 = .ok (.aload_n 0, 1) := by decide +kernel
theorem d7_1 : decode jdk_30_method_1_code 1 = .ok (.invokespecial 1, 3) := by decide +kernel
theorem d7_4 : decode jdk_30_method_1_code 4 = .ok (.return_, 1) := by decide +kernel
theorem pn_java_lang_Record : plainName "java/lang/Record" = true := by first | (simp [plainName, overriddenIn]; done) | decide +kernel
theorem own_ef7 (m : MethodId) (x0 : Addr) : entryFrame m #[(.ref x0)] 1 = mkF m 0 #[.val (.ref x0)] [] := by first | (simp [entryFrame, mkF, argsToLocals, Value.category]; done) | rfl
def own_Q7 (Z : State) (a7_0 : Addr) (h0 : Heap) (n0 : Nat) (v : Option Value) (h : Heap) (L : List Loc) : Prop := v = none ∧ Fr n0 L ∧ Keep h0 h []
set_option maxRecDepth 65536 in
set_option maxHeartbeats 40000000 in
theorem own_rm7 (l : Launch) (Z : State) (a0 : Array Value) (hw : ∀ d ∈ tables_1, d.before a0 Z = true) (ws : List Jvm.Cond) (a7_0 : Addr) (h0 : Heap) (n0 : Nat) (Z0 : n0 ≤ h0.size) :
    MetFree l (⟨"java/lang/Record", "<init>", "()V"⟩ : MethodName) (head1 (Jvm.Cond.code (⟨"java/lang/Record", "<init>", "()V"⟩ : MethodName) jdk_30_method_1_code 1 none :: ws) ({ frames := 1, cells := 0, slots := 0, locals := 12 } : Room)) (fun a U => a = #[(.ref a7_0)] ∧ Z.Warmed39 U.vm ∧ U.heap = h0) (fun _ _ _ _ _ => True) (fun _ U o U' => ∃ v L, o = .returned v ∧ own_Q7 Z a7_0 h0 n0 v U'.heap L ∧ FrameEnd U o U' L ({ frames := 1, cells := 0, slots := 0, locals := 12 } : Room).cells ({ frames := 1, cells := 0, slots := 0, locals := 12 } : Room).slots) := by
  refine MetFree.of_bodySF (plainFor_of_name pn_java_lang_Record) hisR ?_
  intro p e s m args below meth c s₁ Bd hml0 hP hK
  obtain ⟨rfl, hZ, hh⟩ := hP
  have hx := Bd.exec
  have hby := Bd.bytes
  have hlk : meth.locks = false := BodyLoose.notSynchronized Bd
  have hml : c.maxLocals = 1 := hml0
  have hown : s.vm.findClass "java/lang/Record" = some m.cls := findClass_of_methodNamed Bd.named
  have hnm := (name_of_methodNamed Bd.named Bd.method).1
  have X0 : Stand p l e ({ frames := 1, cells := 0, slots := 0, locals := 12 } : Room) s m #[(.ref a7_0)] below meth c s₁ [] 0 0 := Stand.of_body Bd
  have e0 : s₁.heap = h0 := by rw [← hh, Bd.state]; rfl
  have N0 := Fr.nil n0
  show own_Go p e below (own_P s below ({ frames := 1, cells := 0, slots := 0, locals := 12 } : Room) (own_Q7 Z a7_0 h0 n0)) s₁ (entryFrame m #[(.ref a7_0)] 1)
  refine own_in (own_ef7 m a7_0) ?_
  refine own_by (T' := s₁) (g' := (mkF m 1 #[.val (.ref a7_0)] [(.ref a7_0)])) (fun t k => ?_) ?_
  · show Steps p.tables e below (s₁.setTop (mkF m 0 #[.val (.ref a7_0)] [])) t
    refine XS.aloadN X0.here hx rfl (hb hby d7_0) rfl rfl ?_
    show Steps p.tables e below (s₁.setTop (mkF m 1 #[.val (.ref a7_0)] [(.ref a7_0)])) t
    exact k
  obtain ⟨T56, X56, e56, st56⟩ := initO X0 hx hZ hown (hw _ (List.mem_of_getElem? (i := 38) rfl)) (hw _ (List.mem_of_getElem? (i := 20) rfl)) (hw _ (List.mem_of_getElem? (i := 21) rfl)) e0 (g := (mkF m 1 #[.val (.ref a7_0)] [(.ref a7_0)])) rfl (by rw [hml]; rfl) rfl (hb hby d7_1) (by decide) (W := 0) (by show 2 * 0 + _ ≤ _; exact Nat.le_of_eq rfl) (by decide)
  refine own_by (T' := T56) (g' := (mkF m 4 #[.val (.ref a7_0)] [])) st56 ?_
  exact own_ret0 X56 hx Bd.returns (hb hby d7_4) hlk (by decide) (by decide) (by rw [e56]; exact ⟨rfl, N0, (Keep.refl h0 [])⟩)
theorem d6_0 : decode prog_6_method_1_code 0 = .ok (.aload_n 0, 1) := by decide +kernel
theorem d6_1 : decode prog_6_method_1_code 1 = .ok (.invokespecial 1, 3) := by decide +kernel
theorem pd___V : parseMethodDescriptor "()V" = some ⟨[], none⟩ := by decide +kernel
theorem d6_4 : decode prog_6_method_1_code 4 = .ok (.aload_n 0, 1) := by decide +kernel
theorem d6_5 : decode prog_6_method_1_code 5 = .ok (.aload_n 1, 1) := by decide +kernel
theorem d6_6 : decode prog_6_method_1_code 6 = .ok (.putfield 7, 3) := by decide +kernel
theorem d6_9 : decode prog_6_method_1_code 9 = .ok (.aload_n 0, 1) := by decide +kernel
theorem d6_10 : decode prog_6_method_1_code 10 = .ok (.iload_n 2, 1) := by decide +kernel
theorem d6_11 : decode prog_6_method_1_code 11 = .ok (.putfield 13, 3) := by decide +kernel
theorem d6_14 : decode prog_6_method_1_code 14 = .ok (.aload_n 0, 1) := by decide +kernel
theorem d6_15 : decode prog_6_method_1_code 15 = .ok (.iload_n 3, 1) := by decide +kernel
theorem d6_16 : decode prog_6_method_1_code 16 = .ok (.putfield 17, 3) := by decide +kernel
theorem d6_19 : decode prog_6_method_1_code 19 = .ok (.aload_n 0, 1) := by decide +kernel
theorem d6_20 : decode prog_6_method_1_code 20 = .ok (.iload 4, 2) := by decide +kernel
theorem d6_22 : decode prog_6_method_1_code 22 = .ok (.putfield 21, 3) := by decide +kernel
theorem d6_25 : decode prog_6_method_1_code 25 = .ok (.return_, 1) := by decide +kernel
theorem pn_com_example_topping_out_toppingout_game_Player : plainName "com/example/topping_out/toppingout/game/Player" = true := by first | (simp [plainName, overriddenIn]; done) | decide +kernel
theorem own_ef6 (m : MethodId) (x0 : Addr) (x1 : Addr) (x2 : Int32) (x3 : Int32) (x4 : Int32) : entryFrame m #[(.ref x0), (.ref x1), (.int x2), (.int x3), (.int x4)] 5 = mkF m 0 #[.val (.ref x0), .val (.ref x1), .val (.int x2), .val (.int x3), .val (.int x4)] [] := by first | (simp [entryFrame, mkF, argsToLocals, Value.category]; done) | rfl
def own_Q6 (Z : State) (a6_0 : Addr) (a6_1 : Addr) (p6_2 : Int32) (p6_3 : Int32) (p6_4 : Int32) (u_name_a6_0 : Value) (u_expert_a6_0 : Value) (u_certificates_a6_0 : Value) (u_awards_a6_0 : Value) (h0 : Heap) (n0 : Nat) (v : Option Value) (h : Heap) (L : List Loc) : Prop := v = none ∧ Fr n0 L ∧ Keep h0 h [a6_0] ∧ Exa Z h a6_0 "com/example/topping_out/toppingout/game/Player" ∧ Fld Z h a6_0 "com/example/topping_out/toppingout/game/Player" "name" "Ljava/lang/String;" (.ref a6_1) ∧ Fld Z h a6_0 "com/example/topping_out/toppingout/game/Player" "expert" "Z" (.int (nar .boolean p6_2)) ∧ Fld Z h a6_0 "com/example/topping_out/toppingout/game/Player" "certificates" "I" (.int p6_3) ∧ Fld Z h a6_0 "com/example/topping_out/toppingout/game/Player" "awards" "I" (.int p6_4)
set_option maxRecDepth 65536 in
set_option maxHeartbeats 40000000 in
theorem own_rm6 (l : Launch) (Z : State) (a0 : Array Value) (hw : ∀ d ∈ tables_1, d.before a0 Z = true) (ws : List Jvm.Cond) (a6_0 : Addr) (a6_1 : Addr) (p6_2 : Int32) (p6_3 : Int32) (p6_4 : Int32) (u_name_a6_0 : Value) (u_expert_a6_0 : Value) (u_certificates_a6_0 : Value) (u_awards_a6_0 : Value) (h0 : Heap) (n0 : Nat) (Z0 : n0 ≤ h0.size) (E_a6_0 : Exa Z h0 a6_0 "com/example/topping_out/toppingout/game/Player") (F_name_a6_0 : Fld Z h0 a6_0 "com/example/topping_out/toppingout/game/Player" "name" "Ljava/lang/String;" u_name_a6_0) (ge_a6_0 : n0 ≤ a6_0) (F_expert_a6_0 : Fld Z h0 a6_0 "com/example/topping_out/toppingout/game/Player" "expert" "Z" u_expert_a6_0) (F_certificates_a6_0 : Fld Z h0 a6_0 "com/example/topping_out/toppingout/game/Player" "certificates" "I" u_certificates_a6_0) (F_awards_a6_0 : Fld Z h0 a6_0 "com/example/topping_out/toppingout/game/Player" "awards" "I" u_awards_a6_0) :
    MetFree l (⟨"com/example/topping_out/toppingout/game/Player", "<init>", "(Ljava/lang/String;ZII)V"⟩ : MethodName) (head1 (Jvm.Cond.code (⟨"com/example/topping_out/toppingout/game/Player", "<init>", "(Ljava/lang/String;ZII)V"⟩ : MethodName) prog_6_method_1_code 5 none :: ws) ({ frames := 2, cells := 0, slots := 0, locals := 24 } : Room)) (fun a U => a = #[(.ref a6_0), (.ref a6_1), (.int p6_2), (.int p6_3), (.int p6_4)] ∧ Z.Warmed39 U.vm ∧ U.heap = h0) (fun _ _ _ _ _ => True) (fun _ U o U' => ∃ v L, o = .returned v ∧ own_Q6 Z a6_0 a6_1 p6_2 p6_3 p6_4 u_name_a6_0 u_expert_a6_0 u_certificates_a6_0 u_awards_a6_0 h0 n0 v U'.heap L ∧ FrameEnd U o U' L ({ frames := 2, cells := 0, slots := 0, locals := 24 } : Room).cells ({ frames := 2, cells := 0, slots := 0, locals := 24 } : Room).slots) := by
  refine MetFree.of_bodySF (plainFor_of_name pn_com_example_topping_out_toppingout_game_Player) hisR ?_
  intro p e s m args below meth c s₁ Bd hml0 hP hK
  obtain ⟨rfl, hZ, hh⟩ := hP
  have hx := Bd.exec
  have hby := Bd.bytes
  have hlk : meth.locks = false := BodyLoose.notSynchronized Bd
  have hml : c.maxLocals = 5 := hml0
  have hown : s.vm.findClass "com/example/topping_out/toppingout/game/Player" = some m.cls := findClass_of_methodNamed Bd.named
  have hnm := (name_of_methodNamed Bd.named Bd.method).1
  have X0 : Stand p l e ({ frames := 2, cells := 0, slots := 0, locals := 24 } : Room) s m #[(.ref a6_0), (.ref a6_1), (.int p6_2), (.int p6_3), (.int p6_4)] below meth c s₁ [] 0 0 := Stand.of_body Bd
  have e0 : s₁.heap = h0 := by rw [← hh, Bd.state]; rfl
  have N0 := Fr.nil n0
  show own_Go p e below (own_P s below ({ frames := 2, cells := 0, slots := 0, locals := 24 } : Room) (own_Q6 Z a6_0 a6_1 p6_2 p6_3 p6_4 u_name_a6_0 u_expert_a6_0 u_certificates_a6_0 u_awards_a6_0 h0 n0)) s₁ (entryFrame m #[(.ref a6_0), (.ref a6_1), (.int p6_2), (.int p6_3), (.int p6_4)] 5)
  refine own_in (own_ef6 m a6_0 a6_1 p6_2 p6_3 p6_4) ?_
  refine own_by (T' := s₁) (g' := (mkF m 1 #[.val (.ref a6_0), .val (.ref a6_1), .val (.int p6_2), .val (.int p6_3), .val (.int p6_4)] [(.ref a6_0)])) (fun t k => ?_) ?_
  · show Steps p.tables e below (s₁.setTop (mkF m 0 #[.val (.ref a6_0), .val (.ref a6_1), .val (.int p6_2), .val (.int p6_3), .val (.int p6_4)] [])) t
    refine XS.aloadN X0.here hx rfl (hb hby d6_0) rfl rfl ?_
    show Steps p.tables e below (s₁.setTop (mkF m 1 #[.val (.ref a6_0), .val (.ref a6_1), .val (.int p6_2), .val (.int p6_3), .val (.int p6_4)] [(.ref a6_0)])) t
    exact k
  obtain ⟨v57, _, ⟨T57, L57, k57, n57⟩, -, X57, ⟨Lc57, hQ57, l57, y57, z57⟩, st57⟩ := X0.specialBack hx (y := (⟨"java/lang/Record", "<init>", "()V"⟩ : MethodName)) rfl hown (mvT hZ (hw _ (List.mem_of_getElem? (i := 33) rfl))) (mvT hZ (hw _ (List.mem_of_getElem? (i := 34) rfl))) (mvT hZ (hw _ (List.mem_of_getElem? (i := 37) rfl))) (by decide) (backOf (W := 0) (own_rm7 l Z a0 hw [] a6_0 h0 n0 Z0) hZ (hw _ (List.mem_of_getElem? (i := 37) rfl)) (hw _ (List.mem_of_getElem? (i := 36) rfl)) (by decide) (by decide)) (g := (mkF m 1 #[.val (.ref a6_0), .val (.ref a6_1), .val (.int p6_2), .val (.int p6_3), .val (.int p6_4)] [(.ref a6_0)])) rfl (by rw [hml]; rfl) (Steps.refl _) (a := a6_0) (argsL := []) (rest := []) (lenOf pd___V rfl) rfl (by show 2 * 0 + _ ≤ _; exact Nat.le_of_eq rfl) (hb hby d6_1) (fun _ _ => ⟨rfl, e0, (by decide : 0 + 0 ≤ _), (by decide : 0 + 0 ≤ _)⟩)
  dsimp only [Pt.U, Pt.locs, Pt.cells, Pt.slots] at X57 l57 y57 z57 st57 hQ57
  subst l57 y57 z57
  obtain ⟨rfl, M57, K57⟩ := hQ57
  have f58 := E_a6_0.keep K57
  have f59 := F_name_a6_0.keep K57 nin0
  have f60 := F_expert_a6_0.keep K57 nin0
  have f61 := F_certificates_a6_0.keep K57 nin0
  have f62 := F_awards_a6_0.keep K57 nin0
  have K63 : Keep h0 T57.heap [a6_0] := (Keep.refl h0 [a6_0]).trans K57 all0
  have Z64 := Nat.le_trans Z0 K57.1
  have N65 := Fr.app N0 M57
  refine own_via (T' := T57) (g' := (mkF m 4 #[.val (.ref a6_0), .val (.ref a6_1), .val (.int p6_2), .val (.int p6_3), .val (.int p6_4)] [])) st57 ?_
  refine own_by (T' := T57) (g' := (mkF m 6 #[.val (.ref a6_0), .val (.ref a6_1), .val (.int p6_2), .val (.int p6_3), .val (.int p6_4)] [(.ref a6_1), (.ref a6_0)])) (fun t k => ?_) ?_
  · show Steps p.tables e below (T57.setTop (mkF m 4 #[.val (.ref a6_0), .val (.ref a6_1), .val (.int p6_2), .val (.int p6_3), .val (.int p6_4)] [])) t
    refine XS.aloadN X57.here hx rfl (hb hby d6_4) rfl rfl ?_
    show Steps p.tables e below (T57.setTop (mkF m 5 #[.val (.ref a6_0), .val (.ref a6_1), .val (.int p6_2), .val (.int p6_3), .val (.int p6_4)] [(.ref a6_0)])) t
    refine XS.aloadN X57.here hx rfl (hb hby d6_5) rfl rfl ?_
    show Steps p.tables e below (T57.setTop (mkF m 6 #[.val (.ref a6_0), .val (.ref a6_1), .val (.int p6_2), .val (.int p6_3), .val (.int p6_4)] [(.ref a6_1), (.ref a6_0)])) t
    exact k
  obtain ⟨T66, h66, X66, e66, W66, st66⟩ := putF X57 hx hZ hown (host := "") (Or.inl (hw _ (List.mem_of_getElem? (i := 39) rfl))) Via.refl rfl f59 f58 (Or.inr ⟨(hw _ (List.mem_of_getElem? (i := 40) rfl)), rfl, hnm⟩) (hw _ (List.mem_of_getElem? (i := 28) rfl)) (ty := (.object "java/lang/String")) (by decide) rfl rfl (g := (mkF m 6 #[.val (.ref a6_0), .val (.ref a6_1), .val (.int p6_2), .val (.int p6_3), .val (.int p6_4)] [(.ref a6_1), (.ref a6_0)])) rfl rfl (hb hby d6_6)
  have f67 := f59.same W66
  have f68 := f58.wr W66
  have f70 := f60.other W66 (Or.inr (slot_ne (Or.inr (hw _ (List.mem_of_getElem? (i := 42) rfl))) (Or.inr (hw _ (List.mem_of_getElem? (i := 40) rfl))) (by decide) (t := .boolean) (t' := (.object "java/lang/String")) (by decide) (by decide)))
  have f71 := f61.other W66 (Or.inr (slot_ne (Or.inr (hw _ (List.mem_of_getElem? (i := 44) rfl))) (Or.inr (hw _ (List.mem_of_getElem? (i := 40) rfl))) (by decide) (t := .int) (t' := (.object "java/lang/String")) (by decide) (by decide)))
  have f72 := f62.other W66 (Or.inr (slot_ne (Or.inr (hw _ (List.mem_of_getElem? (i := 46) rfl))) (Or.inr (hw _ (List.mem_of_getElem? (i := 40) rfl))) (by decide) (t := .int) (t' := (.object "java/lang/String")) (by decide) (by decide)))
  have K73 : Keep h0 h66 [a6_0] := K63.wr W66 (Or.inl (List.mem_of_getElem? (i := 0) rfl))
  have N74 := Fr.snoc X66 N65 ge_a6_0
  have Z75 := (Nat.le_trans Z64 (Keep.of_wr W66).1)
  refine own_by (T' := T66) (g' := (mkF m 9 #[.val (.ref a6_0), .val (.ref a6_1), .val (.int p6_2), .val (.int p6_3), .val (.int p6_4)] [])) st66 ?_
  refine own_by (T' := T66) (g' := (mkF m 11 #[.val (.ref a6_0), .val (.ref a6_1), .val (.int p6_2), .val (.int p6_3), .val (.int p6_4)] [(.int p6_2), (.ref a6_0)])) (fun t k => ?_) ?_
  · show Steps p.tables e below (T66.setTop (mkF m 9 #[.val (.ref a6_0), .val (.ref a6_1), .val (.int p6_2), .val (.int p6_3), .val (.int p6_4)] [])) t
    refine XS.aloadN X66.here hx rfl (hb hby d6_9) rfl rfl ?_
    show Steps p.tables e below (T66.setTop (mkF m 10 #[.val (.ref a6_0), .val (.ref a6_1), .val (.int p6_2), .val (.int p6_3), .val (.int p6_4)] [(.ref a6_0)])) t
    refine XS.iloadN X66.here hx rfl (hb hby d6_10) rfl ?_
    show Steps p.tables e below (T66.setTop (mkF m 11 #[.val (.ref a6_0), .val (.ref a6_1), .val (.int p6_2), .val (.int p6_3), .val (.int p6_4)] [(.int p6_2), (.ref a6_0)])) t
    exact k
  obtain ⟨T76, h76, X76, e76, W76, st76⟩ := putFN X66 hx hZ hown (hw _ (List.mem_of_getElem? (i := 41) rfl)) Via.refl e66 f70 f68 (Or.inr ⟨(hw _ (List.mem_of_getElem? (i := 42) rfl)), rfl, hnm⟩) (hw _ (List.mem_of_getElem? (i := 28) rfl)) (ty := .boolean) (v' := (.int (nar .boolean p6_2))) (by decide) rfl (fits_nar_bool _) (g := (mkF m 11 #[.val (.ref a6_0), .val (.ref a6_1), .val (.int p6_2), .val (.int p6_3), .val (.int p6_4)] [(.int p6_2), (.ref a6_0)])) rfl rfl (hb hby d6_11)
  have f77 := f70.same W76
  have f78 := f68.wr W76
  have f79 := f67.other W76 (Or.inr (slot_ne (Or.inr (hw _ (List.mem_of_getElem? (i := 40) rfl))) (Or.inr (hw _ (List.mem_of_getElem? (i := 42) rfl))) (by decide) (t := (.object "java/lang/String")) (t' := .boolean) (by decide) (by decide)))
  have f81 := f71.other W76 (Or.inr (slot_ne (Or.inr (hw _ (List.mem_of_getElem? (i := 44) rfl))) (Or.inr (hw _ (List.mem_of_getElem? (i := 42) rfl))) (by decide) (t := .int) (t' := .boolean) (by decide) (by decide)))
  have f82 := f72.other W76 (Or.inr (slot_ne (Or.inr (hw _ (List.mem_of_getElem? (i := 46) rfl))) (Or.inr (hw _ (List.mem_of_getElem? (i := 42) rfl))) (by decide) (t := .int) (t' := .boolean) (by decide) (by decide)))
  have K83 : Keep h0 h76 [a6_0] := K73.wr W76 (Or.inl (List.mem_of_getElem? (i := 0) rfl))
  have N84 := Fr.snoc X76 N74 ge_a6_0
  have Z85 := (Nat.le_trans Z75 (Keep.of_wr W76).1)
  refine own_by (T' := T76) (g' := (mkF m 14 #[.val (.ref a6_0), .val (.ref a6_1), .val (.int p6_2), .val (.int p6_3), .val (.int p6_4)] [])) st76 ?_
  refine own_by (T' := T76) (g' := (mkF m 16 #[.val (.ref a6_0), .val (.ref a6_1), .val (.int p6_2), .val (.int p6_3), .val (.int p6_4)] [(.int p6_3), (.ref a6_0)])) (fun t k => ?_) ?_
  · show Steps p.tables e below (T76.setTop (mkF m 14 #[.val (.ref a6_0), .val (.ref a6_1), .val (.int p6_2), .val (.int p6_3), .val (.int p6_4)] [])) t
    refine XS.aloadN X76.here hx rfl (hb hby d6_14) rfl rfl ?_
    show Steps p.tables e below (T76.setTop (mkF m 15 #[.val (.ref a6_0), .val (.ref a6_1), .val (.int p6_2), .val (.int p6_3), .val (.int p6_4)] [(.ref a6_0)])) t
    refine XS.iloadN X76.here hx rfl (hb hby d6_15) rfl ?_
    show Steps p.tables e below (T76.setTop (mkF m 16 #[.val (.ref a6_0), .val (.ref a6_1), .val (.int p6_2), .val (.int p6_3), .val (.int p6_4)] [(.int p6_3), (.ref a6_0)])) t
    exact k
  obtain ⟨T86, h86, X86, e86, W86, st86⟩ := putF X76 hx hZ hown (host := "") (Or.inl (hw _ (List.mem_of_getElem? (i := 43) rfl))) Via.refl e76 f81 f78 (Or.inr ⟨(hw _ (List.mem_of_getElem? (i := 44) rfl)), rfl, hnm⟩) (hw _ (List.mem_of_getElem? (i := 28) rfl)) (ty := .int) (by decide) rfl rfl (g := (mkF m 16 #[.val (.ref a6_0), .val (.ref a6_1), .val (.int p6_2), .val (.int p6_3), .val (.int p6_4)] [(.int p6_3), (.ref a6_0)])) rfl rfl (hb hby d6_16)
  have f87 := f81.same W86
  have f88 := f78.wr W86
  have f89 := f79.other W86 (Or.inr (slot_ne (Or.inr (hw _ (List.mem_of_getElem? (i := 40) rfl))) (Or.inr (hw _ (List.mem_of_getElem? (i := 44) rfl))) (by decide) (t := (.object "java/lang/String")) (t' := .int) (by decide) (by decide)))
  have f90 := f77.other W86 (Or.inr (slot_ne (Or.inr (hw _ (List.mem_of_getElem? (i := 42) rfl))) (Or.inr (hw _ (List.mem_of_getElem? (i := 44) rfl))) (by decide) (t := .boolean) (t' := .int) (by decide) (by decide)))
  have f92 := f82.other W86 (Or.inr (slot_ne (Or.inr (hw _ (List.mem_of_getElem? (i := 46) rfl))) (Or.inr (hw _ (List.mem_of_getElem? (i := 44) rfl))) (by decide) (t := .int) (t' := .int) (by decide) (by decide)))
  have K93 : Keep h0 h86 [a6_0] := K83.wr W86 (Or.inl (List.mem_of_getElem? (i := 0) rfl))
  have N94 := Fr.snoc X86 N84 ge_a6_0
  have Z95 := (Nat.le_trans Z85 (Keep.of_wr W86).1)
  refine own_by (T' := T86) (g' := (mkF m 19 #[.val (.ref a6_0), .val (.ref a6_1), .val (.int p6_2), .val (.int p6_3), .val (.int p6_4)] [])) st86 ?_
  refine own_by (T' := T86) (g' := (mkF m 22 #[.val (.ref a6_0), .val (.ref a6_1), .val (.int p6_2), .val (.int p6_3), .val (.int p6_4)] [(.int p6_4), (.ref a6_0)])) (fun t k => ?_) ?_
  · show Steps p.tables e below (T86.setTop (mkF m 19 #[.val (.ref a6_0), .val (.ref a6_1), .val (.int p6_2), .val (.int p6_3), .val (.int p6_4)] [])) t
    refine XS.aloadN X86.here hx rfl (hb hby d6_19) rfl rfl ?_
    show Steps p.tables e below (T86.setTop (mkF m 20 #[.val (.ref a6_0), .val (.ref a6_1), .val (.int p6_2), .val (.int p6_3), .val (.int p6_4)] [(.ref a6_0)])) t
    refine XS.iload X86.here hx rfl (hb hby d6_20) rfl ?_
    show Steps p.tables e below (T86.setTop (mkF m 22 #[.val (.ref a6_0), .val (.ref a6_1), .val (.int p6_2), .val (.int p6_3), .val (.int p6_4)] [(.int p6_4), (.ref a6_0)])) t
    exact k
  obtain ⟨T96, h96, X96, e96, W96, st96⟩ := putF X86 hx hZ hown (host := "") (Or.inl (hw _ (List.mem_of_getElem? (i := 45) rfl))) Via.refl e86 f92 f88 (Or.inr ⟨(hw _ (List.mem_of_getElem? (i := 46) rfl)), rfl, hnm⟩) (hw _ (List.mem_of_getElem? (i := 28) rfl)) (ty := .int) (by decide) rfl rfl (g := (mkF m 22 #[.val (.ref a6_0), .val (.ref a6_1), .val (.int p6_2), .val (.int p6_3), .val (.int p6_4)] [(.int p6_4), (.ref a6_0)])) rfl rfl (hb hby d6_22)
  have f97 := f92.same W96
  have f98 := f88.wr W96
  have f99 := f89.other W96 (Or.inr (slot_ne (Or.inr (hw _ (List.mem_of_getElem? (i := 40) rfl))) (Or.inr (hw _ (List.mem_of_getElem? (i := 46) rfl))) (by decide) (t := (.object "java/lang/String")) (t' := .int) (by decide) (by decide)))
  have f100 := f90.other W96 (Or.inr (slot_ne (Or.inr (hw _ (List.mem_of_getElem? (i := 42) rfl))) (Or.inr (hw _ (List.mem_of_getElem? (i := 46) rfl))) (by decide) (t := .boolean) (t' := .int) (by decide) (by decide)))
  have f101 := f87.other W96 (Or.inr (slot_ne (Or.inr (hw _ (List.mem_of_getElem? (i := 44) rfl))) (Or.inr (hw _ (List.mem_of_getElem? (i := 46) rfl))) (by decide) (t := .int) (t' := .int) (by decide) (by decide)))
  have K103 : Keep h0 h96 [a6_0] := K93.wr W96 (Or.inl (List.mem_of_getElem? (i := 0) rfl))
  have N104 := Fr.snoc X96 N94 ge_a6_0
  have Z105 := (Nat.le_trans Z95 (Keep.of_wr W96).1)
  refine own_by (T' := T96) (g' := (mkF m 25 #[.val (.ref a6_0), .val (.ref a6_1), .val (.int p6_2), .val (.int p6_3), .val (.int p6_4)] [])) st96 ?_
  exact own_ret0 X96 hx Bd.returns (hb hby d6_25) hlk (by decide) (by decide) (by rw [e96]; exact ⟨rfl, N104, K103, f98, f99, f100, f101, f97⟩)
theorem d8_0 : decode prog_6_method_5_code 0 = .ok (.aload_n 0, 1) := by decide +kernel
theorem d8_1 : decode prog_6_method_5_code 1 = .ok (.getfield 17, 3) := by decide +kernel
theorem d8_4 : decode prog_6_method_5_code 4 = .ok (.ifCond .ne 7, 3) := by decide +kernel
theorem d8_7 : decode prog_6_method_5_code 7 = .ok (.iconst 1, 1) := by decide +kernel
theorem d8_8 : decode prog_6_method_5_code 8 = .ok (.goto 4, 3) := by decide +kernel
theorem d8_11 : decode prog_6_method_5_code 11 = .ok (.iconst 0, 1) := by decide +kernel
theorem d8_12 : decode prog_6_method_5_code 12 = .ok (.ireturn, 1) := by decide +kernel
def own_F8 (w_certificates_a8_0 : Int32) : Int32 := (if w_certificates_a8_0 = (0 : Int32) then (1 : Int32) else (0 : Int32))
theorem own_ef8 (m : MethodId) (x0 : Addr) : entryFrame m #[(.ref x0)] 1 = mkF m 0 #[.val (.ref x0)] [] := by first | (simp [entryFrame, mkF, argsToLocals, Value.category]; done) | rfl
def own_Q8 (r : Int32) (h0 : Heap) (n0 : Nat) (v : Option Value) (h : Heap) (L : List Loc) : Prop := v = some (.int r) ∧ Fr n0 L ∧ h = h0
set_option maxRecDepth 65536 in
set_option maxHeartbeats 40000000 in
theorem own_rm8 (l : Launch) (Z : State) (a0 : Array Value) (hw : ∀ d ∈ tables_1, d.before a0 Z = true) (ws : List Jvm.Cond) (a8_0 : Addr) (w_certificates_a8_0 : Int32) (h0 : Heap) (n0 : Nat) (Z0 : n0 ≤ h0.size) (F_certificates_a8_0 : Fld Z h0 a8_0 "com/example/topping_out/toppingout/game/Player" "certificates" "I" (.int w_certificates_a8_0)) :
    MetFree l (⟨"com/example/topping_out/toppingout/game/Player", "out", "()Z"⟩ : MethodName) (head1 (Jvm.Cond.code (⟨"com/example/topping_out/toppingout/game/Player", "out", "()Z"⟩ : MethodName) prog_6_method_5_code 1 (some .boolean) :: ws) ({ frames := 0, cells := 0, slots := 0, locals := 0 } : Room)) (fun a U => a = #[(.ref a8_0)] ∧ Z.Warmed39 U.vm ∧ U.heap = h0) (fun _ _ _ _ _ => True) (fun _ U o U' => ∃ v L, o = .returned v ∧ own_Q8 (own_F8 w_certificates_a8_0) h0 n0 v U'.heap L ∧ FrameEnd U o U' L ({ frames := 0, cells := 0, slots := 0, locals := 0 } : Room).cells ({ frames := 0, cells := 0, slots := 0, locals := 0 } : Room).slots) := by
  refine MetFree.of_bodySF (plainFor_of_name pn_com_example_topping_out_toppingout_game_Player) hisR ?_
  intro p e s m args below meth c s₁ Bd hml0 hP hK
  obtain ⟨rfl, hZ, hh⟩ := hP
  have hx := Bd.exec
  have hby := Bd.bytes
  have hlk : meth.locks = false := BodyLoose.notSynchronized Bd
  have hml : c.maxLocals = 1 := hml0
  have hown : s.vm.findClass "com/example/topping_out/toppingout/game/Player" = some m.cls := findClass_of_methodNamed Bd.named
  have hnm := (name_of_methodNamed Bd.named Bd.method).1
  have X0 : Stand p l e ({ frames := 0, cells := 0, slots := 0, locals := 0 } : Room) s m #[(.ref a8_0)] below meth c s₁ [] 0 0 := Stand.of_body Bd
  have e0 : s₁.heap = h0 := by rw [← hh, Bd.state]; rfl
  have N0 := Fr.nil n0
  show own_Go p e below (own_P s below ({ frames := 0, cells := 0, slots := 0, locals := 0 } : Room) (own_Q8 (own_F8 w_certificates_a8_0) h0 n0)) s₁ (entryFrame m #[(.ref a8_0)] 1)
  refine own_in (own_ef8 m a8_0) ?_
  refine own_by (T' := s₁) (g' := (mkF m 1 #[.val (.ref a8_0)] [(.ref a8_0)])) (fun t k => ?_) ?_
  · show Steps p.tables e below (s₁.setTop (mkF m 0 #[.val (.ref a8_0)] [])) t
    refine XS.aloadN X0.here hx rfl (hb hby d8_0) rfl rfl ?_
    show Steps p.tables e below (s₁.setTop (mkF m 1 #[.val (.ref a8_0)] [(.ref a8_0)])) t
    exact k
  obtain ⟨T106, X106, e106, st106⟩ := getF X0 hx hZ hown (host := "") (Or.inl (hw _ (List.mem_of_getElem? (i := 43) rfl))) Via.refl e0 F_certificates_a8_0 (g := (mkF m 1 #[.val (.ref a8_0)] [(.ref a8_0)])) rfl rfl (hb hby d8_1)
  refine own_by (T' := T106) (g' := (mkF m 4 #[.val (.ref a8_0)] [(.int w_certificates_a8_0)])) st106 ?_
  by_cases hc107 : w_certificates_a8_0 = (0 : Int32)
  · skip
    refine own_by (T' := T106) (g' := (mkF m 12 #[.val (.ref a8_0)] [(.int (1 : Int32))])) (fun t k => ?_) ?_
    · show Steps p.tables e below (T106.setTop (mkF m 4 #[.val (.ref a8_0)] [(.int w_certificates_a8_0)])) t
      refine XS.ifNo X106.here hx rfl (hb hby d8_4) rfl ((if0 _ _).trans (teq hc107).2) ?_
      show Steps p.tables e below (T106.setTop (mkF m 7 #[.val (.ref a8_0)] [])) t
      refine XS.iconst X106.here hx rfl (hb hby d8_7) ?_
      show Steps p.tables e below (T106.setTop (mkF m 8 #[.val (.ref a8_0)] [(.int (1 : Int32))])) t
      refine XS.goto X106.here hx rfl (pc0 := 8) (pc' := 12) rfl (hb hby d8_8) (by decide) (by decide) ?_
      show Steps p.tables e below (T106.setTop (mkF m 12 #[.val (.ref a8_0)] [(.int (1 : Int32))])) t
      exact k
    rw [show own_F8 w_certificates_a8_0 = (1 : Int32) from ((if_pos hc107).trans rfl)]
    exact own_retN X106 hx (t := .boolean) Bd.returns (by simp) (hb hby d8_12) hlk (by decide) (by decide) ⟨rfl, N0, e106⟩
  · skip
    refine own_by (T' := T106) (g' := (mkF m 12 #[.val (.ref a8_0)] [(.int (0 : Int32))])) (fun t k => ?_) ?_
    · show Steps p.tables e below (T106.setTop (mkF m 4 #[.val (.ref a8_0)] [(.int w_certificates_a8_0)])) t
      refine XS.ifYes X106.here hx rfl (pc0 := 4) (pc' := 11) rfl (hb hby d8_4) rfl ((if0 _ _).trans (feq hc107).2) (by decide) (by decide) ?_
      show Steps p.tables e below (T106.setTop (mkF m 11 #[.val (.ref a8_0)] [])) t
      refine XS.iconst X106.here hx rfl (hb hby d8_11) ?_
      show Steps p.tables e below (T106.setTop (mkF m 12 #[.val (.ref a8_0)] [(.int (0 : Int32))])) t
      exact k
    rw [show own_F8 w_certificates_a8_0 = (0 : Int32) from ((if_neg hc107).trans rfl)]
    exact own_retN X106 hx (t := .boolean) Bd.returns (by simp) (hb hby d8_12) hlk (by decide) (by decide) ⟨rfl, N0, e106⟩
theorem d9_0 : decode jdk_29_method_69_code 0 = .ok (.iload_n 0, 1) := by decide +kernel
theorem d9_1 : decode jdk_29_method_69_code 1 = .ok (.iload_n 1, 1) := by decide +kernel
theorem d9_2 : decode jdk_29_method_69_code 2 = .ok (.if_icmp .gt 7, 3) := by decide +kernel
theorem d9_9 : decode jdk_29_method_69_code 9 = .ok (.iload_n 1, 1) := by decide +kernel
theorem d9_5 : decode jdk_29_method_69_code 5 = .ok (.iload_n 0, 1) := by decide +kernel
theorem d9_6 : decode jdk_29_method_69_code 6 = .ok (.goto 4, 3) := by decide +kernel
theorem d9_10 : decode jdk_29_method_69_code 10 = .ok (.ireturn, 1) := by decide +kernel
def own_F9 (p9_0 : Int32) (p9_1 : Int32) : Int32 := (if p9_1 < p9_0 then p9_1 else p9_0)
theorem own_ef9 (m : MethodId) (x0 : Int32) (x1 : Int32) : entryFrame m #[(.int x0), (.int x1)] 2 = mkF m 0 #[.val (.int x0), .val (.int x1)] [] := by first | (simp [entryFrame, mkF, argsToLocals, Value.category]; done) | rfl
def own_Q9 (r : Int32) (h0 : Heap) (n0 : Nat) (v : Option Value) (h : Heap) (L : List Loc) : Prop := v = some (.int r) ∧ Fr n0 L ∧ h = h0
set_option maxRecDepth 65536 in
set_option maxHeartbeats 40000000 in
theorem own_rm9 (l : Launch) (Z : State) (a0 : Array Value) (hw : ∀ d ∈ tables_1, d.before a0 Z = true) (ws : List Jvm.Cond) (p9_0 : Int32) (p9_1 : Int32) (h0 : Heap) (n0 : Nat) (Z0 : n0 ≤ h0.size) :
    MetFree l (⟨"java/lang/Math", "min", "(II)I"⟩ : MethodName) (head1 (Jvm.Cond.code (⟨"java/lang/Math", "min", "(II)I"⟩ : MethodName) jdk_29_method_69_code 2 (some .int) :: ws) ({ frames := 0, cells := 0, slots := 0, locals := 0 } : Room)) (fun a U => a = #[(.int p9_0), (.int p9_1)] ∧ Z.Warmed39 U.vm ∧ U.heap = h0) (fun _ _ _ _ _ => True) (fun _ U o U' => ∃ v L, o = .returned v ∧ own_Q9 (own_F9 p9_0 p9_1) h0 n0 v U'.heap L ∧ FrameEnd U o U' L ({ frames := 0, cells := 0, slots := 0, locals := 0 } : Room).cells ({ frames := 0, cells := 0, slots := 0, locals := 0 } : Room).slots) := by
  refine MetFree.of_bodySF (Jvm.Free.JP.mathPlain rfl (by decide +kernel)) hisR ?_
  intro p e s m args below meth c s₁ Bd hml0 hP hK
  obtain ⟨rfl, hZ, hh⟩ := hP
  have hx := Bd.exec
  have hby := Bd.bytes
  have hlk : meth.locks = false := BodyLoose.notSynchronized Bd
  have hml : c.maxLocals = 2 := hml0
  have hown : s.vm.findClass "java/lang/Math" = some m.cls := findClass_of_methodNamed Bd.named
  have hnm := (name_of_methodNamed Bd.named Bd.method).1
  have X0 : Stand p l e ({ frames := 0, cells := 0, slots := 0, locals := 0 } : Room) s m #[(.int p9_0), (.int p9_1)] below meth c s₁ [] 0 0 := Stand.of_body Bd
  have e0 : s₁.heap = h0 := by rw [← hh, Bd.state]; rfl
  have N0 := Fr.nil n0
  show own_Go p e below (own_P s below ({ frames := 0, cells := 0, slots := 0, locals := 0 } : Room) (own_Q9 (own_F9 p9_0 p9_1) h0 n0)) s₁ (entryFrame m #[(.int p9_0), (.int p9_1)] 2)
  refine own_in (own_ef9 m p9_0 p9_1) ?_
  refine own_by (T' := s₁) (g' := (mkF m 2 #[.val (.int p9_0), .val (.int p9_1)] [(.int p9_1), (.int p9_0)])) (fun t k => ?_) ?_
  · show Steps p.tables e below (s₁.setTop (mkF m 0 #[.val (.int p9_0), .val (.int p9_1)] [])) t
    refine XS.iloadN X0.here hx rfl (hb hby d9_0) rfl ?_
    show Steps p.tables e below (s₁.setTop (mkF m 1 #[.val (.int p9_0), .val (.int p9_1)] [(.int p9_0)])) t
    refine XS.iloadN X0.here hx rfl (hb hby d9_1) rfl ?_
    show Steps p.tables e below (s₁.setTop (mkF m 2 #[.val (.int p9_0), .val (.int p9_1)] [(.int p9_1), (.int p9_0)])) t
    exact k
  by_cases hc108 : p9_1 < p9_0
  · skip
    refine own_by (T' := s₁) (g' := (mkF m 10 #[.val (.int p9_0), .val (.int p9_1)] [(.int p9_1)])) (fun t k => ?_) ?_
    · show Steps p.tables e below (s₁.setTop (mkF m 2 #[.val (.int p9_0), .val (.int p9_1)] [(.int p9_1), (.int p9_0)])) t
      refine XS.icmpYes X0.here hx rfl (pc0 := 2) (pc' := 9) rfl (hb hby d9_2) rfl (tlt hc108).2.2.1 (by decide) (by decide) ?_
      show Steps p.tables e below (s₁.setTop (mkF m 9 #[.val (.int p9_0), .val (.int p9_1)] [])) t
      refine XS.iloadN X0.here hx rfl (hb hby d9_9) rfl ?_
      show Steps p.tables e below (s₁.setTop (mkF m 10 #[.val (.int p9_0), .val (.int p9_1)] [(.int p9_1)])) t
      exact k
    rw [show own_F9 p9_0 p9_1 = p9_1 from ((if_pos hc108).trans rfl)]
    exact own_retI X0 hx Bd.returns (hb hby d9_10) hlk (by decide) (by decide) ⟨rfl, N0, e0⟩
  · skip
    refine own_by (T' := s₁) (g' := (mkF m 10 #[.val (.int p9_0), .val (.int p9_1)] [(.int p9_0)])) (fun t k => ?_) ?_
    · show Steps p.tables e below (s₁.setTop (mkF m 2 #[.val (.int p9_0), .val (.int p9_1)] [(.int p9_1), (.int p9_0)])) t
      refine XS.icmpNo X0.here hx rfl (hb hby d9_2) rfl (flt hc108).2.2.1 ?_
      show Steps p.tables e below (s₁.setTop (mkF m 5 #[.val (.int p9_0), .val (.int p9_1)] [])) t
      refine XS.iloadN X0.here hx rfl (hb hby d9_5) rfl ?_
      show Steps p.tables e below (s₁.setTop (mkF m 6 #[.val (.int p9_0), .val (.int p9_1)] [(.int p9_0)])) t
      refine XS.goto X0.here hx rfl (pc0 := 6) (pc' := 10) rfl (hb hby d9_6) (by decide) (by decide) ?_
      show Steps p.tables e below (s₁.setTop (mkF m 10 #[.val (.int p9_0), .val (.int p9_1)] [(.int p9_0)])) t
      exact k
    rw [show own_F9 p9_0 p9_1 = p9_0 from ((if_neg hc108).trans rfl)]
    exact own_retI X0 hx Bd.returns (hb hby d9_10) hlk (by decide) (by decide) ⟨rfl, N0, e0⟩
theorem d10_0 : decode prog_6_method_2_code 0 = .ok (.new 8, 3) := by decide +kernel
theorem d10_3 : decode prog_6_method_2_code 3 = .ok (.dup, 1) := by decide +kernel
theorem d10_4 : decode prog_6_method_2_code 4 = .ok (.aload_n 0, 1) := by decide +kernel
theorem d10_5 : decode prog_6_method_2_code 5 = .ok (.iload_n 1, 1) := by decide +kernel
theorem d10_6 : decode prog_6_method_2_code 6 = .ok (.iload_n 1, 1) := by decide +kernel
theorem d10_7 : decode prog_6_method_2_code 7 = .ok (.ifCond .eq 7, 3) := by decide +kernel
theorem d10_14 : decode prog_6_method_2_code 14 = .ok (.iconst 3, 1) := by decide +kernel
theorem d10_10 : decode prog_6_method_2_code 10 = .ok (.iconst 2, 1) := by decide +kernel
theorem d10_11 : decode prog_6_method_2_code 11 = .ok (.goto 4, 3) := by decide +kernel
theorem d10_15 : decode prog_6_method_2_code 15 = .ok (.iconst 0, 1) := by decide +kernel
theorem d10_16 : decode prog_6_method_2_code 16 = .ok (.invokespecial 24, 3) := by decide +kernel
theorem pd__Ljava_lang_String_ZII_V : parseMethodDescriptor "(Ljava/lang/String;ZII)V" = some ⟨[(.object "java/lang/String"), .boolean, .int, .int], none⟩ := by decide +kernel
theorem d10_19 : decode prog_6_method_2_code 19 = .ok (.areturn, 1) := by decide +kernel
theorem own_ef10 (m : MethodId) (x0 : Addr) (x1 : Int32) : entryFrame m #[(.ref x0), (.int x1)] 2 = mkF m 0 #[.val (.ref x0), .val (.int x1)] [] := by first | (simp [entryFrame, mkF, argsToLocals, Value.category]; done) | rfl
def own_Q10 (Z : State) (a10_0 : Addr) (p10_1 : Int32) (h0 : Heap) (n0 : Nat) (v : Option Value) (h : Heap) (L : List Loc) : Prop := ∃ b : Addr, v = some (.ref b) ∧ Fr n0 L ∧ Keep h0 h [] ∧ h0.size ≤ b ∧ n0 ≤ b ∧ Exa Z h b "com/example/topping_out/toppingout/game/Player" ∧ Fld Z h b "com/example/topping_out/toppingout/game/Player" "name" "Ljava/lang/String;" (.ref a10_0) ∧ Fld Z h b "com/example/topping_out/toppingout/game/Player" "expert" "Z" (.int (nar .boolean p10_1)) ∧ Fld Z h b "com/example/topping_out/toppingout/game/Player" "certificates" "I" (.int (if p10_1 = (0 : Int32) then (3 : Int32) else (2 : Int32))) ∧ Fld Z h b "com/example/topping_out/toppingout/game/Player" "awards" "I" (.int (0 : Int32))
set_option maxRecDepth 65536 in
set_option maxHeartbeats 40000000 in
theorem own_rm10 (l : Launch) (Z : State) (a0 : Array Value) (hw : ∀ d ∈ tables_1, d.before a0 Z = true) (ws : List Jvm.Cond) (a10_0 : Addr) (p10_1 : Int32) (h0 : Heap) (n0 : Nat) (Z0 : n0 ≤ h0.size) :
    MetFree l (⟨"com/example/topping_out/toppingout/game/Player", "seated", "(Ljava/lang/String;Z)Lcom/example/topping_out/toppingout/game/Player;"⟩ : MethodName) (head1 (Jvm.Cond.code (⟨"com/example/topping_out/toppingout/game/Player", "seated", "(Ljava/lang/String;Z)Lcom/example/topping_out/toppingout/game/Player;"⟩ : MethodName) prog_6_method_2_code 2 (some (.object "com/example/topping_out/toppingout/game/Player")) :: ws) ({ frames := 3, cells := 1, slots := 4, locals := 41 } : Room)) (fun a U => a = #[(.ref a10_0), (.int p10_1)] ∧ Z.Warmed39 U.vm ∧ U.heap = h0) (fun _ _ _ _ _ => True) (fun _ U o U' => ∃ v L, o = .returned v ∧ own_Q10 Z a10_0 p10_1 h0 n0 v U'.heap L ∧ FrameEnd U o U' L ({ frames := 3, cells := 1, slots := 4, locals := 41 } : Room).cells ({ frames := 3, cells := 1, slots := 4, locals := 41 } : Room).slots) := by
  refine MetFree.of_bodySF (plainFor_of_name pn_com_example_topping_out_toppingout_game_Player) hisR ?_
  intro p e s m args below meth c s₁ Bd hml0 hP hK
  obtain ⟨rfl, hZ, hh⟩ := hP
  have hx := Bd.exec
  have hby := Bd.bytes
  have hlk : meth.locks = false := BodyLoose.notSynchronized Bd
  have hml : c.maxLocals = 2 := hml0
  have hown : s.vm.findClass "com/example/topping_out/toppingout/game/Player" = some m.cls := findClass_of_methodNamed Bd.named
  have hnm := (name_of_methodNamed Bd.named Bd.method).1
  have X0 : Stand p l e ({ frames := 3, cells := 1, slots := 4, locals := 41 } : Room) s m #[(.ref a10_0), (.int p10_1)] below meth c s₁ [] 0 0 := Stand.of_body Bd
  have e0 : s₁.heap = h0 := by rw [← hh, Bd.state]; rfl
  have N0 := Fr.nil n0
  show own_Go p e below (own_P s below ({ frames := 3, cells := 1, slots := 4, locals := 41 } : Room) (own_Q10 Z a10_0 p10_1 h0 n0)) s₁ (entryFrame m #[(.ref a10_0), (.int p10_1)] 2)
  refine own_in (own_ef10 m a10_0 p10_1) ?_
  obtain ⟨T109, h109, X109, e109, E109, A109, D109, -, st109⟩ := newO X0 hx hZ hown (hw _ (List.mem_of_getElem? (i := 59) rfl)) (hw _ (List.mem_of_getElem? (i := 28) rfl)) (hw _ (List.mem_of_getElem? (i := 29) rfl)) e0 (g := (mkF m 0 #[.val (.ref a10_0), .val (.int p10_1)] [])) rfl (hb hby d10_0) (by decide) (by decide)
  obtain ⟨b109, g109⟩ : ∃ z, z = h0.size := ⟨_, rfl⟩
  rw [← g109] at A109 D109 st109
  have gn_b109 : n0 ≤ b109 := Nat.le_trans Z0 (Nat.le_of_eq g109.symm)
  have sz_b109 : h0.size ≤ b109 := Nat.le_trans (Keep.refl h0 []).1 (Nat.le_of_eq g109.symm)
  have K110 : Keep h0 h109 [] := (Keep.refl h0 []).ext E109
  have Z111 := Nat.le_trans Z0 E109.1
  have f112 : Fld Z h109 b109 "com/example/topping_out/toppingout/game/Player" "name" "Ljava/lang/String;" .null := D109 (Or.inr (hw _ (List.mem_of_getElem? (i := 40) rfl))) (ty := (.object "java/lang/String")) (by decide)
  have f113 : Fld Z h109 b109 "com/example/topping_out/toppingout/game/Player" "expert" "Z" (.int (0 : Int32)) := D109 (Or.inr (hw _ (List.mem_of_getElem? (i := 42) rfl))) (ty := .boolean) (by decide)
  have f114 : Fld Z h109 b109 "com/example/topping_out/toppingout/game/Player" "certificates" "I" (.int (0 : Int32)) := D109 (Or.inr (hw _ (List.mem_of_getElem? (i := 44) rfl))) (ty := .int) (by decide)
  have f115 : Fld Z h109 b109 "com/example/topping_out/toppingout/game/Player" "awards" "I" (.int (0 : Int32)) := D109 (Or.inr (hw _ (List.mem_of_getElem? (i := 46) rfl))) (ty := .int) (by decide)
  refine own_by (T' := T109) (g' := (mkF m 3 #[.val (.ref a10_0), .val (.int p10_1)] [(.ref b109)])) st109 ?_
  refine own_by (T' := T109) (g' := (mkF m 7 #[.val (.ref a10_0), .val (.int p10_1)] [(.int p10_1), (.int p10_1), (.ref a10_0), (.ref b109), (.ref b109)])) (fun t k => ?_) ?_
  · show Steps p.tables e below (T109.setTop (mkF m 3 #[.val (.ref a10_0), .val (.int p10_1)] [(.ref b109)])) t
    refine XS.dup X109.here hx rfl (hb hby d10_3) rfl rfl ?_
    show Steps p.tables e below (T109.setTop (mkF m 4 #[.val (.ref a10_0), .val (.int p10_1)] [(.ref b109), (.ref b109)])) t
    refine XS.aloadN X109.here hx rfl (hb hby d10_4) rfl rfl ?_
    show Steps p.tables e below (T109.setTop (mkF m 5 #[.val (.ref a10_0), .val (.int p10_1)] [(.ref a10_0), (.ref b109), (.ref b109)])) t
    refine XS.iloadN X109.here hx rfl (hb hby d10_5) rfl ?_
    show Steps p.tables e below (T109.setTop (mkF m 6 #[.val (.ref a10_0), .val (.int p10_1)] [(.int p10_1), (.ref a10_0), (.ref b109), (.ref b109)])) t
    refine XS.iloadN X109.here hx rfl (hb hby d10_6) rfl ?_
    show Steps p.tables e below (T109.setTop (mkF m 7 #[.val (.ref a10_0), .val (.int p10_1)] [(.int p10_1), (.int p10_1), (.ref a10_0), (.ref b109), (.ref b109)])) t
    exact k
  by_cases hc116 : p10_1 = (0 : Int32)
  · skip
    refine own_by (T' := T109) (g' := (mkF m 16 #[.val (.ref a10_0), .val (.int p10_1)] [(.int (0 : Int32)), (.int (3 : Int32)), (.int p10_1), (.ref a10_0), (.ref b109), (.ref b109)])) (fun t k => ?_) ?_
    · show Steps p.tables e below (T109.setTop (mkF m 7 #[.val (.ref a10_0), .val (.int p10_1)] [(.int p10_1), (.int p10_1), (.ref a10_0), (.ref b109), (.ref b109)])) t
      refine XS.ifYes X109.here hx rfl (pc0 := 7) (pc' := 14) rfl (hb hby d10_7) rfl ((if0 _ _).trans (teq hc116).1) (by decide) (by decide) ?_
      show Steps p.tables e below (T109.setTop (mkF m 14 #[.val (.ref a10_0), .val (.int p10_1)] [(.int p10_1), (.ref a10_0), (.ref b109), (.ref b109)])) t
      refine XS.iconst X109.here hx rfl (hb hby d10_14) ?_
      show Steps p.tables e below (T109.setTop (mkF m 15 #[.val (.ref a10_0), .val (.int p10_1)] [(.int (3 : Int32)), (.int p10_1), (.ref a10_0), (.ref b109), (.ref b109)])) t
      refine XS.iconst X109.here hx rfl (hb hby d10_15) ?_
      show Steps p.tables e below (T109.setTop (mkF m 16 #[.val (.ref a10_0), .val (.int p10_1)] [(.int (0 : Int32)), (.int (3 : Int32)), (.int p10_1), (.ref a10_0), (.ref b109), (.ref b109)])) t
      exact k
    obtain ⟨v117, _, ⟨T117, L117, k117, n117⟩, -, X117, ⟨Lc117, hQ117, l117, y117, z117⟩, st117⟩ := X109.specialBack hx (y := (⟨"com/example/topping_out/toppingout/game/Player", "<init>", "(Ljava/lang/String;ZII)V"⟩ : MethodName)) rfl hown (mvT hZ (hw _ (List.mem_of_getElem? (i := 60) rfl))) (mvT hZ (hw _ (List.mem_of_getElem? (i := 31) rfl))) (mvT hZ (hw _ (List.mem_of_getElem? (i := 32) rfl))) (by decide) (backOf (W := 1) (own_rm6 l Z a0 hw [] b109 a10_0 p10_1 (3 : Int32) (0 : Int32) .null (.int (0 : Int32)) (.int (0 : Int32)) (.int (0 : Int32)) h109 n0 Z111 A109 f112 gn_b109 f113 f114 f115) hZ (hw _ (List.mem_of_getElem? (i := 32) rfl)) (hw _ (List.mem_of_getElem? (i := 29) rfl)) (by decide) (by decide)) (g := (mkF m 16 #[.val (.ref a10_0), .val (.int p10_1)] [(.int (0 : Int32)), (.int (3 : Int32)), (.int p10_1), (.ref a10_0), (.ref b109), (.ref b109)])) rfl (by rw [hml]; rfl) (Steps.refl _) (a := b109) (argsL := [(.ref a10_0), (.int p10_1), (.int (3 : Int32)), (.int (0 : Int32))]) (rest := [(.ref b109)]) (lenOf pd__Ljava_lang_String_ZII_V rfl) rfl (by show 2 * 0 + _ ≤ _; exact Nat.le_of_eq rfl) (hb hby d10_16) (fun _ _ => ⟨rfl, e109, (by decide : 1 + 0 ≤ _), (by decide : 4 + 0 ≤ _)⟩)
    dsimp only [Pt.U, Pt.locs, Pt.cells, Pt.slots] at X117 l117 y117 z117 st117 hQ117
    subst l117 y117 z117
    obtain ⟨rfl, M117, K117, f118, f119, f120, f121, f122⟩ := hQ117
    have f123 := A109.keep K117
    have K124 : Keep h0 T117.heap [] := K110.trans K117 (allS (Or.inr sz_b109) all0)
    have Z125 := Nat.le_trans Z111 K117.1
    have N126 := Fr.app N0 M117
    refine own_via (T' := T117) (g' := (mkF m 19 #[.val (.ref a10_0), .val (.int p10_1)] [(.ref b109)])) st117 ?_
    exact own_retR X117 hx Bd.returns rfl rfl rfl (hb hby d10_19) hlk (by decide) (by decide) ⟨b109, rfl, N126, K124, sz_b109, gn_b109, f118, f119, f120, (by rw [if_pos hc116]; exact f121), f122⟩
  · skip
    refine own_by (T' := T109) (g' := (mkF m 16 #[.val (.ref a10_0), .val (.int p10_1)] [(.int (0 : Int32)), (.int (2 : Int32)), (.int p10_1), (.ref a10_0), (.ref b109), (.ref b109)])) (fun t k => ?_) ?_
    · show Steps p.tables e below (T109.setTop (mkF m 7 #[.val (.ref a10_0), .val (.int p10_1)] [(.int p10_1), (.int p10_1), (.ref a10_0), (.ref b109), (.ref b109)])) t
      refine XS.ifNo X109.here hx rfl (hb hby d10_7) rfl ((if0 _ _).trans (feq hc116).1) ?_
      show Steps p.tables e below (T109.setTop (mkF m 10 #[.val (.ref a10_0), .val (.int p10_1)] [(.int p10_1), (.ref a10_0), (.ref b109), (.ref b109)])) t
      refine XS.iconst X109.here hx rfl (hb hby d10_10) ?_
      show Steps p.tables e below (T109.setTop (mkF m 11 #[.val (.ref a10_0), .val (.int p10_1)] [(.int (2 : Int32)), (.int p10_1), (.ref a10_0), (.ref b109), (.ref b109)])) t
      refine XS.goto X109.here hx rfl (pc0 := 11) (pc' := 15) rfl (hb hby d10_11) (by decide) (by decide) ?_
      show Steps p.tables e below (T109.setTop (mkF m 15 #[.val (.ref a10_0), .val (.int p10_1)] [(.int (2 : Int32)), (.int p10_1), (.ref a10_0), (.ref b109), (.ref b109)])) t
      refine XS.iconst X109.here hx rfl (hb hby d10_15) ?_
      show Steps p.tables e below (T109.setTop (mkF m 16 #[.val (.ref a10_0), .val (.int p10_1)] [(.int (0 : Int32)), (.int (2 : Int32)), (.int p10_1), (.ref a10_0), (.ref b109), (.ref b109)])) t
      exact k
    obtain ⟨v127, _, ⟨T127, L127, k127, n127⟩, -, X127, ⟨Lc127, hQ127, l127, y127, z127⟩, st127⟩ := X109.specialBack hx (y := (⟨"com/example/topping_out/toppingout/game/Player", "<init>", "(Ljava/lang/String;ZII)V"⟩ : MethodName)) rfl hown (mvT hZ (hw _ (List.mem_of_getElem? (i := 60) rfl))) (mvT hZ (hw _ (List.mem_of_getElem? (i := 31) rfl))) (mvT hZ (hw _ (List.mem_of_getElem? (i := 32) rfl))) (by decide) (backOf (W := 1) (own_rm6 l Z a0 hw [] b109 a10_0 p10_1 (2 : Int32) (0 : Int32) .null (.int (0 : Int32)) (.int (0 : Int32)) (.int (0 : Int32)) h109 n0 Z111 A109 f112 gn_b109 f113 f114 f115) hZ (hw _ (List.mem_of_getElem? (i := 32) rfl)) (hw _ (List.mem_of_getElem? (i := 29) rfl)) (by decide) (by decide)) (g := (mkF m 16 #[.val (.ref a10_0), .val (.int p10_1)] [(.int (0 : Int32)), (.int (2 : Int32)), (.int p10_1), (.ref a10_0), (.ref b109), (.ref b109)])) rfl (by rw [hml]; rfl) (Steps.refl _) (a := b109) (argsL := [(.ref a10_0), (.int p10_1), (.int (2 : Int32)), (.int (0 : Int32))]) (rest := [(.ref b109)]) (lenOf pd__Ljava_lang_String_ZII_V rfl) rfl (by show 2 * 0 + _ ≤ _; exact Nat.le_of_eq rfl) (hb hby d10_16) (fun _ _ => ⟨rfl, e109, (by decide : 1 + 0 ≤ _), (by decide : 4 + 0 ≤ _)⟩)
    dsimp only [Pt.U, Pt.locs, Pt.cells, Pt.slots] at X127 l127 y127 z127 st127 hQ127
    subst l127 y127 z127
    obtain ⟨rfl, M127, K127, f128, f129, f130, f131, f132⟩ := hQ127
    have f133 := A109.keep K127
    have K134 : Keep h0 T127.heap [] := K110.trans K127 (allS (Or.inr sz_b109) all0)
    have Z135 := Nat.le_trans Z111 K127.1
    have N136 := Fr.app N0 M127
    refine own_via (T' := T127) (g' := (mkF m 19 #[.val (.ref a10_0), .val (.int p10_1)] [(.ref b109)])) st127 ?_
    exact own_retR X127 hx Bd.returns rfl rfl rfl (hb hby d10_19) hlk (by decide) (by decide) ⟨b109, rfl, N136, K134, sz_b109, gn_b109, f128, f129, f130, (by rw [if_neg hc116]; exact f131), f132⟩
theorem d11_0 : decode prog_6_method_3_code 0 = .ok (.new 8, 3) := by decide +kernel
theorem d11_3 : decode prog_6_method_3_code 3 = .ok (.dup, 1) := by decide +kernel
theorem d11_4 : decode prog_6_method_3_code 4 = .ok (.aload_n 0, 1) := by decide +kernel
theorem d11_5 : decode prog_6_method_3_code 5 = .ok (.getfield 7, 3) := by decide +kernel
theorem d11_8 : decode prog_6_method_3_code 8 = .ok (.aload_n 0, 1) := by decide +kernel
theorem d11_9 : decode prog_6_method_3_code 9 = .ok (.getfield 13, 3) := by decide +kernel
theorem d11_12 : decode prog_6_method_3_code 12 = .ok (.aload_n 0, 1) := by decide +kernel
theorem d11_13 : decode prog_6_method_3_code 13 = .ok (.getfield 17, 3) := by decide +kernel
theorem d11_16 : decode prog_6_method_3_code 16 = .ok (.iconst 1, 1) := by decide +kernel
theorem d11_17 : decode prog_6_method_3_code 17 = .ok (.isub, 1) := by decide +kernel
theorem d11_18 : decode prog_6_method_3_code 18 = .ok (.aload_n 0, 1) := by decide +kernel
theorem d11_19 : decode prog_6_method_3_code 19 = .ok (.getfield 21, 3) := by decide +kernel
theorem d11_22 : decode prog_6_method_3_code 22 = .ok (.invokespecial 24, 3) := by decide +kernel
theorem d11_25 : decode prog_6_method_3_code 25 = .ok (.areturn, 1) := by decide +kernel
theorem own_ef11 (m : MethodId) (x0 : Addr) : entryFrame m #[(.ref x0)] 1 = mkF m 0 #[.val (.ref x0)] [] := by first | (simp [entryFrame, mkF, argsToLocals, Value.category]; done) | rfl
def own_Q11 (Z : State) (a11_0 : Addr) (w_name_a11_0 : Addr) (w_expert_a11_0 : Int32) (w_certificates_a11_0 : Int32) (w_awards_a11_0 : Int32) (h0 : Heap) (n0 : Nat) (v : Option Value) (h : Heap) (L : List Loc) : Prop := ∃ b : Addr, v = some (.ref b) ∧ Fr n0 L ∧ Keep h0 h [] ∧ h0.size ≤ b ∧ n0 ≤ b ∧ Exa Z h b "com/example/topping_out/toppingout/game/Player" ∧ Fld Z h b "com/example/topping_out/toppingout/game/Player" "name" "Ljava/lang/String;" (.ref w_name_a11_0) ∧ Fld Z h b "com/example/topping_out/toppingout/game/Player" "expert" "Z" (.int (nar .boolean w_expert_a11_0)) ∧ Fld Z h b "com/example/topping_out/toppingout/game/Player" "certificates" "I" (.int (w_certificates_a11_0 - (1 : Int32))) ∧ Fld Z h b "com/example/topping_out/toppingout/game/Player" "awards" "I" (.int w_awards_a11_0)
set_option maxRecDepth 65536 in
set_option maxHeartbeats 40000000 in
theorem own_rm11 (l : Launch) (Z : State) (a0 : Array Value) (hw : ∀ d ∈ tables_1, d.before a0 Z = true) (ws : List Jvm.Cond) (a11_0 : Addr) (w_name_a11_0 : Addr) (w_expert_a11_0 : Int32) (w_certificates_a11_0 : Int32) (w_awards_a11_0 : Int32) (h0 : Heap) (n0 : Nat) (Z0 : n0 ≤ h0.size) (F_name_a11_0 : Fld Z h0 a11_0 "com/example/topping_out/toppingout/game/Player" "name" "Ljava/lang/String;" (.ref w_name_a11_0)) (F_expert_a11_0 : Fld Z h0 a11_0 "com/example/topping_out/toppingout/game/Player" "expert" "Z" (.int w_expert_a11_0)) (F_certificates_a11_0 : Fld Z h0 a11_0 "com/example/topping_out/toppingout/game/Player" "certificates" "I" (.int w_certificates_a11_0)) (F_awards_a11_0 : Fld Z h0 a11_0 "com/example/topping_out/toppingout/game/Player" "awards" "I" (.int w_awards_a11_0)) :
    MetFree l (⟨"com/example/topping_out/toppingout/game/Player", "lessACertificate", "()Lcom/example/topping_out/toppingout/game/Player;"⟩ : MethodName) (head1 (Jvm.Cond.code (⟨"com/example/topping_out/toppingout/game/Player", "lessACertificate", "()Lcom/example/topping_out/toppingout/game/Player;"⟩ : MethodName) prog_6_method_3_code 1 (some (.object "com/example/topping_out/toppingout/game/Player")) :: ws) ({ frames := 3, cells := 1, slots := 4, locals := 41 } : Room)) (fun a U => a = #[(.ref a11_0)] ∧ Z.Warmed39 U.vm ∧ U.heap = h0) (fun _ _ _ _ _ => True) (fun _ U o U' => ∃ v L, o = .returned v ∧ own_Q11 Z a11_0 w_name_a11_0 w_expert_a11_0 w_certificates_a11_0 w_awards_a11_0 h0 n0 v U'.heap L ∧ FrameEnd U o U' L ({ frames := 3, cells := 1, slots := 4, locals := 41 } : Room).cells ({ frames := 3, cells := 1, slots := 4, locals := 41 } : Room).slots) := by
  refine MetFree.of_bodySF (plainFor_of_name pn_com_example_topping_out_toppingout_game_Player) hisR ?_
  intro p e s m args below meth c s₁ Bd hml0 hP hK
  obtain ⟨rfl, hZ, hh⟩ := hP
  have hx := Bd.exec
  have hby := Bd.bytes
  have hlk : meth.locks = false := BodyLoose.notSynchronized Bd
  have hml : c.maxLocals = 1 := hml0
  have hown : s.vm.findClass "com/example/topping_out/toppingout/game/Player" = some m.cls := findClass_of_methodNamed Bd.named
  have hnm := (name_of_methodNamed Bd.named Bd.method).1
  have X0 : Stand p l e ({ frames := 3, cells := 1, slots := 4, locals := 41 } : Room) s m #[(.ref a11_0)] below meth c s₁ [] 0 0 := Stand.of_body Bd
  have e0 : s₁.heap = h0 := by rw [← hh, Bd.state]; rfl
  have N0 := Fr.nil n0
  show own_Go p e below (own_P s below ({ frames := 3, cells := 1, slots := 4, locals := 41 } : Room) (own_Q11 Z a11_0 w_name_a11_0 w_expert_a11_0 w_certificates_a11_0 w_awards_a11_0 h0 n0)) s₁ (entryFrame m #[(.ref a11_0)] 1)
  refine own_in (own_ef11 m a11_0) ?_
  obtain ⟨T137, h137, X137, e137, E137, A137, D137, -, st137⟩ := newO X0 hx hZ hown (hw _ (List.mem_of_getElem? (i := 59) rfl)) (hw _ (List.mem_of_getElem? (i := 28) rfl)) (hw _ (List.mem_of_getElem? (i := 29) rfl)) e0 (g := (mkF m 0 #[.val (.ref a11_0)] [])) rfl (hb hby d11_0) (by decide) (by decide)
  obtain ⟨b137, g137⟩ : ∃ z, z = h0.size := ⟨_, rfl⟩
  rw [← g137] at A137 D137 st137
  have gn_b137 : n0 ≤ b137 := Nat.le_trans Z0 (Nat.le_of_eq g137.symm)
  have sz_b137 : h0.size ≤ b137 := Nat.le_trans (Keep.refl h0 []).1 (Nat.le_of_eq g137.symm)
  have ne_a11_0_b137 : a11_0 ≠ b137 := Nat.ne_of_lt (Nat.lt_of_lt_of_le F_awards_a11_0.lt (Nat.le_of_eq g137.symm))
  have f138 := F_name_a11_0.ext E137
  have f139 := F_expert_a11_0.ext E137
  have f140 := F_certificates_a11_0.ext E137
  have f141 := F_awards_a11_0.ext E137
  have K142 : Keep h0 h137 [] := (Keep.refl h0 []).ext E137
  have Z143 := Nat.le_trans Z0 E137.1
  have f144 : Fld Z h137 b137 "com/example/topping_out/toppingout/game/Player" "name" "Ljava/lang/String;" .null := D137 (Or.inr (hw _ (List.mem_of_getElem? (i := 40) rfl))) (ty := (.object "java/lang/String")) (by decide)
  have f145 : Fld Z h137 b137 "com/example/topping_out/toppingout/game/Player" "expert" "Z" (.int (0 : Int32)) := D137 (Or.inr (hw _ (List.mem_of_getElem? (i := 42) rfl))) (ty := .boolean) (by decide)
  have f146 : Fld Z h137 b137 "com/example/topping_out/toppingout/game/Player" "certificates" "I" (.int (0 : Int32)) := D137 (Or.inr (hw _ (List.mem_of_getElem? (i := 44) rfl))) (ty := .int) (by decide)
  have f147 : Fld Z h137 b137 "com/example/topping_out/toppingout/game/Player" "awards" "I" (.int (0 : Int32)) := D137 (Or.inr (hw _ (List.mem_of_getElem? (i := 46) rfl))) (ty := .int) (by decide)
  refine own_by (T' := T137) (g' := (mkF m 3 #[.val (.ref a11_0)] [(.ref b137)])) st137 ?_
  refine own_by (T' := T137) (g' := (mkF m 5 #[.val (.ref a11_0)] [(.ref a11_0), (.ref b137), (.ref b137)])) (fun t k => ?_) ?_
  · show Steps p.tables e below (T137.setTop (mkF m 3 #[.val (.ref a11_0)] [(.ref b137)])) t
    refine XS.dup X137.here hx rfl (hb hby d11_3) rfl rfl ?_
    show Steps p.tables e below (T137.setTop (mkF m 4 #[.val (.ref a11_0)] [(.ref b137), (.ref b137)])) t
    refine XS.aloadN X137.here hx rfl (hb hby d11_4) rfl rfl ?_
    show Steps p.tables e below (T137.setTop (mkF m 5 #[.val (.ref a11_0)] [(.ref a11_0), (.ref b137), (.ref b137)])) t
    exact k
  obtain ⟨T148, X148, e148, st148⟩ := getF X137 hx hZ hown (host := "") (Or.inl (hw _ (List.mem_of_getElem? (i := 39) rfl))) Via.refl e137 f138 (g := (mkF m 5 #[.val (.ref a11_0)] [(.ref a11_0), (.ref b137), (.ref b137)])) rfl rfl (hb hby d11_5)
  refine own_by (T' := T148) (g' := (mkF m 8 #[.val (.ref a11_0)] [(.ref w_name_a11_0), (.ref b137), (.ref b137)])) st148 ?_
  refine own_by (T' := T148) (g' := (mkF m 9 #[.val (.ref a11_0)] [(.ref a11_0), (.ref w_name_a11_0), (.ref b137), (.ref b137)])) (fun t k => ?_) ?_
  · show Steps p.tables e below (T148.setTop (mkF m 8 #[.val (.ref a11_0)] [(.ref w_name_a11_0), (.ref b137), (.ref b137)])) t
    refine XS.aloadN X148.here hx rfl (hb hby d11_8) rfl rfl ?_
    show Steps p.tables e below (T148.setTop (mkF m 9 #[.val (.ref a11_0)] [(.ref a11_0), (.ref w_name_a11_0), (.ref b137), (.ref b137)])) t
    exact k
  obtain ⟨T149, X149, e149, st149⟩ := getF X148 hx hZ hown (host := "") (Or.inl (hw _ (List.mem_of_getElem? (i := 41) rfl))) Via.refl e148 f139 (g := (mkF m 9 #[.val (.ref a11_0)] [(.ref a11_0), (.ref w_name_a11_0), (.ref b137), (.ref b137)])) rfl rfl (hb hby d11_9)
  refine own_by (T' := T149) (g' := (mkF m 12 #[.val (.ref a11_0)] [(.int w_expert_a11_0), (.ref w_name_a11_0), (.ref b137), (.ref b137)])) st149 ?_
  refine own_by (T' := T149) (g' := (mkF m 13 #[.val (.ref a11_0)] [(.ref a11_0), (.int w_expert_a11_0), (.ref w_name_a11_0), (.ref b137), (.ref b137)])) (fun t k => ?_) ?_
  · show Steps p.tables e below (T149.setTop (mkF m 12 #[.val (.ref a11_0)] [(.int w_expert_a11_0), (.ref w_name_a11_0), (.ref b137), (.ref b137)])) t
    refine XS.aloadN X149.here hx rfl (hb hby d11_12) rfl rfl ?_
    show Steps p.tables e below (T149.setTop (mkF m 13 #[.val (.ref a11_0)] [(.ref a11_0), (.int w_expert_a11_0), (.ref w_name_a11_0), (.ref b137), (.ref b137)])) t
    exact k
  obtain ⟨T150, X150, e150, st150⟩ := getF X149 hx hZ hown (host := "") (Or.inl (hw _ (List.mem_of_getElem? (i := 43) rfl))) Via.refl e149 f140 (g := (mkF m 13 #[.val (.ref a11_0)] [(.ref a11_0), (.int w_expert_a11_0), (.ref w_name_a11_0), (.ref b137), (.ref b137)])) rfl rfl (hb hby d11_13)
  refine own_by (T' := T150) (g' := (mkF m 16 #[.val (.ref a11_0)] [(.int w_certificates_a11_0), (.int w_expert_a11_0), (.ref w_name_a11_0), (.ref b137), (.ref b137)])) st150 ?_
  refine own_by (T' := T150) (g' := (mkF m 19 #[.val (.ref a11_0)] [(.ref a11_0), (.int (w_certificates_a11_0 - (1 : Int32))), (.int w_expert_a11_0), (.ref w_name_a11_0), (.ref b137), (.ref b137)])) (fun t k => ?_) ?_
  · show Steps p.tables e below (T150.setTop (mkF m 16 #[.val (.ref a11_0)] [(.int w_certificates_a11_0), (.int w_expert_a11_0), (.ref w_name_a11_0), (.ref b137), (.ref b137)])) t
    refine XS.iconst X150.here hx rfl (hb hby d11_16) ?_
    show Steps p.tables e below (T150.setTop (mkF m 17 #[.val (.ref a11_0)] [(.int (1 : Int32)), (.int w_certificates_a11_0), (.int w_expert_a11_0), (.ref w_name_a11_0), (.ref b137), (.ref b137)])) t
    refine XS.isub X150.here hx rfl (hb hby d11_17) rfl ?_
    show Steps p.tables e below (T150.setTop (mkF m 18 #[.val (.ref a11_0)] [(.int (w_certificates_a11_0 - (1 : Int32))), (.int w_expert_a11_0), (.ref w_name_a11_0), (.ref b137), (.ref b137)])) t
    refine XS.aloadN X150.here hx rfl (hb hby d11_18) rfl rfl ?_
    show Steps p.tables e below (T150.setTop (mkF m 19 #[.val (.ref a11_0)] [(.ref a11_0), (.int (w_certificates_a11_0 - (1 : Int32))), (.int w_expert_a11_0), (.ref w_name_a11_0), (.ref b137), (.ref b137)])) t
    exact k
  obtain ⟨T151, X151, e151, st151⟩ := getF X150 hx hZ hown (host := "") (Or.inl (hw _ (List.mem_of_getElem? (i := 45) rfl))) Via.refl e150 f141 (g := (mkF m 19 #[.val (.ref a11_0)] [(.ref a11_0), (.int (w_certificates_a11_0 - (1 : Int32))), (.int w_expert_a11_0), (.ref w_name_a11_0), (.ref b137), (.ref b137)])) rfl rfl (hb hby d11_19)
  refine own_by (T' := T151) (g' := (mkF m 22 #[.val (.ref a11_0)] [(.int w_awards_a11_0), (.int (w_certificates_a11_0 - (1 : Int32))), (.int w_expert_a11_0), (.ref w_name_a11_0), (.ref b137), (.ref b137)])) st151 ?_
  obtain ⟨v152, _, ⟨T152, L152, k152, n152⟩, -, X152, ⟨Lc152, hQ152, l152, y152, z152⟩, st152⟩ := X151.specialBack hx (y := (⟨"com/example/topping_out/toppingout/game/Player", "<init>", "(Ljava/lang/String;ZII)V"⟩ : MethodName)) rfl hown (mvT hZ (hw _ (List.mem_of_getElem? (i := 60) rfl))) (mvT hZ (hw _ (List.mem_of_getElem? (i := 31) rfl))) (mvT hZ (hw _ (List.mem_of_getElem? (i := 32) rfl))) (by decide) (backOf (W := 1) (own_rm6 l Z a0 hw [] b137 w_name_a11_0 w_expert_a11_0 (w_certificates_a11_0 - (1 : Int32)) w_awards_a11_0 .null (.int (0 : Int32)) (.int (0 : Int32)) (.int (0 : Int32)) h137 n0 Z143 A137 f144 gn_b137 f145 f146 f147) hZ (hw _ (List.mem_of_getElem? (i := 32) rfl)) (hw _ (List.mem_of_getElem? (i := 29) rfl)) (by decide) (by decide)) (g := (mkF m 22 #[.val (.ref a11_0)] [(.int w_awards_a11_0), (.int (w_certificates_a11_0 - (1 : Int32))), (.int w_expert_a11_0), (.ref w_name_a11_0), (.ref b137), (.ref b137)])) rfl (by rw [hml]; rfl) (Steps.refl _) (a := b137) (argsL := [(.ref w_name_a11_0), (.int w_expert_a11_0), (.int (w_certificates_a11_0 - (1 : Int32))), (.int w_awards_a11_0)]) (rest := [(.ref b137)]) (lenOf pd__Ljava_lang_String_ZII_V rfl) rfl (by show 2 * 0 + _ ≤ _; exact Nat.le_of_eq rfl) (hb hby d11_22) (fun _ _ => ⟨rfl, e151, (by decide : 1 + 0 ≤ _), (by decide : 4 + 0 ≤ _)⟩)
  dsimp only [Pt.U, Pt.locs, Pt.cells, Pt.slots] at X152 l152 y152 z152 st152 hQ152
  subst l152 y152 z152
  obtain ⟨rfl, M152, K152, f153, f154, f155, f156, f157⟩ := hQ152
  have f158 := f138.keep K152 (ninS ne_a11_0_b137 nin0)
  have f159 := f139.keep K152 (ninS ne_a11_0_b137 nin0)
  have f160 := f140.keep K152 (ninS ne_a11_0_b137 nin0)
  have f161 := f141.keep K152 (ninS ne_a11_0_b137 nin0)
  have f162 := A137.keep K152
  have K163 : Keep h0 T152.heap [] := K142.trans K152 (allS (Or.inr sz_b137) all0)
  have Z164 := Nat.le_trans Z143 K152.1
  have N165 := Fr.app N0 M152
  refine own_via (T' := T152) (g' := (mkF m 25 #[.val (.ref a11_0)] [(.ref b137)])) st152 ?_
  exact own_retR X152 hx Bd.returns rfl rfl rfl (hb hby d11_25) hlk (by decide) (by decide) ⟨b137, rfl, N165, K163, sz_b137, gn_b137, f153, f154, f155, f156, f157⟩
theorem pd__C_Ljava_lang_String_ : parseMethodDescriptor "(C)Ljava/lang/String;" = some ⟨[.char], some (.object "java/lang/String")⟩ := by decide +kernel
theorem pd___Z : parseMethodDescriptor "()Z" = some ⟨[], some .boolean⟩ := by decide +kernel
theorem pd__II_I : parseMethodDescriptor "(II)I" = some ⟨[.int, .int], some .int⟩ := by decide +kernel
theorem pd__Ljava_lang_String_Z_Lcom_example_topping_out_toppingout_game_Player_ : parseMethodDescriptor "(Ljava/lang/String;Z)Lcom/example/topping_out/toppingout/game/Player;" = some ⟨[(.object "java/lang/String"), .boolean], some (.object "com/example/topping_out/toppingout/game/Player")⟩ := by decide +kernel
theorem pd___Lcom_example_topping_out_toppingout_game_Player_ : parseMethodDescriptor "()Lcom/example/topping_out/toppingout/game/Player;" = some ⟨[], some (.object "com/example/topping_out/toppingout/game/Player")⟩ := by decide +kernel
theorem pn_com_example_topping_out_toppingout_game_PlayerOutPinLaw : plainName "com/example/topping_out/toppingout/game/PlayerOutPinLaw" = true := by first | (simp [plainName, overriddenIn]; done) | decide +kernel
def own_F0_167_6 (p0_0 : Int32) (p0_1 : Int32) (p0_2 : Int32) (p0_3 : Int32) (p0_4 : Int32) (i167 : Int32) (i202 : Int32) (i205 : Int32) (i208 : Int32) (i235 : Int32) (i238 : Int32) : Int32 := (if i205 = (0 : Int32) then (0 : Int32) else (if i238 = (0 : Int32) then (0 : Int32) else (1 : Int32)))
def own_F0_159_5 (p0_0 : Int32) (p0_1 : Int32) (p0_2 : Int32) (p0_3 : Int32) (p0_4 : Int32) (i167 : Int32) (i202 : Int32) (i205 : Int32) (i208 : Int32) (i235 : Int32) : Int32 := (if (own_F8 (if i167 = (0 : Int32) then (3 : Int32) else (2 : Int32))) = i235 then (own_F0_167_6 p0_0 p0_1 p0_2 p0_3 p0_4 i167 i202 i205 i208 i235 (1 : Int32)) else (own_F0_167_6 p0_0 p0_1 p0_2 p0_3 p0_4 i167 i202 i205 i208 i235 (0 : Int32)))
def own_F0_167_8 (p0_0 : Int32) (p0_1 : Int32) (p0_2 : Int32) (p0_3 : Int32) (p0_4 : Int32) (i167 : Int32) (i202 : Int32) (i205 : Int32) (i208 : Int32) (i268 : Int32) (i271 : Int32) : Int32 := (if i205 = (0 : Int32) then (0 : Int32) else (if i271 = (0 : Int32) then (0 : Int32) else (1 : Int32)))
def own_F0_159_7 (p0_0 : Int32) (p0_1 : Int32) (p0_2 : Int32) (p0_3 : Int32) (p0_4 : Int32) (i167 : Int32) (i202 : Int32) (i205 : Int32) (i208 : Int32) (i268 : Int32) : Int32 := (if (own_F8 ((if i167 = (0 : Int32) then (3 : Int32) else (2 : Int32)) - (1 : Int32))) = i268 then (own_F0_167_8 p0_0 p0_1 p0_2 p0_3 p0_4 i167 i202 i205 i208 i268 (1 : Int32)) else (own_F0_167_8 p0_0 p0_1 p0_2 p0_3 p0_4 i167 i202 i205 i208 i268 (0 : Int32)))
def own_F0_167_10 (p0_0 : Int32) (p0_1 : Int32) (p0_2 : Int32) (p0_3 : Int32) (p0_4 : Int32) (i167 : Int32) (i202 : Int32) (i205 : Int32) (i208 : Int32) (i302 : Int32) (i305 : Int32) : Int32 := (if i205 = (0 : Int32) then (0 : Int32) else (if i305 = (0 : Int32) then (0 : Int32) else (1 : Int32)))
def own_F0_159_9 (p0_0 : Int32) (p0_1 : Int32) (p0_2 : Int32) (p0_3 : Int32) (p0_4 : Int32) (i167 : Int32) (i202 : Int32) (i205 : Int32) (i208 : Int32) (i302 : Int32) : Int32 := (if (own_F8 ((if i167 = (0 : Int32) then (3 : Int32) else (2 : Int32)) - (1 : Int32))) = i302 then (own_F0_167_10 p0_0 p0_1 p0_2 p0_3 p0_4 i167 i202 i205 i208 i302 (1 : Int32)) else (own_F0_167_10 p0_0 p0_1 p0_2 p0_3 p0_4 i167 i202 i205 i208 i302 (0 : Int32)))
def own_F0_167_12 (p0_0 : Int32) (p0_1 : Int32) (p0_2 : Int32) (p0_3 : Int32) (p0_4 : Int32) (i167 : Int32) (i202 : Int32) (i205 : Int32) (i208 : Int32) (i340 : Int32) (i343 : Int32) : Int32 := (if i205 = (0 : Int32) then (0 : Int32) else (if i343 = (0 : Int32) then (0 : Int32) else (1 : Int32)))
def own_F0_159_11 (p0_0 : Int32) (p0_1 : Int32) (p0_2 : Int32) (p0_3 : Int32) (p0_4 : Int32) (i167 : Int32) (i202 : Int32) (i205 : Int32) (i208 : Int32) (i340 : Int32) : Int32 := (if (own_F8 (((if i167 = (0 : Int32) then (3 : Int32) else (2 : Int32)) - (1 : Int32)) - (1 : Int32))) = i340 then (own_F0_167_12 p0_0 p0_1 p0_2 p0_3 p0_4 i167 i202 i205 i208 i340 (1 : Int32)) else (own_F0_167_12 p0_0 p0_1 p0_2 p0_3 p0_4 i167 i202 i205 i208 i340 (0 : Int32)))
def own_F0_167_14 (p0_0 : Int32) (p0_1 : Int32) (p0_2 : Int32) (p0_3 : Int32) (p0_4 : Int32) (i167 : Int32) (i202 : Int32) (i205 : Int32) (i208 : Int32) (i375 : Int32) (i378 : Int32) : Int32 := (if i205 = (0 : Int32) then (0 : Int32) else (if i378 = (0 : Int32) then (0 : Int32) else (1 : Int32)))
def own_F0_159_13 (p0_0 : Int32) (p0_1 : Int32) (p0_2 : Int32) (p0_3 : Int32) (p0_4 : Int32) (i167 : Int32) (i202 : Int32) (i205 : Int32) (i208 : Int32) (i375 : Int32) : Int32 := (if (own_F8 ((if i167 = (0 : Int32) then (3 : Int32) else (2 : Int32)) - (1 : Int32))) = i375 then (own_F0_167_14 p0_0 p0_1 p0_2 p0_3 p0_4 i167 i202 i205 i208 i375 (1 : Int32)) else (own_F0_167_14 p0_0 p0_1 p0_2 p0_3 p0_4 i167 i202 i205 i208 i375 (0 : Int32)))
def own_F0_167_16 (p0_0 : Int32) (p0_1 : Int32) (p0_2 : Int32) (p0_3 : Int32) (p0_4 : Int32) (i167 : Int32) (i202 : Int32) (i205 : Int32) (i208 : Int32) (i413 : Int32) (i416 : Int32) : Int32 := (if i205 = (0 : Int32) then (0 : Int32) else (if i416 = (0 : Int32) then (0 : Int32) else (1 : Int32)))
def own_F0_159_15 (p0_0 : Int32) (p0_1 : Int32) (p0_2 : Int32) (p0_3 : Int32) (p0_4 : Int32) (i167 : Int32) (i202 : Int32) (i205 : Int32) (i208 : Int32) (i413 : Int32) : Int32 := (if (own_F8 (((if i167 = (0 : Int32) then (3 : Int32) else (2 : Int32)) - (1 : Int32)) - (1 : Int32))) = i413 then (own_F0_167_16 p0_0 p0_1 p0_2 p0_3 p0_4 i167 i202 i205 i208 i413 (1 : Int32)) else (own_F0_167_16 p0_0 p0_1 p0_2 p0_3 p0_4 i167 i202 i205 i208 i413 (0 : Int32)))
def own_F0_167_18 (p0_0 : Int32) (p0_1 : Int32) (p0_2 : Int32) (p0_3 : Int32) (p0_4 : Int32) (i167 : Int32) (i202 : Int32) (i205 : Int32) (i208 : Int32) (i452 : Int32) (i455 : Int32) : Int32 := (if i205 = (0 : Int32) then (0 : Int32) else (if i455 = (0 : Int32) then (0 : Int32) else (1 : Int32)))
def own_F0_159_17 (p0_0 : Int32) (p0_1 : Int32) (p0_2 : Int32) (p0_3 : Int32) (p0_4 : Int32) (i167 : Int32) (i202 : Int32) (i205 : Int32) (i208 : Int32) (i452 : Int32) : Int32 := (if (own_F8 (((if i167 = (0 : Int32) then (3 : Int32) else (2 : Int32)) - (1 : Int32)) - (1 : Int32))) = i452 then (own_F0_167_18 p0_0 p0_1 p0_2 p0_3 p0_4 i167 i202 i205 i208 i452 (1 : Int32)) else (own_F0_167_18 p0_0 p0_1 p0_2 p0_3 p0_4 i167 i202 i205 i208 i452 (0 : Int32)))
def own_F0_167_20 (p0_0 : Int32) (p0_1 : Int32) (p0_2 : Int32) (p0_3 : Int32) (p0_4 : Int32) (i167 : Int32) (i202 : Int32) (i205 : Int32) (i208 : Int32) (i495 : Int32) (i498 : Int32) : Int32 := (if i205 = (0 : Int32) then (0 : Int32) else (if i498 = (0 : Int32) then (0 : Int32) else (1 : Int32)))
def own_F0_159_19 (p0_0 : Int32) (p0_1 : Int32) (p0_2 : Int32) (p0_3 : Int32) (p0_4 : Int32) (i167 : Int32) (i202 : Int32) (i205 : Int32) (i208 : Int32) (i495 : Int32) : Int32 := (if (own_F8 ((((if i167 = (0 : Int32) then (3 : Int32) else (2 : Int32)) - (1 : Int32)) - (1 : Int32)) - (1 : Int32))) = i495 then (own_F0_167_20 p0_0 p0_1 p0_2 p0_3 p0_4 i167 i202 i205 i208 i495 (1 : Int32)) else (own_F0_167_20 p0_0 p0_1 p0_2 p0_3 p0_4 i167 i202 i205 i208 i495 (0 : Int32)))
def own_F0_81_4 (p0_0 : Int32) (p0_1 : Int32) (p0_2 : Int32) (p0_3 : Int32) (p0_4 : Int32) (i167 : Int32) (i202 : Int32) (i205 : Int32) (i208 : Int32) : Int32 := (if (own_F9 (p0_4 &&& (3 : Int32)) i208) < (1 : Int32) then (if (own_F9 (p0_4 &&& (3 : Int32)) i208) < (2 : Int32) then (if (own_F9 (p0_4 &&& (3 : Int32)) i208) < (3 : Int32) then (if (own_F9 (p0_4 &&& (3 : Int32)) i208) = i208 then (own_F0_159_5 p0_0 p0_1 p0_2 p0_3 p0_4 i167 i202 i205 i208 (1 : Int32)) else (own_F0_159_5 p0_0 p0_1 p0_2 p0_3 p0_4 i167 i202 i205 i208 (0 : Int32))) else (if (own_F9 (p0_4 &&& (3 : Int32)) i208) = i208 then (own_F0_159_7 p0_0 p0_1 p0_2 p0_3 p0_4 i167 i202 i205 i208 (1 : Int32)) else (own_F0_159_7 p0_0 p0_1 p0_2 p0_3 p0_4 i167 i202 i205 i208 (0 : Int32)))) else (if (own_F9 (p0_4 &&& (3 : Int32)) i208) < (3 : Int32) then (if (own_F9 (p0_4 &&& (3 : Int32)) i208) = i208 then (own_F0_159_9 p0_0 p0_1 p0_2 p0_3 p0_4 i167 i202 i205 i208 (1 : Int32)) else (own_F0_159_9 p0_0 p0_1 p0_2 p0_3 p0_4 i167 i202 i205 i208 (0 : Int32))) else (if (own_F9 (p0_4 &&& (3 : Int32)) i208) = i208 then (own_F0_159_11 p0_0 p0_1 p0_2 p0_3 p0_4 i167 i202 i205 i208 (1 : Int32)) else (own_F0_159_11 p0_0 p0_1 p0_2 p0_3 p0_4 i167 i202 i205 i208 (0 : Int32))))) else (if (own_F9 (p0_4 &&& (3 : Int32)) i208) < (2 : Int32) then (if (own_F9 (p0_4 &&& (3 : Int32)) i208) < (3 : Int32) then (if (own_F9 (p0_4 &&& (3 : Int32)) i208) = i208 then (own_F0_159_13 p0_0 p0_1 p0_2 p0_3 p0_4 i167 i202 i205 i208 (1 : Int32)) else (own_F0_159_13 p0_0 p0_1 p0_2 p0_3 p0_4 i167 i202 i205 i208 (0 : Int32))) else (if (own_F9 (p0_4 &&& (3 : Int32)) i208) = i208 then (own_F0_159_15 p0_0 p0_1 p0_2 p0_3 p0_4 i167 i202 i205 i208 (1 : Int32)) else (own_F0_159_15 p0_0 p0_1 p0_2 p0_3 p0_4 i167 i202 i205 i208 (0 : Int32)))) else (if (own_F9 (p0_4 &&& (3 : Int32)) i208) < (3 : Int32) then (if (own_F9 (p0_4 &&& (3 : Int32)) i208) = i208 then (own_F0_159_17 p0_0 p0_1 p0_2 p0_3 p0_4 i167 i202 i205 i208 (1 : Int32)) else (own_F0_159_17 p0_0 p0_1 p0_2 p0_3 p0_4 i167 i202 i205 i208 (0 : Int32))) else (if (own_F9 (p0_4 &&& (3 : Int32)) i208) = i208 then (own_F0_159_19 p0_0 p0_1 p0_2 p0_3 p0_4 i167 i202 i205 i208 (1 : Int32)) else (own_F0_159_19 p0_0 p0_1 p0_2 p0_3 p0_4 i167 i202 i205 i208 (0 : Int32))))))
def own_F0_69_3 (p0_0 : Int32) (p0_1 : Int32) (p0_2 : Int32) (p0_3 : Int32) (p0_4 : Int32) (i167 : Int32) (i202 : Int32) (i205 : Int32) : Int32 := (if i167 = (0 : Int32) then (own_F0_81_4 p0_0 p0_1 p0_2 p0_3 p0_4 i167 i202 i205 (3 : Int32)) else (own_F0_81_4 p0_0 p0_1 p0_2 p0_3 p0_4 i167 i202 i205 (2 : Int32)))
def own_F0_61_2 (p0_0 : Int32) (p0_1 : Int32) (p0_2 : Int32) (p0_3 : Int32) (p0_4 : Int32) (i167 : Int32) (i202 : Int32) : Int32 := (if (own_F8 (p0_2 &&& (2147483647 : Int32))) = i202 then (own_F0_69_3 p0_0 p0_1 p0_2 p0_3 p0_4 i167 i202 (1 : Int32)) else (own_F0_69_3 p0_0 p0_1 p0_2 p0_3 p0_4 i167 i202 (0 : Int32)))
def own_F0_11_1 (p0_0 : Int32) (p0_1 : Int32) (p0_2 : Int32) (p0_3 : Int32) (p0_4 : Int32) (i167 : Int32) : Int32 := (if (p0_2 &&& (2147483647 : Int32)) = (0 : Int32) then (own_F0_61_2 p0_0 p0_1 p0_2 p0_3 p0_4 i167 (1 : Int32)) else (own_F0_61_2 p0_0 p0_1 p0_2 p0_3 p0_4 i167 (0 : Int32)))
def own_F0 (p0_0 : Int32) (p0_1 : Int32) (p0_2 : Int32) (p0_3 : Int32) (p0_4 : Int32) : Int32 := (if (p0_1 &&& (1 : Int32)) = (0 : Int32) then (own_F0_11_1 p0_0 p0_1 p0_2 p0_3 p0_4 (0 : Int32)) else (own_F0_11_1 p0_0 p0_1 p0_2 p0_3 p0_4 (1 : Int32)))
theorem own_ef0 (m : MethodId) (x0 : Int32) (x1 : Int32) (x2 : Int32) (x3 : Int32) (x4 : Int32) : entryFrame m #[(.int x0), (.int x1), (.int x2), (.int x3), (.int x4)] maxLocals = mkF m 0 #[.val (.int x0), .val (.int x1), .val (.int x2), .val (.int x3), .val (.int x4), .unset, .unset, .unset, .unset, .unset, .unset, .unset, .unset, .unset] [] := by first | (simp [entryFrame, mkF, argsToLocals, Value.category, maxLocals]; done) | rfl
def own_Q0 (r : Int32) (h0 : Heap) (n0 : Nat) (v : Option Value) (h : Heap) (L : List Loc) : Prop := v = some (.int r) ∧ Fr n0 L
set_option maxRecDepth 65536 in
set_option maxHeartbeats 40000000 in
theorem own_rm0 (l : Launch) (Z : State) (a0 : Array Value) (hw : ∀ d ∈ tables_1, d.before a0 Z = true) (ws : List Jvm.Cond) (p0_0 : Int32) (p0_1 : Int32) (p0_2 : Int32) (p0_3 : Int32) (p0_4 : Int32) (cs : Int32) (h0 : Heap) (n0 : Nat) (Z0 : n0 ≤ h0.size) (O0 : Old Z n0 h0) (SC : Sta Z Z.heap "java/lang/String" "COMPACT_STRINGS" "Z" (.int cs)) (HCS : ¬ (cs = (0 : Int32))) :
    MetFree l x (head1 (Jvm.Cond.code x code maxLocals ret :: ws) room_1) (fun a U => a = #[(.int p0_0), (.int p0_1), (.int p0_2), (.int p0_3), (.int p0_4)] ∧ Z.Warmed39 U.vm ∧ U.heap = h0) (fun _ _ _ _ _ => True) (fun _ U o U' => ∃ v L, o = .returned v ∧ own_Q0 (own_F0 p0_0 p0_1 p0_2 p0_3 p0_4) h0 n0 v U'.heap L ∧ FrameEnd U o U' L room_1.cells room_1.slots) := by
  refine MetFree.of_bodySF (plainFor_of_name pn_com_example_topping_out_toppingout_game_PlayerOutPinLaw) hisR ?_
  intro p e s m args below meth c s₁ Bd hml0 hP hK
  obtain ⟨rfl, hZ, hh⟩ := hP
  have hx := Bd.exec
  have hby := Bd.bytes
  have hlk : meth.locks = false := BodyLoose.notSynchronized Bd
  have hml : c.maxLocals = 14 := hml0
  have hown : s.vm.findClass "com/example/topping_out/toppingout/game/PlayerOutPinLaw" = some m.cls := findClass_of_methodNamed Bd.named
  have hnm := (name_of_methodNamed Bd.named Bd.method).1
  have X0 : Stand p l e room_1 s m #[(.int p0_0), (.int p0_1), (.int p0_2), (.int p0_3), (.int p0_4)] below meth c s₁ [] 0 0 := Stand.of_body Bd
  have e0 : s₁.heap = h0 := by rw [← hh, Bd.state]; rfl
  have N0 := Fr.nil n0
  show own_Go p e below (own_P s below room_1 (own_Q0 (own_F0 p0_0 p0_1 p0_2 p0_3 p0_4) h0 n0)) s₁ (entryFrame m #[(.int p0_0), (.int p0_1), (.int p0_2), (.int p0_3), (.int p0_4)] maxLocals)
  refine own_in (own_ef0 m p0_0 p0_1 p0_2 p0_3 p0_4) ?_
  refine own_by (T' := s₁) (g' := (mkF m 3 #[.val (.int p0_0), .val (.int p0_1), .val (.int p0_2), .val (.int p0_3), .val (.int p0_4), .unset, .unset, .unset, .unset, .unset, .unset, .unset, .unset, .unset] [(.int (p0_1 &&& (1 : Int32)))])) (fun t k => ?_) ?_
  · show Steps p.tables e below (s₁.setTop (mkF m 0 #[.val (.int p0_0), .val (.int p0_1), .val (.int p0_2), .val (.int p0_3), .val (.int p0_4), .unset, .unset, .unset, .unset, .unset, .unset, .unset, .unset, .unset] [])) t
    refine XS.iloadN X0.here hx rfl (hb hby at_0) rfl ?_
    show Steps p.tables e below (s₁.setTop (mkF m 1 #[.val (.int p0_0), .val (.int p0_1), .val (.int p0_2), .val (.int p0_3), .val (.int p0_4), .unset, .unset, .unset, .unset, .unset, .unset, .unset, .unset, .unset] [(.int p0_1)])) t
    refine XS.iconst X0.here hx rfl (hb hby at_1) ?_
    show Steps p.tables e below (s₁.setTop (mkF m 2 #[.val (.int p0_0), .val (.int p0_1), .val (.int p0_2), .val (.int p0_3), .val (.int p0_4), .unset, .unset, .unset, .unset, .unset, .unset, .unset, .unset, .unset] [(.int (1 : Int32)), (.int p0_1)])) t
    refine XS.iand X0.here hx rfl (hb hby at_2) rfl ?_
    show Steps p.tables e below (s₁.setTop (mkF m 3 #[.val (.int p0_0), .val (.int p0_1), .val (.int p0_2), .val (.int p0_3), .val (.int p0_4), .unset, .unset, .unset, .unset, .unset, .unset, .unset, .unset, .unset] [(.int (p0_1 &&& (1 : Int32)))])) t
    exact k
  have J0_1 : ∀ (T168 : State) (L168 : List Loc) (i167 : Int32), Stand p l e room_1 s m #[(.int p0_0), (.int p0_1), (.int p0_2), (.int p0_3), (.int p0_4)] below meth c T168 L168 0 0 → T168.heap = h0 → Fr n0 L168 → own_Go p e below (own_P s below room_1 (own_Q0 (own_F0_11_1 p0_0 p0_1 p0_2 p0_3 p0_4 i167) h0 n0)) T168 (mkF m 11 #[.val (.int p0_0), .val (.int p0_1), .val (.int p0_2), .val (.int p0_3), .val (.int p0_4), .unset, .unset, .unset, .unset, .unset, .unset, .unset, .unset, .unset] [(.int i167)]) := by
    intro T168 L168 i167 X168 e168 N168
    refine own_by (T' := T168) (g' := (mkF m 19 #[.val (.int p0_0), .val (.int p0_1), .val (.int p0_2), .val (.int p0_3), .val (.int p0_4), .val (.int i167), .unset, .unset, .unset, .unset, .unset, .unset, .unset, .unset] [(.int ((p0_0 &&& (255 : Int32)).toUInt32.toUInt16.toUInt32.toInt32))])) (fun t k => ?_) ?_
    · show Steps p.tables e below (T168.setTop (mkF m 11 #[.val (.int p0_0), .val (.int p0_1), .val (.int p0_2), .val (.int p0_3), .val (.int p0_4), .unset, .unset, .unset, .unset, .unset, .unset, .unset, .unset, .unset] [(.int i167)])) t
      refine XS.istore X168.here hx rfl (hb hby at_11) rfl (l' := #[.val (.int p0_0), .val (.int p0_1), .val (.int p0_2), .val (.int p0_3), .val (.int p0_4), .val (.int i167), .unset, .unset, .unset, .unset, .unset, .unset, .unset, .unset]) rfl ?_
      show Steps p.tables e below (T168.setTop (mkF m 13 #[.val (.int p0_0), .val (.int p0_1), .val (.int p0_2), .val (.int p0_3), .val (.int p0_4), .val (.int i167), .unset, .unset, .unset, .unset, .unset, .unset, .unset, .unset] [])) t
      refine XS.iloadN X168.here hx rfl (hb hby at_13) rfl ?_
      show Steps p.tables e below (T168.setTop (mkF m 14 #[.val (.int p0_0), .val (.int p0_1), .val (.int p0_2), .val (.int p0_3), .val (.int p0_4), .val (.int i167), .unset, .unset, .unset, .unset, .unset, .unset, .unset, .unset] [(.int p0_0)])) t
      refine XS.sipush X168.here hx rfl (hb hby at_14) ?_
      show Steps p.tables e below (T168.setTop (mkF m 17 #[.val (.int p0_0), .val (.int p0_1), .val (.int p0_2), .val (.int p0_3), .val (.int p0_4), .val (.int i167), .unset, .unset, .unset, .unset, .unset, .unset, .unset, .unset] [(.int (255 : Int32)), (.int p0_0)])) t
      refine XS.iand X168.here hx rfl (hb hby at_17) rfl ?_
      show Steps p.tables e below (T168.setTop (mkF m 18 #[.val (.int p0_0), .val (.int p0_1), .val (.int p0_2), .val (.int p0_3), .val (.int p0_4), .val (.int i167), .unset, .unset, .unset, .unset, .unset, .unset, .unset, .unset] [(.int (p0_0 &&& (255 : Int32)))])) t
      refine XS.i2c X168.here hx rfl (hb hby at_18) rfl ?_
      show Steps p.tables e below (T168.setTop (mkF m 19 #[.val (.int p0_0), .val (.int p0_1), .val (.int p0_2), .val (.int p0_3), .val (.int p0_4), .val (.int i167), .unset, .unset, .unset, .unset, .unset, .unset, .unset, .unset] [(.int ((p0_0 &&& (255 : Int32)).toUInt32.toUInt16.toUInt32.toInt32))])) t
      exact k
    obtain ⟨v169, _, ⟨T169, L169, k169, n169⟩, -, X169, ⟨Lc169, hQ169, l169, y169, z169⟩, st169⟩ := Jvm.LawKit.callS X168 hx (y := (⟨"java/lang/String", "valueOf", "(C)Ljava/lang/String;"⟩ : MethodName)) hown (mvT hZ (hw _ (List.mem_of_getElem? (i := 0) rfl))) (mvT hZ (hw _ (List.mem_of_getElem? (i := 1) rfl))) (mvT hZ (hw _ (List.mem_of_getElem? (i := 2) rfl))) (mvT hZ (hw _ (List.mem_of_getElem? (i := 3) rfl))) (by decide) (backOf (W := 0) (own_rm1 l Z a0 hw [] ((p0_0 &&& (255 : Int32)).toUInt32.toUInt16.toUInt32.toInt32) cs h0 n0 Z0 O0 (own_enc p0_0) SC HCS) hZ (hw _ (List.mem_of_getElem? (i := 3) rfl)) (hw _ (List.mem_of_getElem? (i := 2) rfl)) (by decide) (by decide)) (g := (mkF m 19 #[.val (.int p0_0), .val (.int p0_1), .val (.int p0_2), .val (.int p0_3), .val (.int p0_4), .val (.int i167), .unset, .unset, .unset, .unset, .unset, .unset, .unset, .unset] [(.int ((p0_0 &&& (255 : Int32)).toUInt32.toUInt16.toUInt32.toInt32))])) rfl (by rw [hml]; rfl) (argsL := [(.int ((p0_0 &&& (255 : Int32)).toUInt32.toUInt16.toUInt32.toInt32))]) (rest := []) (lenOf pd__C_Ljava_lang_String_ rfl) rfl (by show 2 * 0 + _ ≤ _; exact Nat.le_of_eq rfl) (hb hby at_19) (fun _ _ => ⟨rfl, e168, (by decide : 0 + 2 ≤ _), (by decide : 0 + 5 ≤ _)⟩)
    dsimp only [Pt.U, Pt.locs, Pt.cells, Pt.slots] at X169 l169 y169 z169 st169 hQ169
    subst l169 y169 z169
    obtain ⟨b169, rfl, M169, K169, sz169, gn169, f170, f171⟩ := hQ169
    have K172 : Keep h0 T169.heap [] := (Keep.refl h0 []).trans K169 all0
    have O173 := O0.keep K169 all0
    have Z174 := Nat.le_trans Z0 K169.1
    have sz_b169 : h0.size ≤ b169 := Nat.le_trans (Keep.refl h0 []).1 sz169
    have N175 := Fr.app N168 M169
    refine own_by (T' := T169) (g' := (mkF m 22 #[.val (.int p0_0), .val (.int p0_1), .val (.int p0_2), .val (.int p0_3), .val (.int p0_4), .val (.int i167), .unset, .unset, .unset, .unset, .unset, .unset, .unset, .unset] [(.ref b169)])) st169 ?_
    refine own_by (T' := T169) (g' := (mkF m 30 #[.val (.int p0_0), .val (.int p0_1), .val (.int p0_2), .val (.int p0_3), .val (.int p0_4), .val (.int i167), .val (.ref b169), .val (.int (p0_2 &&& (2147483647 : Int32))), .unset, .unset, .unset, .unset, .unset, .unset] [])) (fun t k => ?_) ?_
    · show Steps p.tables e below (T169.setTop (mkF m 22 #[.val (.int p0_0), .val (.int p0_1), .val (.int p0_2), .val (.int p0_3), .val (.int p0_4), .val (.int i167), .unset, .unset, .unset, .unset, .unset, .unset, .unset, .unset] [(.ref b169)])) t
      refine XS.astore X169.here hx rfl (hb hby at_22) rfl rfl (l' := #[.val (.int p0_0), .val (.int p0_1), .val (.int p0_2), .val (.int p0_3), .val (.int p0_4), .val (.int i167), .val (.ref b169), .unset, .unset, .unset, .unset, .unset, .unset, .unset]) rfl ?_
      show Steps p.tables e below (T169.setTop (mkF m 24 #[.val (.int p0_0), .val (.int p0_1), .val (.int p0_2), .val (.int p0_3), .val (.int p0_4), .val (.int i167), .val (.ref b169), .unset, .unset, .unset, .unset, .unset, .unset, .unset] [])) t
      refine XS.iloadN X169.here hx rfl (hb hby at_24) rfl ?_
      show Steps p.tables e below (T169.setTop (mkF m 25 #[.val (.int p0_0), .val (.int p0_1), .val (.int p0_2), .val (.int p0_3), .val (.int p0_4), .val (.int i167), .val (.ref b169), .unset, .unset, .unset, .unset, .unset, .unset, .unset] [(.int p0_2)])) t
      refine X169.ldcInt hx hown (mvT hZ (hw _ (List.mem_of_getElem? (i := 26) rfl))) (g := (mkF m 25 #[.val (.int p0_0), .val (.int p0_1), .val (.int p0_2), .val (.int p0_3), .val (.int p0_4), .val (.int i167), .val (.ref b169), .unset, .unset, .unset, .unset, .unset, .unset, .unset] [(.int p0_2)])) rfl (hb hby at_25) _ ?_
      show Steps p.tables e below (T169.setTop (mkF m 27 #[.val (.int p0_0), .val (.int p0_1), .val (.int p0_2), .val (.int p0_3), .val (.int p0_4), .val (.int i167), .val (.ref b169), .unset, .unset, .unset, .unset, .unset, .unset, .unset] [(.int (2147483647 : Int32)), (.int p0_2)])) t
      refine XS.iand X169.here hx rfl (hb hby at_27) rfl ?_
      show Steps p.tables e below (T169.setTop (mkF m 28 #[.val (.int p0_0), .val (.int p0_1), .val (.int p0_2), .val (.int p0_3), .val (.int p0_4), .val (.int i167), .val (.ref b169), .unset, .unset, .unset, .unset, .unset, .unset, .unset] [(.int (p0_2 &&& (2147483647 : Int32)))])) t
      refine XS.istore X169.here hx rfl (hb hby at_28) rfl (l' := #[.val (.int p0_0), .val (.int p0_1), .val (.int p0_2), .val (.int p0_3), .val (.int p0_4), .val (.int i167), .val (.ref b169), .val (.int (p0_2 &&& (2147483647 : Int32))), .unset, .unset, .unset, .unset, .unset, .unset]) rfl ?_
      show Steps p.tables e below (T169.setTop (mkF m 30 #[.val (.int p0_0), .val (.int p0_1), .val (.int p0_2), .val (.int p0_3), .val (.int p0_4), .val (.int i167), .val (.ref b169), .val (.int (p0_2 &&& (2147483647 : Int32))), .unset, .unset, .unset, .unset, .unset, .unset] [])) t
      exact k
    obtain ⟨T176, h176, X176, e176, E176, A176, D176, -, st176⟩ := newO X169 hx hZ hown (hw _ (List.mem_of_getElem? (i := 27) rfl)) (hw _ (List.mem_of_getElem? (i := 28) rfl)) (hw _ (List.mem_of_getElem? (i := 29) rfl)) rfl (g := (mkF m 30 #[.val (.int p0_0), .val (.int p0_1), .val (.int p0_2), .val (.int p0_3), .val (.int p0_4), .val (.int i167), .val (.ref b169), .val (.int (p0_2 &&& (2147483647 : Int32))), .unset, .unset, .unset, .unset, .unset, .unset] [])) rfl (hb hby at_30) (by decide) (by decide)
    obtain ⟨b176, g176⟩ : ∃ z, z = T169.heap.size := ⟨_, rfl⟩
    rw [← g176] at A176 D176 st176
    have gn_b176 : n0 ≤ b176 := Nat.le_trans Z174 (Nat.le_of_eq g176.symm)
    have sz_b176 : h0.size ≤ b176 := Nat.le_trans K172.1 (Nat.le_of_eq g176.symm)
    have ne_b169_b176 : b169 ≠ b176 := Nat.ne_of_lt (Nat.lt_of_lt_of_le f171.lt (Nat.le_of_eq g176.symm))
    have f177 := f170.ext E176
    have f178 := f171.ext E176
    have K179 : Keep h0 h176 [] := K172.ext E176
    have O180 := O173.ext E176
    have Z181 := Nat.le_trans Z174 E176.1
    have f182 : Fld Z h176 b176 "com/example/topping_out/toppingout/game/Player" "name" "Ljava/lang/String;" .null := D176 (Or.inr (hw _ (List.mem_of_getElem? (i := 40) rfl))) (ty := (.object "java/lang/String")) (by decide)
    have f183 : Fld Z h176 b176 "com/example/topping_out/toppingout/game/Player" "expert" "Z" (.int (0 : Int32)) := D176 (Or.inr (hw _ (List.mem_of_getElem? (i := 42) rfl))) (ty := .boolean) (by decide)
    have f184 : Fld Z h176 b176 "com/example/topping_out/toppingout/game/Player" "certificates" "I" (.int (0 : Int32)) := D176 (Or.inr (hw _ (List.mem_of_getElem? (i := 44) rfl))) (ty := .int) (by decide)
    have f185 : Fld Z h176 b176 "com/example/topping_out/toppingout/game/Player" "awards" "I" (.int (0 : Int32)) := D176 (Or.inr (hw _ (List.mem_of_getElem? (i := 46) rfl))) (ty := .int) (by decide)
    refine own_by (T' := T176) (g' := (mkF m 33 #[.val (.int p0_0), .val (.int p0_1), .val (.int p0_2), .val (.int p0_3), .val (.int p0_4), .val (.int i167), .val (.ref b169), .val (.int (p0_2 &&& (2147483647 : Int32))), .unset, .unset, .unset, .unset, .unset, .unset] [(.ref b176)])) st176 ?_
    refine own_by (T' := T176) (g' := (mkF m 41 #[.val (.int p0_0), .val (.int p0_1), .val (.int p0_2), .val (.int p0_3), .val (.int p0_4), .val (.int i167), .val (.ref b169), .val (.int (p0_2 &&& (2147483647 : Int32))), .unset, .unset, .unset, .unset, .unset, .unset] [(.int p0_3), (.int (p0_2 &&& (2147483647 : Int32))), (.int i167), (.ref b169), (.ref b176), (.ref b176)])) (fun t k => ?_) ?_
    · show Steps p.tables e below (T176.setTop (mkF m 33 #[.val (.int p0_0), .val (.int p0_1), .val (.int p0_2), .val (.int p0_3), .val (.int p0_4), .val (.int i167), .val (.ref b169), .val (.int (p0_2 &&& (2147483647 : Int32))), .unset, .unset, .unset, .unset, .unset, .unset] [(.ref b176)])) t
      refine XS.dup X176.here hx rfl (hb hby at_33) rfl rfl ?_
      show Steps p.tables e below (T176.setTop (mkF m 34 #[.val (.int p0_0), .val (.int p0_1), .val (.int p0_2), .val (.int p0_3), .val (.int p0_4), .val (.int i167), .val (.ref b169), .val (.int (p0_2 &&& (2147483647 : Int32))), .unset, .unset, .unset, .unset, .unset, .unset] [(.ref b176), (.ref b176)])) t
      refine XS.aload X176.here hx rfl (hb hby at_34) rfl rfl ?_
      show Steps p.tables e below (T176.setTop (mkF m 36 #[.val (.int p0_0), .val (.int p0_1), .val (.int p0_2), .val (.int p0_3), .val (.int p0_4), .val (.int i167), .val (.ref b169), .val (.int (p0_2 &&& (2147483647 : Int32))), .unset, .unset, .unset, .unset, .unset, .unset] [(.ref b169), (.ref b176), (.ref b176)])) t
      refine XS.iload X176.here hx rfl (hb hby at_36) rfl ?_
      show Steps p.tables e below (T176.setTop (mkF m 38 #[.val (.int p0_0), .val (.int p0_1), .val (.int p0_2), .val (.int p0_3), .val (.int p0_4), .val (.int i167), .val (.ref b169), .val (.int (p0_2 &&& (2147483647 : Int32))), .unset, .unset, .unset, .unset, .unset, .unset] [(.int i167), (.ref b169), (.ref b176), (.ref b176)])) t
      refine XS.iload X176.here hx rfl (hb hby at_38) rfl ?_
      show Steps p.tables e below (T176.setTop (mkF m 40 #[.val (.int p0_0), .val (.int p0_1), .val (.int p0_2), .val (.int p0_3), .val (.int p0_4), .val (.int i167), .val (.ref b169), .val (.int (p0_2 &&& (2147483647 : Int32))), .unset, .unset, .unset, .unset, .unset, .unset] [(.int (p0_2 &&& (2147483647 : Int32))), (.int i167), (.ref b169), (.ref b176), (.ref b176)])) t
      refine XS.iloadN X176.here hx rfl (hb hby at_40) rfl ?_
      show Steps p.tables e below (T176.setTop (mkF m 41 #[.val (.int p0_0), .val (.int p0_1), .val (.int p0_2), .val (.int p0_3), .val (.int p0_4), .val (.int i167), .val (.ref b169), .val (.int (p0_2 &&& (2147483647 : Int32))), .unset, .unset, .unset, .unset, .unset, .unset] [(.int p0_3), (.int (p0_2 &&& (2147483647 : Int32))), (.int i167), (.ref b169), (.ref b176), (.ref b176)])) t
      exact k
    obtain ⟨v186, _, ⟨T186, L186, k186, n186⟩, -, X186, ⟨Lc186, hQ186, l186, y186, z186⟩, st186⟩ := X176.specialBack hx (y := (⟨"com/example/topping_out/toppingout/game/Player", "<init>", "(Ljava/lang/String;ZII)V"⟩ : MethodName)) rfl hown (mvT hZ (hw _ (List.mem_of_getElem? (i := 30) rfl))) (mvT hZ (hw _ (List.mem_of_getElem? (i := 31) rfl))) (mvT hZ (hw _ (List.mem_of_getElem? (i := 32) rfl))) (by decide) (backOf (W := 1) (own_rm6 l Z a0 hw [] b176 b169 i167 (p0_2 &&& (2147483647 : Int32)) p0_3 .null (.int (0 : Int32)) (.int (0 : Int32)) (.int (0 : Int32)) h176 n0 Z181 A176 f182 gn_b176 f183 f184 f185) hZ (hw _ (List.mem_of_getElem? (i := 32) rfl)) (hw _ (List.mem_of_getElem? (i := 29) rfl)) (by decide) (by decide)) (g := (mkF m 41 #[.val (.int p0_0), .val (.int p0_1), .val (.int p0_2), .val (.int p0_3), .val (.int p0_4), .val (.int i167), .val (.ref b169), .val (.int (p0_2 &&& (2147483647 : Int32))), .unset, .unset, .unset, .unset, .unset, .unset] [(.int p0_3), (.int (p0_2 &&& (2147483647 : Int32))), (.int i167), (.ref b169), (.ref b176), (.ref b176)])) rfl (by rw [hml]; rfl) (Steps.refl _) (a := b176) (argsL := [(.ref b169), (.int i167), (.int (p0_2 &&& (2147483647 : Int32))), (.int p0_3)]) (rest := [(.ref b176)]) (lenOf pd__Ljava_lang_String_ZII_V rfl) rfl (by show 2 * 0 + _ ≤ _; exact Nat.le_of_eq rfl) (hb hby at_41) (fun _ _ => ⟨rfl, e176, (by decide : 3 + 0 ≤ _), (by decide : 9 + 0 ≤ _)⟩)
    dsimp only [Pt.U, Pt.locs, Pt.cells, Pt.slots] at X186 l186 y186 z186 st186 hQ186
    subst l186 y186 z186
    obtain ⟨rfl, M186, K186, f187, f188, f189, f190, f191⟩ := hQ186
    have f192 := f177.keep K186
    have f193 := f178.keep K186 (ninS ne_b169_b176 nin0)
    have f194 := A176.keep K186
    have K195 : Keep h0 T186.heap [] := K179.trans K186 (allS (Or.inr sz_b176) all0)
    have O196 := O180.keep K186 (allS gn_b176 all0)
    have Z197 := Nat.le_trans Z181 K186.1
    have N198 := Fr.app N175 M186
    refine own_via (T' := T186) (g' := (mkF m 44 #[.val (.int p0_0), .val (.int p0_1), .val (.int p0_2), .val (.int p0_3), .val (.int p0_4), .val (.int i167), .val (.ref b169), .val (.int (p0_2 &&& (2147483647 : Int32))), .unset, .unset, .unset, .unset, .unset, .unset] [(.ref b176)])) st186 ?_
    refine own_by (T' := T186) (g' := (mkF m 48 #[.val (.int p0_0), .val (.int p0_1), .val (.int p0_2), .val (.int p0_3), .val (.int p0_4), .val (.int i167), .val (.ref b169), .val (.int (p0_2 &&& (2147483647 : Int32))), .val (.ref b176), .unset, .unset, .unset, .unset, .unset] [(.ref b176)])) (fun t k => ?_) ?_
    · show Steps p.tables e below (T186.setTop (mkF m 44 #[.val (.int p0_0), .val (.int p0_1), .val (.int p0_2), .val (.int p0_3), .val (.int p0_4), .val (.int i167), .val (.ref b169), .val (.int (p0_2 &&& (2147483647 : Int32))), .unset, .unset, .unset, .unset, .unset, .unset] [(.ref b176)])) t
      refine XS.astore X186.here hx rfl (hb hby at_44) rfl rfl (l' := #[.val (.int p0_0), .val (.int p0_1), .val (.int p0_2), .val (.int p0_3), .val (.int p0_4), .val (.int i167), .val (.ref b169), .val (.int (p0_2 &&& (2147483647 : Int32))), .val (.ref b176), .unset, .unset, .unset, .unset, .unset]) rfl ?_
      show Steps p.tables e below (T186.setTop (mkF m 46 #[.val (.int p0_0), .val (.int p0_1), .val (.int p0_2), .val (.int p0_3), .val (.int p0_4), .val (.int i167), .val (.ref b169), .val (.int (p0_2 &&& (2147483647 : Int32))), .val (.ref b176), .unset, .unset, .unset, .unset, .unset] [])) t
      refine XS.aload X186.here hx rfl (hb hby at_46) rfl rfl ?_
      show Steps p.tables e below (T186.setTop (mkF m 48 #[.val (.int p0_0), .val (.int p0_1), .val (.int p0_2), .val (.int p0_3), .val (.int p0_4), .val (.int i167), .val (.ref b169), .val (.int (p0_2 &&& (2147483647 : Int32))), .val (.ref b176), .unset, .unset, .unset, .unset, .unset] [(.ref b176)])) t
      exact k
    obtain ⟨cq199, kq199, q199a, q199b, q199c⟩ := isOf hZ rfl f187
    obtain ⟨v199, _, ⟨T199, L199, k199, n199⟩, -, X199, ⟨Lc199, hQ199, l199, y199, z199⟩, st199⟩ := X186.virtualBack hx (y := (⟨"com/example/topping_out/toppingout/game/Player", "out", "()Z"⟩ : MethodName)) (z := (⟨"com/example/topping_out/toppingout/game/Player", "out", "()Z"⟩ : MethodName)) hown (mvT hZ (hw _ (List.mem_of_getElem? (i := 47) rfl))) (mvT hZ (hw _ (List.mem_of_getElem? (i := 48) rfl))) (notFace_of_selects (args := #[]) (mvT hZ (hw _ (List.mem_of_getElem? (i := 50) rfl)))) (mvT hZ (hw _ (List.mem_of_getElem? (i := 50) rfl))) (mvT hZ (hw _ (List.mem_of_getElem? (i := 49) rfl))) (by decide) (backOf (W := 0) (own_rm8 l Z a0 hw [] b176 (p0_2 &&& (2147483647 : Int32)) T186.heap n0 Z197 f190) hZ (hw _ (List.mem_of_getElem? (i := 51) rfl)) (hw _ (List.mem_of_getElem? (i := 29) rfl)) (by decide) (by decide)) q199a q199c (g := (mkF m 48 #[.val (.int p0_0), .val (.int p0_1), .val (.int p0_2), .val (.int p0_3), .val (.int p0_4), .val (.int i167), .val (.ref b169), .val (.int (p0_2 &&& (2147483647 : Int32))), .val (.ref b176), .unset, .unset, .unset, .unset, .unset] [(.ref b176)])) rfl (by rw [hml]; rfl) (Steps.refl _) (argsL := []) (rest := []) (lenOf pd___Z rfl) rfl (by show 2 * 0 + _ ≤ _; exact Nat.le_of_eq rfl) (hb hby at_48) (fun _ _ => ⟨rfl, rfl, (by decide : 3 + 0 ≤ _), (by decide : 9 + 0 ≤ _)⟩)
    dsimp only [Pt.U, Pt.locs, Pt.cells, Pt.slots] at X199 l199 y199 z199 st199 hQ199
    subst l199 y199 z199
    obtain ⟨rfl, M199, e199⟩ := hQ199
    have N200 := Fr.app N198 M199
    refine own_via (T' := T199) (g' := (mkF m 51 #[.val (.int p0_0), .val (.int p0_1), .val (.int p0_2), .val (.int p0_3), .val (.int p0_4), .val (.int i167), .val (.ref b169), .val (.int (p0_2 &&& (2147483647 : Int32))), .val (.ref b176), .unset, .unset, .unset, .unset, .unset] [(.int (own_F8 (p0_2 &&& (2147483647 : Int32))))])) st199 ?_
    refine own_by (T' := T199) (g' := (mkF m 53 #[.val (.int p0_0), .val (.int p0_1), .val (.int p0_2), .val (.int p0_3), .val (.int p0_4), .val (.int i167), .val (.ref b169), .val (.int (p0_2 &&& (2147483647 : Int32))), .val (.ref b176), .unset, .unset, .unset, .unset, .unset] [(.int (p0_2 &&& (2147483647 : Int32))), (.int (own_F8 (p0_2 &&& (2147483647 : Int32))))])) (fun t k => ?_) ?_
    · show Steps p.tables e below (T199.setTop (mkF m 51 #[.val (.int p0_0), .val (.int p0_1), .val (.int p0_2), .val (.int p0_3), .val (.int p0_4), .val (.int i167), .val (.ref b169), .val (.int (p0_2 &&& (2147483647 : Int32))), .val (.ref b176), .unset, .unset, .unset, .unset, .unset] [(.int (own_F8 (p0_2 &&& (2147483647 : Int32))))])) t
      refine XS.iload X199.here hx rfl (hb hby at_51) rfl ?_
      show Steps p.tables e below (T199.setTop (mkF m 53 #[.val (.int p0_0), .val (.int p0_1), .val (.int p0_2), .val (.int p0_3), .val (.int p0_4), .val (.int i167), .val (.ref b169), .val (.int (p0_2 &&& (2147483647 : Int32))), .val (.ref b176), .unset, .unset, .unset, .unset, .unset] [(.int (p0_2 &&& (2147483647 : Int32))), (.int (own_F8 (p0_2 &&& (2147483647 : Int32))))])) t
      exact k
    have J0_2 : ∀ (T203 : State) (L203 : List Loc) (i202 : Int32), Stand p l e room_1 s m #[(.int p0_0), (.int p0_1), (.int p0_2), (.int p0_3), (.int p0_4)] below meth c T203 L203 3 9 → T203.heap = T186.heap → Fr n0 L203 → own_Go p e below (own_P s below room_1 (own_Q0 (own_F0_61_2 p0_0 p0_1 p0_2 p0_3 p0_4 i167 i202) h0 n0)) T203 (mkF m 61 #[.val (.int p0_0), .val (.int p0_1), .val (.int p0_2), .val (.int p0_3), .val (.int p0_4), .val (.int i167), .val (.ref b169), .val (.int (p0_2 &&& (2147483647 : Int32))), .val (.ref b176), .unset, .unset, .unset, .unset, .unset] [(.int i202), (.int (own_F8 (p0_2 &&& (2147483647 : Int32))))]) := by
      intro T203 L203 i202 X203 e203 N203
      have J0_3 : ∀ (T206 : State) (L206 : List Loc) (i205 : Int32), Stand p l e room_1 s m #[(.int p0_0), (.int p0_1), (.int p0_2), (.int p0_3), (.int p0_4)] below meth c T206 L206 3 9 → T206.heap = T186.heap → Fr n0 L206 → own_Go p e below (own_P s below room_1 (own_Q0 (own_F0_69_3 p0_0 p0_1 p0_2 p0_3 p0_4 i167 i202 i205) h0 n0)) T206 (mkF m 69 #[.val (.int p0_0), .val (.int p0_1), .val (.int p0_2), .val (.int p0_3), .val (.int p0_4), .val (.int i167), .val (.ref b169), .val (.int (p0_2 &&& (2147483647 : Int32))), .val (.ref b176), .unset, .unset, .unset, .unset, .unset] [(.int i205)]) := by
        intro T206 L206 i205 X206 e206 N206
        refine own_by (T' := T206) (g' := (mkF m 73 #[.val (.int p0_0), .val (.int p0_1), .val (.int p0_2), .val (.int p0_3), .val (.int p0_4), .val (.int i167), .val (.ref b169), .val (.int (p0_2 &&& (2147483647 : Int32))), .val (.ref b176), .val (.int i205), .unset, .unset, .unset, .unset] [(.int i167)])) (fun t k => ?_) ?_
        · show Steps p.tables e below (T206.setTop (mkF m 69 #[.val (.int p0_0), .val (.int p0_1), .val (.int p0_2), .val (.int p0_3), .val (.int p0_4), .val (.int i167), .val (.ref b169), .val (.int (p0_2 &&& (2147483647 : Int32))), .val (.ref b176), .unset, .unset, .unset, .unset, .unset] [(.int i205)])) t
          refine XS.istore X206.here hx rfl (hb hby at_69) rfl (l' := #[.val (.int p0_0), .val (.int p0_1), .val (.int p0_2), .val (.int p0_3), .val (.int p0_4), .val (.int i167), .val (.ref b169), .val (.int (p0_2 &&& (2147483647 : Int32))), .val (.ref b176), .val (.int i205), .unset, .unset, .unset, .unset]) rfl ?_
          show Steps p.tables e below (T206.setTop (mkF m 71 #[.val (.int p0_0), .val (.int p0_1), .val (.int p0_2), .val (.int p0_3), .val (.int p0_4), .val (.int i167), .val (.ref b169), .val (.int (p0_2 &&& (2147483647 : Int32))), .val (.ref b176), .val (.int i205), .unset, .unset, .unset, .unset] [])) t
          refine XS.iload X206.here hx rfl (hb hby at_71) rfl ?_
          show Steps p.tables e below (T206.setTop (mkF m 73 #[.val (.int p0_0), .val (.int p0_1), .val (.int p0_2), .val (.int p0_3), .val (.int p0_4), .val (.int i167), .val (.ref b169), .val (.int (p0_2 &&& (2147483647 : Int32))), .val (.ref b176), .val (.int i205), .unset, .unset, .unset, .unset] [(.int i167)])) t
          exact k
        have J0_4 : ∀ (T209 : State) (L209 : List Loc) (i208 : Int32), Stand p l e room_1 s m #[(.int p0_0), (.int p0_1), (.int p0_2), (.int p0_3), (.int p0_4)] below meth c T209 L209 3 9 → T209.heap = T186.heap → Fr n0 L209 → own_Go p e below (own_P s below room_1 (own_Q0 (own_F0_81_4 p0_0 p0_1 p0_2 p0_3 p0_4 i167 i202 i205 i208) h0 n0)) T209 (mkF m 81 #[.val (.int p0_0), .val (.int p0_1), .val (.int p0_2), .val (.int p0_3), .val (.int p0_4), .val (.int i167), .val (.ref b169), .val (.int (p0_2 &&& (2147483647 : Int32))), .val (.ref b176), .val (.int i205), .unset, .unset, .unset, .unset] [(.int i208)]) := by
          intro T209 L209 i208 X209 e209 N209
          refine own_by (T' := T209) (g' := (mkF m 89 #[.val (.int p0_0), .val (.int p0_1), .val (.int p0_2), .val (.int p0_3), .val (.int p0_4), .val (.int i167), .val (.ref b169), .val (.int (p0_2 &&& (2147483647 : Int32))), .val (.ref b176), .val (.int i205), .val (.int i208), .unset, .unset, .unset] [(.int i208), (.int (p0_4 &&& (3 : Int32)))])) (fun t k => ?_) ?_
          · show Steps p.tables e below (T209.setTop (mkF m 81 #[.val (.int p0_0), .val (.int p0_1), .val (.int p0_2), .val (.int p0_3), .val (.int p0_4), .val (.int i167), .val (.ref b169), .val (.int (p0_2 &&& (2147483647 : Int32))), .val (.ref b176), .val (.int i205), .unset, .unset, .unset, .unset] [(.int i208)])) t
            refine XS.istore X209.here hx rfl (hb hby at_81) rfl (l' := #[.val (.int p0_0), .val (.int p0_1), .val (.int p0_2), .val (.int p0_3), .val (.int p0_4), .val (.int i167), .val (.ref b169), .val (.int (p0_2 &&& (2147483647 : Int32))), .val (.ref b176), .val (.int i205), .val (.int i208), .unset, .unset, .unset]) rfl ?_
            show Steps p.tables e below (T209.setTop (mkF m 83 #[.val (.int p0_0), .val (.int p0_1), .val (.int p0_2), .val (.int p0_3), .val (.int p0_4), .val (.int i167), .val (.ref b169), .val (.int (p0_2 &&& (2147483647 : Int32))), .val (.ref b176), .val (.int i205), .val (.int i208), .unset, .unset, .unset] [])) t
            refine XS.iload X209.here hx rfl (hb hby at_83) rfl ?_
            show Steps p.tables e below (T209.setTop (mkF m 85 #[.val (.int p0_0), .val (.int p0_1), .val (.int p0_2), .val (.int p0_3), .val (.int p0_4), .val (.int i167), .val (.ref b169), .val (.int (p0_2 &&& (2147483647 : Int32))), .val (.ref b176), .val (.int i205), .val (.int i208), .unset, .unset, .unset] [(.int p0_4)])) t
            refine XS.iconst X209.here hx rfl (hb hby at_85) ?_
            show Steps p.tables e below (T209.setTop (mkF m 86 #[.val (.int p0_0), .val (.int p0_1), .val (.int p0_2), .val (.int p0_3), .val (.int p0_4), .val (.int i167), .val (.ref b169), .val (.int (p0_2 &&& (2147483647 : Int32))), .val (.ref b176), .val (.int i205), .val (.int i208), .unset, .unset, .unset] [(.int (3 : Int32)), (.int p0_4)])) t
            refine XS.iand X209.here hx rfl (hb hby at_86) rfl ?_
            show Steps p.tables e below (T209.setTop (mkF m 87 #[.val (.int p0_0), .val (.int p0_1), .val (.int p0_2), .val (.int p0_3), .val (.int p0_4), .val (.int i167), .val (.ref b169), .val (.int (p0_2 &&& (2147483647 : Int32))), .val (.ref b176), .val (.int i205), .val (.int i208), .unset, .unset, .unset] [(.int (p0_4 &&& (3 : Int32)))])) t
            refine XS.iload X209.here hx rfl (hb hby at_87) rfl ?_
            show Steps p.tables e below (T209.setTop (mkF m 89 #[.val (.int p0_0), .val (.int p0_1), .val (.int p0_2), .val (.int p0_3), .val (.int p0_4), .val (.int i167), .val (.ref b169), .val (.int (p0_2 &&& (2147483647 : Int32))), .val (.ref b176), .val (.int i205), .val (.int i208), .unset, .unset, .unset] [(.int i208), (.int (p0_4 &&& (3 : Int32)))])) t
            exact k
          obtain ⟨v210, _, ⟨T210, L210, k210, n210⟩, -, X210, ⟨Lc210, hQ210, l210, y210, z210⟩, st210⟩ := Jvm.LawKit.callS X209 hx (y := (⟨"java/lang/Math", "min", "(II)I"⟩ : MethodName)) hown (mvT hZ (hw _ (List.mem_of_getElem? (i := 52) rfl))) (mvT hZ (hw _ (List.mem_of_getElem? (i := 53) rfl))) (mvT hZ (hw _ (List.mem_of_getElem? (i := 54) rfl))) (mvT hZ (hw _ (List.mem_of_getElem? (i := 55) rfl))) (by decide) (backOf (W := 0) (own_rm9 l Z a0 hw [] (p0_4 &&& (3 : Int32)) i208 T186.heap n0 Z197) hZ (hw _ (List.mem_of_getElem? (i := 55) rfl)) (hw _ (List.mem_of_getElem? (i := 54) rfl)) (by decide) (by decide)) (g := (mkF m 89 #[.val (.int p0_0), .val (.int p0_1), .val (.int p0_2), .val (.int p0_3), .val (.int p0_4), .val (.int i167), .val (.ref b169), .val (.int (p0_2 &&& (2147483647 : Int32))), .val (.ref b176), .val (.int i205), .val (.int i208), .unset, .unset, .unset] [(.int i208), (.int (p0_4 &&& (3 : Int32)))])) rfl (by rw [hml]; rfl) (argsL := [(.int (p0_4 &&& (3 : Int32))), (.int i208)]) (rest := []) (lenOf pd__II_I rfl) rfl (by show 2 * 0 + _ ≤ _; exact Nat.le_of_eq rfl) (hb hby at_89) (fun _ _ => ⟨rfl, e209, (by decide : 3 + 0 ≤ _), (by decide : 9 + 0 ≤ _)⟩)
          dsimp only [Pt.U, Pt.locs, Pt.cells, Pt.slots] at X210 l210 y210 z210 st210 hQ210
          subst l210 y210 z210
          obtain ⟨rfl, M210, e210⟩ := hQ210
          have N211 := Fr.app N209 M210
          refine own_by (T' := T210) (g' := (mkF m 92 #[.val (.int p0_0), .val (.int p0_1), .val (.int p0_2), .val (.int p0_3), .val (.int p0_4), .val (.int i167), .val (.ref b169), .val (.int (p0_2 &&& (2147483647 : Int32))), .val (.ref b176), .val (.int i205), .val (.int i208), .unset, .unset, .unset] [(.int (own_F9 (p0_4 &&& (3 : Int32)) i208))])) st210 ?_
          refine own_by (T' := T210) (g' := (mkF m 98 #[.val (.int p0_0), .val (.int p0_1), .val (.int p0_2), .val (.int p0_3), .val (.int p0_4), .val (.int i167), .val (.ref b169), .val (.int (p0_2 &&& (2147483647 : Int32))), .val (.ref b176), .val (.int i205), .val (.int i208), .val (.int (own_F9 (p0_4 &&& (3 : Int32)) i208)), .unset, .unset] [(.int i167), (.ref b169)])) (fun t k => ?_) ?_
          · show Steps p.tables e below (T210.setTop (mkF m 92 #[.val (.int p0_0), .val (.int p0_1), .val (.int p0_2), .val (.int p0_3), .val (.int p0_4), .val (.int i167), .val (.ref b169), .val (.int (p0_2 &&& (2147483647 : Int32))), .val (.ref b176), .val (.int i205), .val (.int i208), .unset, .unset, .unset] [(.int (own_F9 (p0_4 &&& (3 : Int32)) i208))])) t
            refine XS.istore X210.here hx rfl (hb hby at_92) rfl (l' := #[.val (.int p0_0), .val (.int p0_1), .val (.int p0_2), .val (.int p0_3), .val (.int p0_4), .val (.int i167), .val (.ref b169), .val (.int (p0_2 &&& (2147483647 : Int32))), .val (.ref b176), .val (.int i205), .val (.int i208), .val (.int (own_F9 (p0_4 &&& (3 : Int32)) i208)), .unset, .unset]) rfl ?_
            show Steps p.tables e below (T210.setTop (mkF m 94 #[.val (.int p0_0), .val (.int p0_1), .val (.int p0_2), .val (.int p0_3), .val (.int p0_4), .val (.int i167), .val (.ref b169), .val (.int (p0_2 &&& (2147483647 : Int32))), .val (.ref b176), .val (.int i205), .val (.int i208), .val (.int (own_F9 (p0_4 &&& (3 : Int32)) i208)), .unset, .unset] [])) t
            refine XS.aload X210.here hx rfl (hb hby at_94) rfl rfl ?_
            show Steps p.tables e below (T210.setTop (mkF m 96 #[.val (.int p0_0), .val (.int p0_1), .val (.int p0_2), .val (.int p0_3), .val (.int p0_4), .val (.int i167), .val (.ref b169), .val (.int (p0_2 &&& (2147483647 : Int32))), .val (.ref b176), .val (.int i205), .val (.int i208), .val (.int (own_F9 (p0_4 &&& (3 : Int32)) i208)), .unset, .unset] [(.ref b169)])) t
            refine XS.iload X210.here hx rfl (hb hby at_96) rfl ?_
            show Steps p.tables e below (T210.setTop (mkF m 98 #[.val (.int p0_0), .val (.int p0_1), .val (.int p0_2), .val (.int p0_3), .val (.int p0_4), .val (.int i167), .val (.ref b169), .val (.int (p0_2 &&& (2147483647 : Int32))), .val (.ref b176), .val (.int i205), .val (.int i208), .val (.int (own_F9 (p0_4 &&& (3 : Int32)) i208)), .unset, .unset] [(.int i167), (.ref b169)])) t
            exact k
          obtain ⟨v212, _, ⟨T212, L212, k212, n212⟩, -, X212, ⟨Lc212, hQ212, l212, y212, z212⟩, st212⟩ := Jvm.LawKit.callS X210 hx (y := (⟨"com/example/topping_out/toppingout/game/Player", "seated", "(Ljava/lang/String;Z)Lcom/example/topping_out/toppingout/game/Player;"⟩ : MethodName)) hown (mvT hZ (hw _ (List.mem_of_getElem? (i := 56) rfl))) (mvT hZ (hw _ (List.mem_of_getElem? (i := 57) rfl))) (mvT hZ (hw _ (List.mem_of_getElem? (i := 29) rfl))) (mvT hZ (hw _ (List.mem_of_getElem? (i := 58) rfl))) (by decide) (backOf (W := 0) (own_rm10 l Z a0 hw [] b169 i167 T186.heap n0 Z197) hZ (hw _ (List.mem_of_getElem? (i := 58) rfl)) (hw _ (List.mem_of_getElem? (i := 29) rfl)) (by decide) (by decide)) (g := (mkF m 98 #[.val (.int p0_0), .val (.int p0_1), .val (.int p0_2), .val (.int p0_3), .val (.int p0_4), .val (.int i167), .val (.ref b169), .val (.int (p0_2 &&& (2147483647 : Int32))), .val (.ref b176), .val (.int i205), .val (.int i208), .val (.int (own_F9 (p0_4 &&& (3 : Int32)) i208)), .unset, .unset] [(.int i167), (.ref b169)])) rfl (by rw [hml]; rfl) (argsL := [(.ref b169), (.int i167)]) (rest := []) (lenOf pd__Ljava_lang_String_Z_Lcom_example_topping_out_toppingout_game_Player_ rfl) rfl (by show 2 * 0 + _ ≤ _; exact Nat.le_of_eq rfl) (hb hby at_98) (fun _ _ => ⟨rfl, e210, (by decide : 3 + 1 ≤ _), (by decide : 9 + 4 ≤ _)⟩)
          dsimp only [Pt.U, Pt.locs, Pt.cells, Pt.slots] at X212 l212 y212 z212 st212 hQ212
          subst l212 y212 z212
          obtain ⟨b212, rfl, M212, K212, sz212, gn212, f213, f214, f215, f216, f217⟩ := hQ212
          have f218 := f192.keep K212
          have f219 := f193.keep K212 nin0
          have f220 := f187.keep K212
          have f221 := f188.keep K212 nin0
          have f222 := f189.keep K212 nin0
          have f223 := f190.keep K212 nin0
          have f224 := f191.keep K212 nin0
          have K225 : Keep h0 T212.heap [] := K195.trans K212 all0
          have O226 := O196.keep K212 all0
          have Z227 := Nat.le_trans Z197 K212.1
          have sz_b212 : h0.size ≤ b212 := Nat.le_trans K195.1 sz212
          have ne_b169_b212 : b169 ≠ b212 := Nat.ne_of_lt (Nat.lt_of_lt_of_le f193.lt sz212)
          have ne_b176_b212 : b176 ≠ b212 := Nat.ne_of_lt (Nat.lt_of_lt_of_le f191.lt sz212)
          have N228 := Fr.app N211 M212
          refine own_by (T' := T212) (g' := (mkF m 101 #[.val (.int p0_0), .val (.int p0_1), .val (.int p0_2), .val (.int p0_3), .val (.int p0_4), .val (.int i167), .val (.ref b169), .val (.int (p0_2 &&& (2147483647 : Int32))), .val (.ref b176), .val (.int i205), .val (.int i208), .val (.int (own_F9 (p0_4 &&& (3 : Int32)) i208)), .unset, .unset] [(.ref b212)])) st212 ?_
          refine own_by (T' := T212) (g' := (mkF m 106 #[.val (.int p0_0), .val (.int p0_1), .val (.int p0_2), .val (.int p0_3), .val (.int p0_4), .val (.int i167), .val (.ref b169), .val (.int (p0_2 &&& (2147483647 : Int32))), .val (.ref b176), .val (.int i205), .val (.int i208), .val (.int (own_F9 (p0_4 &&& (3 : Int32)) i208)), .val (.ref b212), .unset] [(.int (1 : Int32)), (.int (own_F9 (p0_4 &&& (3 : Int32)) i208))])) (fun t k => ?_) ?_
          · show Steps p.tables e below (T212.setTop (mkF m 101 #[.val (.int p0_0), .val (.int p0_1), .val (.int p0_2), .val (.int p0_3), .val (.int p0_4), .val (.int i167), .val (.ref b169), .val (.int (p0_2 &&& (2147483647 : Int32))), .val (.ref b176), .val (.int i205), .val (.int i208), .val (.int (own_F9 (p0_4 &&& (3 : Int32)) i208)), .unset, .unset] [(.ref b212)])) t
            refine XS.astore X212.here hx rfl (hb hby at_101) rfl rfl (l' := #[.val (.int p0_0), .val (.int p0_1), .val (.int p0_2), .val (.int p0_3), .val (.int p0_4), .val (.int i167), .val (.ref b169), .val (.int (p0_2 &&& (2147483647 : Int32))), .val (.ref b176), .val (.int i205), .val (.int i208), .val (.int (own_F9 (p0_4 &&& (3 : Int32)) i208)), .val (.ref b212), .unset]) rfl ?_
            show Steps p.tables e below (T212.setTop (mkF m 103 #[.val (.int p0_0), .val (.int p0_1), .val (.int p0_2), .val (.int p0_3), .val (.int p0_4), .val (.int i167), .val (.ref b169), .val (.int (p0_2 &&& (2147483647 : Int32))), .val (.ref b176), .val (.int i205), .val (.int i208), .val (.int (own_F9 (p0_4 &&& (3 : Int32)) i208)), .val (.ref b212), .unset] [])) t
            refine XS.iload X212.here hx rfl (hb hby at_103) rfl ?_
            show Steps p.tables e below (T212.setTop (mkF m 105 #[.val (.int p0_0), .val (.int p0_1), .val (.int p0_2), .val (.int p0_3), .val (.int p0_4), .val (.int i167), .val (.ref b169), .val (.int (p0_2 &&& (2147483647 : Int32))), .val (.ref b176), .val (.int i205), .val (.int i208), .val (.int (own_F9 (p0_4 &&& (3 : Int32)) i208)), .val (.ref b212), .unset] [(.int (own_F9 (p0_4 &&& (3 : Int32)) i208))])) t
            refine XS.iconst X212.here hx rfl (hb hby at_105) ?_
            show Steps p.tables e below (T212.setTop (mkF m 106 #[.val (.int p0_0), .val (.int p0_1), .val (.int p0_2), .val (.int p0_3), .val (.int p0_4), .val (.int i167), .val (.ref b169), .val (.int (p0_2 &&& (2147483647 : Int32))), .val (.ref b176), .val (.int i205), .val (.int i208), .val (.int (own_F9 (p0_4 &&& (3 : Int32)) i208)), .val (.ref b212), .unset] [(.int (1 : Int32)), (.int (own_F9 (p0_4 &&& (3 : Int32)) i208))])) t
            exact k
          by_cases hc229 : (own_F9 (p0_4 &&& (3 : Int32)) i208) < (1 : Int32)
          · skip
            refine own_by (T' := T212) (g' := (mkF m 119 #[.val (.int p0_0), .val (.int p0_1), .val (.int p0_2), .val (.int p0_3), .val (.int p0_4), .val (.int i167), .val (.ref b169), .val (.int (p0_2 &&& (2147483647 : Int32))), .val (.ref b176), .val (.int i205), .val (.int i208), .val (.int (own_F9 (p0_4 &&& (3 : Int32)) i208)), .val (.ref b212), .unset] [(.int (2 : Int32)), (.int (own_F9 (p0_4 &&& (3 : Int32)) i208))])) (fun t k => ?_) ?_
            · show Steps p.tables e below (T212.setTop (mkF m 106 #[.val (.int p0_0), .val (.int p0_1), .val (.int p0_2), .val (.int p0_3), .val (.int p0_4), .val (.int i167), .val (.ref b169), .val (.int (p0_2 &&& (2147483647 : Int32))), .val (.ref b176), .val (.int i205), .val (.int i208), .val (.int (own_F9 (p0_4 &&& (3 : Int32)) i208)), .val (.ref b212), .unset] [(.int (1 : Int32)), (.int (own_F9 (p0_4 &&& (3 : Int32)) i208))])) t
              refine XS.icmpYes X212.here hx rfl (pc0 := 106) (pc' := 116) rfl (hb hby at_106) rfl (tlt hc229).1 (by decide) (by decide) ?_
              show Steps p.tables e below (T212.setTop (mkF m 116 #[.val (.int p0_0), .val (.int p0_1), .val (.int p0_2), .val (.int p0_3), .val (.int p0_4), .val (.int i167), .val (.ref b169), .val (.int (p0_2 &&& (2147483647 : Int32))), .val (.ref b176), .val (.int i205), .val (.int i208), .val (.int (own_F9 (p0_4 &&& (3 : Int32)) i208)), .val (.ref b212), .unset] [])) t
              refine XS.iload X212.here hx rfl (hb hby at_116) rfl ?_
              show Steps p.tables e below (T212.setTop (mkF m 118 #[.val (.int p0_0), .val (.int p0_1), .val (.int p0_2), .val (.int p0_3), .val (.int p0_4), .val (.int i167), .val (.ref b169), .val (.int (p0_2 &&& (2147483647 : Int32))), .val (.ref b176), .val (.int i205), .val (.int i208), .val (.int (own_F9 (p0_4 &&& (3 : Int32)) i208)), .val (.ref b212), .unset] [(.int (own_F9 (p0_4 &&& (3 : Int32)) i208))])) t
              refine XS.iconst X212.here hx rfl (hb hby at_118) ?_
              show Steps p.tables e below (T212.setTop (mkF m 119 #[.val (.int p0_0), .val (.int p0_1), .val (.int p0_2), .val (.int p0_3), .val (.int p0_4), .val (.int i167), .val (.ref b169), .val (.int (p0_2 &&& (2147483647 : Int32))), .val (.ref b176), .val (.int i205), .val (.int i208), .val (.int (own_F9 (p0_4 &&& (3 : Int32)) i208)), .val (.ref b212), .unset] [(.int (2 : Int32)), (.int (own_F9 (p0_4 &&& (3 : Int32)) i208))])) t
              exact k
            by_cases hc230 : (own_F9 (p0_4 &&& (3 : Int32)) i208) < (2 : Int32)
            · skip
              refine own_by (T' := T212) (g' := (mkF m 132 #[.val (.int p0_0), .val (.int p0_1), .val (.int p0_2), .val (.int p0_3), .val (.int p0_4), .val (.int i167), .val (.ref b169), .val (.int (p0_2 &&& (2147483647 : Int32))), .val (.ref b176), .val (.int i205), .val (.int i208), .val (.int (own_F9 (p0_4 &&& (3 : Int32)) i208)), .val (.ref b212), .unset] [(.int (3 : Int32)), (.int (own_F9 (p0_4 &&& (3 : Int32)) i208))])) (fun t k => ?_) ?_
              · show Steps p.tables e below (T212.setTop (mkF m 119 #[.val (.int p0_0), .val (.int p0_1), .val (.int p0_2), .val (.int p0_3), .val (.int p0_4), .val (.int i167), .val (.ref b169), .val (.int (p0_2 &&& (2147483647 : Int32))), .val (.ref b176), .val (.int i205), .val (.int i208), .val (.int (own_F9 (p0_4 &&& (3 : Int32)) i208)), .val (.ref b212), .unset] [(.int (2 : Int32)), (.int (own_F9 (p0_4 &&& (3 : Int32)) i208))])) t
                refine XS.icmpYes X212.here hx rfl (pc0 := 119) (pc' := 129) rfl (hb hby at_119) rfl (tlt hc230).1 (by decide) (by decide) ?_
                show Steps p.tables e below (T212.setTop (mkF m 129 #[.val (.int p0_0), .val (.int p0_1), .val (.int p0_2), .val (.int p0_3), .val (.int p0_4), .val (.int i167), .val (.ref b169), .val (.int (p0_2 &&& (2147483647 : Int32))), .val (.ref b176), .val (.int i205), .val (.int i208), .val (.int (own_F9 (p0_4 &&& (3 : Int32)) i208)), .val (.ref b212), .unset] [])) t
                refine XS.iload X212.here hx rfl (hb hby at_129) rfl ?_
                show Steps p.tables e below (T212.setTop (mkF m 131 #[.val (.int p0_0), .val (.int p0_1), .val (.int p0_2), .val (.int p0_3), .val (.int p0_4), .val (.int i167), .val (.ref b169), .val (.int (p0_2 &&& (2147483647 : Int32))), .val (.ref b176), .val (.int i205), .val (.int i208), .val (.int (own_F9 (p0_4 &&& (3 : Int32)) i208)), .val (.ref b212), .unset] [(.int (own_F9 (p0_4 &&& (3 : Int32)) i208))])) t
                refine XS.iconst X212.here hx rfl (hb hby at_131) ?_
                show Steps p.tables e below (T212.setTop (mkF m 132 #[.val (.int p0_0), .val (.int p0_1), .val (.int p0_2), .val (.int p0_3), .val (.int p0_4), .val (.int i167), .val (.ref b169), .val (.int (p0_2 &&& (2147483647 : Int32))), .val (.ref b176), .val (.int i205), .val (.int i208), .val (.int (own_F9 (p0_4 &&& (3 : Int32)) i208)), .val (.ref b212), .unset] [(.int (3 : Int32)), (.int (own_F9 (p0_4 &&& (3 : Int32)) i208))])) t
                exact k
              by_cases hc231 : (own_F9 (p0_4 &&& (3 : Int32)) i208) < (3 : Int32)
              · skip
                refine own_by (T' := T212) (g' := (mkF m 144 #[.val (.int p0_0), .val (.int p0_1), .val (.int p0_2), .val (.int p0_3), .val (.int p0_4), .val (.int i167), .val (.ref b169), .val (.int (p0_2 &&& (2147483647 : Int32))), .val (.ref b176), .val (.int i205), .val (.int i208), .val (.int (own_F9 (p0_4 &&& (3 : Int32)) i208)), .val (.ref b212), .unset] [(.ref b212)])) (fun t k => ?_) ?_
                · show Steps p.tables e below (T212.setTop (mkF m 132 #[.val (.int p0_0), .val (.int p0_1), .val (.int p0_2), .val (.int p0_3), .val (.int p0_4), .val (.int i167), .val (.ref b169), .val (.int (p0_2 &&& (2147483647 : Int32))), .val (.ref b176), .val (.int i205), .val (.int i208), .val (.int (own_F9 (p0_4 &&& (3 : Int32)) i208)), .val (.ref b212), .unset] [(.int (3 : Int32)), (.int (own_F9 (p0_4 &&& (3 : Int32)) i208))])) t
                  refine XS.icmpYes X212.here hx rfl (pc0 := 132) (pc' := 142) rfl (hb hby at_132) rfl (tlt hc231).1 (by decide) (by decide) ?_
                  show Steps p.tables e below (T212.setTop (mkF m 142 #[.val (.int p0_0), .val (.int p0_1), .val (.int p0_2), .val (.int p0_3), .val (.int p0_4), .val (.int i167), .val (.ref b169), .val (.int (p0_2 &&& (2147483647 : Int32))), .val (.ref b176), .val (.int i205), .val (.int i208), .val (.int (own_F9 (p0_4 &&& (3 : Int32)) i208)), .val (.ref b212), .unset] [])) t
                  refine XS.aload X212.here hx rfl (hb hby at_142) rfl rfl ?_
                  show Steps p.tables e below (T212.setTop (mkF m 144 #[.val (.int p0_0), .val (.int p0_1), .val (.int p0_2), .val (.int p0_3), .val (.int p0_4), .val (.int i167), .val (.ref b169), .val (.int (p0_2 &&& (2147483647 : Int32))), .val (.ref b176), .val (.int i205), .val (.int i208), .val (.int (own_F9 (p0_4 &&& (3 : Int32)) i208)), .val (.ref b212), .unset] [(.ref b212)])) t
                  exact k
                obtain ⟨cq232, kq232, q232a, q232b, q232c⟩ := isOf hZ rfl f213
                obtain ⟨v232, _, ⟨T232, L232, k232, n232⟩, -, X232, ⟨Lc232, hQ232, l232, y232, z232⟩, st232⟩ := X212.virtualBack hx (y := (⟨"com/example/topping_out/toppingout/game/Player", "out", "()Z"⟩ : MethodName)) (z := (⟨"com/example/topping_out/toppingout/game/Player", "out", "()Z"⟩ : MethodName)) hown (mvT hZ (hw _ (List.mem_of_getElem? (i := 47) rfl))) (mvT hZ (hw _ (List.mem_of_getElem? (i := 48) rfl))) (notFace_of_selects (args := #[]) (mvT hZ (hw _ (List.mem_of_getElem? (i := 50) rfl)))) (mvT hZ (hw _ (List.mem_of_getElem? (i := 50) rfl))) (mvT hZ (hw _ (List.mem_of_getElem? (i := 49) rfl))) (by decide) (backOf (W := 0) (own_rm8 l Z a0 hw [] b212 (if i167 = (0 : Int32) then (3 : Int32) else (2 : Int32)) T212.heap n0 Z227 f216) hZ (hw _ (List.mem_of_getElem? (i := 51) rfl)) (hw _ (List.mem_of_getElem? (i := 29) rfl)) (by decide) (by decide)) q232a q232c (g := (mkF m 144 #[.val (.int p0_0), .val (.int p0_1), .val (.int p0_2), .val (.int p0_3), .val (.int p0_4), .val (.int i167), .val (.ref b169), .val (.int (p0_2 &&& (2147483647 : Int32))), .val (.ref b176), .val (.int i205), .val (.int i208), .val (.int (own_F9 (p0_4 &&& (3 : Int32)) i208)), .val (.ref b212), .unset] [(.ref b212)])) rfl (by rw [hml]; rfl) (Steps.refl _) (argsL := []) (rest := []) (lenOf pd___Z rfl) rfl (by show 2 * 0 + _ ≤ _; exact Nat.le_of_eq rfl) (hb hby at_144) (fun _ _ => ⟨rfl, rfl, (by decide : 4 + 0 ≤ _), (by decide : 13 + 0 ≤ _)⟩)
                dsimp only [Pt.U, Pt.locs, Pt.cells, Pt.slots] at X232 l232 y232 z232 st232 hQ232
                subst l232 y232 z232
                obtain ⟨rfl, M232, e232⟩ := hQ232
                have N233 := Fr.app N228 M232
                refine own_via (T' := T232) (g' := (mkF m 147 #[.val (.int p0_0), .val (.int p0_1), .val (.int p0_2), .val (.int p0_3), .val (.int p0_4), .val (.int i167), .val (.ref b169), .val (.int (p0_2 &&& (2147483647 : Int32))), .val (.ref b176), .val (.int i205), .val (.int i208), .val (.int (own_F9 (p0_4 &&& (3 : Int32)) i208)), .val (.ref b212), .unset] [(.int (own_F8 (if i167 = (0 : Int32) then (3 : Int32) else (2 : Int32))))])) st232 ?_
                refine own_by (T' := T232) (g' := (mkF m 151 #[.val (.int p0_0), .val (.int p0_1), .val (.int p0_2), .val (.int p0_3), .val (.int p0_4), .val (.int i167), .val (.ref b169), .val (.int (p0_2 &&& (2147483647 : Int32))), .val (.ref b176), .val (.int i205), .val (.int i208), .val (.int (own_F9 (p0_4 &&& (3 : Int32)) i208)), .val (.ref b212), .unset] [(.int i208), (.int (own_F9 (p0_4 &&& (3 : Int32)) i208)), (.int (own_F8 (if i167 = (0 : Int32) then (3 : Int32) else (2 : Int32))))])) (fun t k => ?_) ?_
                · show Steps p.tables e below (T232.setTop (mkF m 147 #[.val (.int p0_0), .val (.int p0_1), .val (.int p0_2), .val (.int p0_3), .val (.int p0_4), .val (.int i167), .val (.ref b169), .val (.int (p0_2 &&& (2147483647 : Int32))), .val (.ref b176), .val (.int i205), .val (.int i208), .val (.int (own_F9 (p0_4 &&& (3 : Int32)) i208)), .val (.ref b212), .unset] [(.int (own_F8 (if i167 = (0 : Int32) then (3 : Int32) else (2 : Int32))))])) t
                  refine XS.iload X232.here hx rfl (hb hby at_147) rfl ?_
                  show Steps p.tables e below (T232.setTop (mkF m 149 #[.val (.int p0_0), .val (.int p0_1), .val (.int p0_2), .val (.int p0_3), .val (.int p0_4), .val (.int i167), .val (.ref b169), .val (.int (p0_2 &&& (2147483647 : Int32))), .val (.ref b176), .val (.int i205), .val (.int i208), .val (.int (own_F9 (p0_4 &&& (3 : Int32)) i208)), .val (.ref b212), .unset] [(.int (own_F9 (p0_4 &&& (3 : Int32)) i208)), (.int (own_F8 (if i167 = (0 : Int32) then (3 : Int32) else (2 : Int32))))])) t
                  refine XS.iload X232.here hx rfl (hb hby at_149) rfl ?_
                  show Steps p.tables e below (T232.setTop (mkF m 151 #[.val (.int p0_0), .val (.int p0_1), .val (.int p0_2), .val (.int p0_3), .val (.int p0_4), .val (.int i167), .val (.ref b169), .val (.int (p0_2 &&& (2147483647 : Int32))), .val (.ref b176), .val (.int i205), .val (.int i208), .val (.int (own_F9 (p0_4 &&& (3 : Int32)) i208)), .val (.ref b212), .unset] [(.int i208), (.int (own_F9 (p0_4 &&& (3 : Int32)) i208)), (.int (own_F8 (if i167 = (0 : Int32) then (3 : Int32) else (2 : Int32))))])) t
                  exact k
                have J0_5 : ∀ (T236 : State) (L236 : List Loc) (i235 : Int32), Stand p l e room_1 s m #[(.int p0_0), (.int p0_1), (.int p0_2), (.int p0_3), (.int p0_4)] below meth c T236 L236 4 13 → T236.heap = T212.heap → Fr n0 L236 → own_Go p e below (own_P s below room_1 (own_Q0 (own_F0_159_5 p0_0 p0_1 p0_2 p0_3 p0_4 i167 i202 i205 i208 i235) h0 n0)) T236 (mkF m 159 #[.val (.int p0_0), .val (.int p0_1), .val (.int p0_2), .val (.int p0_3), .val (.int p0_4), .val (.int i167), .val (.ref b169), .val (.int (p0_2 &&& (2147483647 : Int32))), .val (.ref b176), .val (.int i205), .val (.int i208), .val (.int (own_F9 (p0_4 &&& (3 : Int32)) i208)), .val (.ref b212), .unset] [(.int i235), (.int (own_F8 (if i167 = (0 : Int32) then (3 : Int32) else (2 : Int32))))]) := by
                  intro T236 L236 i235 X236 e236 N236
                  have J0_6 : ∀ (T239 : State) (L239 : List Loc) (i238 : Int32), Stand p l e room_1 s m #[(.int p0_0), (.int p0_1), (.int p0_2), (.int p0_3), (.int p0_4)] below meth c T239 L239 4 13 → T239.heap = T212.heap → Fr n0 L239 → own_Go p e below (own_P s below room_1 (own_Q0 (own_F0_167_6 p0_0 p0_1 p0_2 p0_3 p0_4 i167 i202 i205 i208 i235 i238) h0 n0)) T239 (mkF m 167 #[.val (.int p0_0), .val (.int p0_1), .val (.int p0_2), .val (.int p0_3), .val (.int p0_4), .val (.int i167), .val (.ref b169), .val (.int (p0_2 &&& (2147483647 : Int32))), .val (.ref b176), .val (.int i205), .val (.int i208), .val (.int (own_F9 (p0_4 &&& (3 : Int32)) i208)), .val (.ref b212), .unset] [(.int i238)]) := by
                    intro T239 L239 i238 X239 e239 N239
                    refine own_by (T' := T239) (g' := (mkF m 171 #[.val (.int p0_0), .val (.int p0_1), .val (.int p0_2), .val (.int p0_3), .val (.int p0_4), .val (.int i167), .val (.ref b169), .val (.int (p0_2 &&& (2147483647 : Int32))), .val (.ref b176), .val (.int i205), .val (.int i208), .val (.int (own_F9 (p0_4 &&& (3 : Int32)) i208)), .val (.ref b212), .val (.int i238)] [(.int i205)])) (fun t k => ?_) ?_
                    · show Steps p.tables e below (T239.setTop (mkF m 167 #[.val (.int p0_0), .val (.int p0_1), .val (.int p0_2), .val (.int p0_3), .val (.int p0_4), .val (.int i167), .val (.ref b169), .val (.int (p0_2 &&& (2147483647 : Int32))), .val (.ref b176), .val (.int i205), .val (.int i208), .val (.int (own_F9 (p0_4 &&& (3 : Int32)) i208)), .val (.ref b212), .unset] [(.int i238)])) t
                      refine XS.istore X239.here hx rfl (hb hby at_167) rfl (l' := #[.val (.int p0_0), .val (.int p0_1), .val (.int p0_2), .val (.int p0_3), .val (.int p0_4), .val (.int i167), .val (.ref b169), .val (.int (p0_2 &&& (2147483647 : Int32))), .val (.ref b176), .val (.int i205), .val (.int i208), .val (.int (own_F9 (p0_4 &&& (3 : Int32)) i208)), .val (.ref b212), .val (.int i238)]) rfl ?_
                      show Steps p.tables e below (T239.setTop (mkF m 169 #[.val (.int p0_0), .val (.int p0_1), .val (.int p0_2), .val (.int p0_3), .val (.int p0_4), .val (.int i167), .val (.ref b169), .val (.int (p0_2 &&& (2147483647 : Int32))), .val (.ref b176), .val (.int i205), .val (.int i208), .val (.int (own_F9 (p0_4 &&& (3 : Int32)) i208)), .val (.ref b212), .val (.int i238)] [])) t
                      refine XS.iload X239.here hx rfl (hb hby at_169) rfl ?_
                      show Steps p.tables e below (T239.setTop (mkF m 171 #[.val (.int p0_0), .val (.int p0_1), .val (.int p0_2), .val (.int p0_3), .val (.int p0_4), .val (.int i167), .val (.ref b169), .val (.int (p0_2 &&& (2147483647 : Int32))), .val (.ref b176), .val (.int i205), .val (.int i208), .val (.int (own_F9 (p0_4 &&& (3 : Int32)) i208)), .val (.ref b212), .val (.int i238)] [(.int i205)])) t
                      exact k
                    by_cases hc240 : i205 = (0 : Int32)
                    · skip
                      refine own_by (T' := T239) (g' := (mkF m 184 #[.val (.int p0_0), .val (.int p0_1), .val (.int p0_2), .val (.int p0_3), .val (.int p0_4), .val (.int i167), .val (.ref b169), .val (.int (p0_2 &&& (2147483647 : Int32))), .val (.ref b176), .val (.int i205), .val (.int i208), .val (.int (own_F9 (p0_4 &&& (3 : Int32)) i208)), .val (.ref b212), .val (.int i238)] [(.int (0 : Int32))])) (fun t k => ?_) ?_
                      · show Steps p.tables e below (T239.setTop (mkF m 171 #[.val (.int p0_0), .val (.int p0_1), .val (.int p0_2), .val (.int p0_3), .val (.int p0_4), .val (.int i167), .val (.ref b169), .val (.int (p0_2 &&& (2147483647 : Int32))), .val (.ref b176), .val (.int i205), .val (.int i208), .val (.int (own_F9 (p0_4 &&& (3 : Int32)) i208)), .val (.ref b212), .val (.int i238)] [(.int i205)])) t
                        refine XS.ifYes X239.here hx rfl (pc0 := 171) (pc' := 183) rfl (hb hby at_171) rfl ((if0 _ _).trans (teq hc240).1) (by decide) (by decide) ?_
                        show Steps p.tables e below (T239.setTop (mkF m 183 #[.val (.int p0_0), .val (.int p0_1), .val (.int p0_2), .val (.int p0_3), .val (.int p0_4), .val (.int i167), .val (.ref b169), .val (.int (p0_2 &&& (2147483647 : Int32))), .val (.ref b176), .val (.int i205), .val (.int i208), .val (.int (own_F9 (p0_4 &&& (3 : Int32)) i208)), .val (.ref b212), .val (.int i238)] [])) t
                        refine XS.iconst X239.here hx rfl (hb hby at_183) ?_
                        show Steps p.tables e below (T239.setTop (mkF m 184 #[.val (.int p0_0), .val (.int p0_1), .val (.int p0_2), .val (.int p0_3), .val (.int p0_4), .val (.int i167), .val (.ref b169), .val (.int (p0_2 &&& (2147483647 : Int32))), .val (.ref b176), .val (.int i205), .val (.int i208), .val (.int (own_F9 (p0_4 &&& (3 : Int32)) i208)), .val (.ref b212), .val (.int i238)] [(.int (0 : Int32))])) t
                        exact k
                      rw [show own_F0_167_6 p0_0 p0_1 p0_2 p0_3 p0_4 i167 i202 i205 i208 i235 i238 = (0 : Int32) from ((if_pos hc240).trans rfl)]
                      exact own_retN X239 hx (t := .boolean) Bd.returns (by simp) (hb hby at_184) hlk (by decide) (by decide) ⟨rfl, N239⟩
                    · skip
                      refine own_by (T' := T239) (g' := (mkF m 176 #[.val (.int p0_0), .val (.int p0_1), .val (.int p0_2), .val (.int p0_3), .val (.int p0_4), .val (.int i167), .val (.ref b169), .val (.int (p0_2 &&& (2147483647 : Int32))), .val (.ref b176), .val (.int i205), .val (.int i208), .val (.int (own_F9 (p0_4 &&& (3 : Int32)) i208)), .val (.ref b212), .val (.int i238)] [(.int i238)])) (fun t k => ?_) ?_
                      · show Steps p.tables e below (T239.setTop (mkF m 171 #[.val (.int p0_0), .val (.int p0_1), .val (.int p0_2), .val (.int p0_3), .val (.int p0_4), .val (.int i167), .val (.ref b169), .val (.int (p0_2 &&& (2147483647 : Int32))), .val (.ref b176), .val (.int i205), .val (.int i208), .val (.int (own_F9 (p0_4 &&& (3 : Int32)) i208)), .val (.ref b212), .val (.int i238)] [(.int i205)])) t
                        refine XS.ifNo X239.here hx rfl (hb hby at_171) rfl ((if0 _ _).trans (feq hc240).1) ?_
                        show Steps p.tables e below (T239.setTop (mkF m 174 #[.val (.int p0_0), .val (.int p0_1), .val (.int p0_2), .val (.int p0_3), .val (.int p0_4), .val (.int i167), .val (.ref b169), .val (.int (p0_2 &&& (2147483647 : Int32))), .val (.ref b176), .val (.int i205), .val (.int i208), .val (.int (own_F9 (p0_4 &&& (3 : Int32)) i208)), .val (.ref b212), .val (.int i238)] [])) t
                        refine XS.iload X239.here hx rfl (hb hby at_174) rfl ?_
                        show Steps p.tables e below (T239.setTop (mkF m 176 #[.val (.int p0_0), .val (.int p0_1), .val (.int p0_2), .val (.int p0_3), .val (.int p0_4), .val (.int i167), .val (.ref b169), .val (.int (p0_2 &&& (2147483647 : Int32))), .val (.ref b176), .val (.int i205), .val (.int i208), .val (.int (own_F9 (p0_4 &&& (3 : Int32)) i208)), .val (.ref b212), .val (.int i238)] [(.int i238)])) t
                        exact k
                      by_cases hc242 : i238 = (0 : Int32)
                      · skip
                        refine own_by (T' := T239) (g' := (mkF m 184 #[.val (.int p0_0), .val (.int p0_1), .val (.int p0_2), .val (.int p0_3), .val (.int p0_4), .val (.int i167), .val (.ref b169), .val (.int (p0_2 &&& (2147483647 : Int32))), .val (.ref b176), .val (.int i205), .val (.int i208), .val (.int (own_F9 (p0_4 &&& (3 : Int32)) i208)), .val (.ref b212), .val (.int i238)] [(.int (0 : Int32))])) (fun t k => ?_) ?_
                        · show Steps p.tables e below (T239.setTop (mkF m 176 #[.val (.int p0_0), .val (.int p0_1), .val (.int p0_2), .val (.int p0_3), .val (.int p0_4), .val (.int i167), .val (.ref b169), .val (.int (p0_2 &&& (2147483647 : Int32))), .val (.ref b176), .val (.int i205), .val (.int i208), .val (.int (own_F9 (p0_4 &&& (3 : Int32)) i208)), .val (.ref b212), .val (.int i238)] [(.int i238)])) t
                          refine XS.ifYes X239.here hx rfl (pc0 := 176) (pc' := 183) rfl (hb hby at_176) rfl ((if0 _ _).trans (teq hc242).1) (by decide) (by decide) ?_
                          show Steps p.tables e below (T239.setTop (mkF m 183 #[.val (.int p0_0), .val (.int p0_1), .val (.int p0_2), .val (.int p0_3), .val (.int p0_4), .val (.int i167), .val (.ref b169), .val (.int (p0_2 &&& (2147483647 : Int32))), .val (.ref b176), .val (.int i205), .val (.int i208), .val (.int (own_F9 (p0_4 &&& (3 : Int32)) i208)), .val (.ref b212), .val (.int i238)] [])) t
                          refine XS.iconst X239.here hx rfl (hb hby at_183) ?_
                          show Steps p.tables e below (T239.setTop (mkF m 184 #[.val (.int p0_0), .val (.int p0_1), .val (.int p0_2), .val (.int p0_3), .val (.int p0_4), .val (.int i167), .val (.ref b169), .val (.int (p0_2 &&& (2147483647 : Int32))), .val (.ref b176), .val (.int i205), .val (.int i208), .val (.int (own_F9 (p0_4 &&& (3 : Int32)) i208)), .val (.ref b212), .val (.int i238)] [(.int (0 : Int32))])) t
                          exact k
                        rw [show own_F0_167_6 p0_0 p0_1 p0_2 p0_3 p0_4 i167 i202 i205 i208 i235 i238 = (0 : Int32) from ((if_neg hc240).trans ((if_pos hc242).trans rfl))]
                        exact own_retN X239 hx (t := .boolean) Bd.returns (by simp) (hb hby at_184) hlk (by decide) (by decide) ⟨rfl, N239⟩
                      · skip
                        refine own_by (T' := T239) (g' := (mkF m 184 #[.val (.int p0_0), .val (.int p0_1), .val (.int p0_2), .val (.int p0_3), .val (.int p0_4), .val (.int i167), .val (.ref b169), .val (.int (p0_2 &&& (2147483647 : Int32))), .val (.ref b176), .val (.int i205), .val (.int i208), .val (.int (own_F9 (p0_4 &&& (3 : Int32)) i208)), .val (.ref b212), .val (.int i238)] [(.int (1 : Int32))])) (fun t k => ?_) ?_
                        · show Steps p.tables e below (T239.setTop (mkF m 176 #[.val (.int p0_0), .val (.int p0_1), .val (.int p0_2), .val (.int p0_3), .val (.int p0_4), .val (.int i167), .val (.ref b169), .val (.int (p0_2 &&& (2147483647 : Int32))), .val (.ref b176), .val (.int i205), .val (.int i208), .val (.int (own_F9 (p0_4 &&& (3 : Int32)) i208)), .val (.ref b212), .val (.int i238)] [(.int i238)])) t
                          refine XS.ifNo X239.here hx rfl (hb hby at_176) rfl ((if0 _ _).trans (feq hc242).1) ?_
                          show Steps p.tables e below (T239.setTop (mkF m 179 #[.val (.int p0_0), .val (.int p0_1), .val (.int p0_2), .val (.int p0_3), .val (.int p0_4), .val (.int i167), .val (.ref b169), .val (.int (p0_2 &&& (2147483647 : Int32))), .val (.ref b176), .val (.int i205), .val (.int i208), .val (.int (own_F9 (p0_4 &&& (3 : Int32)) i208)), .val (.ref b212), .val (.int i238)] [])) t
                          refine XS.iconst X239.here hx rfl (hb hby at_179) ?_
                          show Steps p.tables e below (T239.setTop (mkF m 180 #[.val (.int p0_0), .val (.int p0_1), .val (.int p0_2), .val (.int p0_3), .val (.int p0_4), .val (.int i167), .val (.ref b169), .val (.int (p0_2 &&& (2147483647 : Int32))), .val (.ref b176), .val (.int i205), .val (.int i208), .val (.int (own_F9 (p0_4 &&& (3 : Int32)) i208)), .val (.ref b212), .val (.int i238)] [(.int (1 : Int32))])) t
                          refine XS.goto X239.here hx rfl (pc0 := 180) (pc' := 184) rfl (hb hby at_180) (by decide) (by decide) ?_
                          show Steps p.tables e below (T239.setTop (mkF m 184 #[.val (.int p0_0), .val (.int p0_1), .val (.int p0_2), .val (.int p0_3), .val (.int p0_4), .val (.int i167), .val (.ref b169), .val (.int (p0_2 &&& (2147483647 : Int32))), .val (.ref b176), .val (.int i205), .val (.int i208), .val (.int (own_F9 (p0_4 &&& (3 : Int32)) i208)), .val (.ref b212), .val (.int i238)] [(.int (1 : Int32))])) t
                          exact k
                        rw [show own_F0_167_6 p0_0 p0_1 p0_2 p0_3 p0_4 i167 i202 i205 i208 i235 i238 = (1 : Int32) from ((if_neg hc240).trans ((if_neg hc242).trans rfl))]
                        exact own_retN X239 hx (t := .boolean) Bd.returns (by simp) (hb hby at_184) hlk (by decide) (by decide) ⟨rfl, N239⟩
                  by_cases hc237 : (own_F8 (if i167 = (0 : Int32) then (3 : Int32) else (2 : Int32))) = i235
                  · skip
                    refine own_by (T' := T236) (g' := (mkF m 167 #[.val (.int p0_0), .val (.int p0_1), .val (.int p0_2), .val (.int p0_3), .val (.int p0_4), .val (.int i167), .val (.ref b169), .val (.int (p0_2 &&& (2147483647 : Int32))), .val (.ref b176), .val (.int i205), .val (.int i208), .val (.int (own_F9 (p0_4 &&& (3 : Int32)) i208)), .val (.ref b212), .unset] [(.int (1 : Int32))])) (fun t k => ?_) ?_
                    · show Steps p.tables e below (T236.setTop (mkF m 159 #[.val (.int p0_0), .val (.int p0_1), .val (.int p0_2), .val (.int p0_3), .val (.int p0_4), .val (.int i167), .val (.ref b169), .val (.int (p0_2 &&& (2147483647 : Int32))), .val (.ref b176), .val (.int i205), .val (.int i208), .val (.int (own_F9 (p0_4 &&& (3 : Int32)) i208)), .val (.ref b212), .unset] [(.int i235), (.int (own_F8 (if i167 = (0 : Int32) then (3 : Int32) else (2 : Int32))))])) t
                      refine XS.icmpNo X236.here hx rfl (hb hby at_159) rfl (teq hc237).2 ?_
                      show Steps p.tables e below (T236.setTop (mkF m 162 #[.val (.int p0_0), .val (.int p0_1), .val (.int p0_2), .val (.int p0_3), .val (.int p0_4), .val (.int i167), .val (.ref b169), .val (.int (p0_2 &&& (2147483647 : Int32))), .val (.ref b176), .val (.int i205), .val (.int i208), .val (.int (own_F9 (p0_4 &&& (3 : Int32)) i208)), .val (.ref b212), .unset] [])) t
                      refine XS.iconst X236.here hx rfl (hb hby at_162) ?_
                      show Steps p.tables e below (T236.setTop (mkF m 163 #[.val (.int p0_0), .val (.int p0_1), .val (.int p0_2), .val (.int p0_3), .val (.int p0_4), .val (.int i167), .val (.ref b169), .val (.int (p0_2 &&& (2147483647 : Int32))), .val (.ref b176), .val (.int i205), .val (.int i208), .val (.int (own_F9 (p0_4 &&& (3 : Int32)) i208)), .val (.ref b212), .unset] [(.int (1 : Int32))])) t
                      refine XS.goto X236.here hx rfl (pc0 := 163) (pc' := 167) rfl (hb hby at_163) (by decide) (by decide) ?_
                      show Steps p.tables e below (T236.setTop (mkF m 167 #[.val (.int p0_0), .val (.int p0_1), .val (.int p0_2), .val (.int p0_3), .val (.int p0_4), .val (.int i167), .val (.ref b169), .val (.int (p0_2 &&& (2147483647 : Int32))), .val (.ref b176), .val (.int i205), .val (.int i208), .val (.int (own_F9 (p0_4 &&& (3 : Int32)) i208)), .val (.ref b212), .unset] [(.int (1 : Int32))])) t
                      exact k
                    rw [show own_F0_159_5 p0_0 p0_1 p0_2 p0_3 p0_4 i167 i202 i205 i208 i235 = (own_F0_167_6 p0_0 p0_1 p0_2 p0_3 p0_4 i167 i202 i205 i208 i235 (1 : Int32)) from ((if_pos hc237).trans rfl)]
                    exact J0_6 _ _ (1 : Int32) X236 e236 N236
                  · skip
                    refine own_by (T' := T236) (g' := (mkF m 167 #[.val (.int p0_0), .val (.int p0_1), .val (.int p0_2), .val (.int p0_3), .val (.int p0_4), .val (.int i167), .val (.ref b169), .val (.int (p0_2 &&& (2147483647 : Int32))), .val (.ref b176), .val (.int i205), .val (.int i208), .val (.int (own_F9 (p0_4 &&& (3 : Int32)) i208)), .val (.ref b212), .unset] [(.int (0 : Int32))])) (fun t k => ?_) ?_
                    · show Steps p.tables e below (T236.setTop (mkF m 159 #[.val (.int p0_0), .val (.int p0_1), .val (.int p0_2), .val (.int p0_3), .val (.int p0_4), .val (.int i167), .val (.ref b169), .val (.int (p0_2 &&& (2147483647 : Int32))), .val (.ref b176), .val (.int i205), .val (.int i208), .val (.int (own_F9 (p0_4 &&& (3 : Int32)) i208)), .val (.ref b212), .unset] [(.int i235), (.int (own_F8 (if i167 = (0 : Int32) then (3 : Int32) else (2 : Int32))))])) t
                      refine XS.icmpYes X236.here hx rfl (pc0 := 159) (pc' := 166) rfl (hb hby at_159) rfl (feq hc237).2 (by decide) (by decide) ?_
                      show Steps p.tables e below (T236.setTop (mkF m 166 #[.val (.int p0_0), .val (.int p0_1), .val (.int p0_2), .val (.int p0_3), .val (.int p0_4), .val (.int i167), .val (.ref b169), .val (.int (p0_2 &&& (2147483647 : Int32))), .val (.ref b176), .val (.int i205), .val (.int i208), .val (.int (own_F9 (p0_4 &&& (3 : Int32)) i208)), .val (.ref b212), .unset] [])) t
                      refine XS.iconst X236.here hx rfl (hb hby at_166) ?_
                      show Steps p.tables e below (T236.setTop (mkF m 167 #[.val (.int p0_0), .val (.int p0_1), .val (.int p0_2), .val (.int p0_3), .val (.int p0_4), .val (.int i167), .val (.ref b169), .val (.int (p0_2 &&& (2147483647 : Int32))), .val (.ref b176), .val (.int i205), .val (.int i208), .val (.int (own_F9 (p0_4 &&& (3 : Int32)) i208)), .val (.ref b212), .unset] [(.int (0 : Int32))])) t
                      exact k
                    rw [show own_F0_159_5 p0_0 p0_1 p0_2 p0_3 p0_4 i167 i202 i205 i208 i235 = (own_F0_167_6 p0_0 p0_1 p0_2 p0_3 p0_4 i167 i202 i205 i208 i235 (0 : Int32)) from ((if_neg hc237).trans rfl)]
                    exact J0_6 _ _ (0 : Int32) X236 e236 N236
                by_cases hc234 : (own_F9 (p0_4 &&& (3 : Int32)) i208) = i208
                · skip
                  refine own_by (T' := T232) (g' := (mkF m 159 #[.val (.int p0_0), .val (.int p0_1), .val (.int p0_2), .val (.int p0_3), .val (.int p0_4), .val (.int i167), .val (.ref b169), .val (.int (p0_2 &&& (2147483647 : Int32))), .val (.ref b176), .val (.int i205), .val (.int i208), .val (.int (own_F9 (p0_4 &&& (3 : Int32)) i208)), .val (.ref b212), .unset] [(.int (1 : Int32)), (.int (own_F8 (if i167 = (0 : Int32) then (3 : Int32) else (2 : Int32))))])) (fun t k => ?_) ?_
                  · show Steps p.tables e below (T232.setTop (mkF m 151 #[.val (.int p0_0), .val (.int p0_1), .val (.int p0_2), .val (.int p0_3), .val (.int p0_4), .val (.int i167), .val (.ref b169), .val (.int (p0_2 &&& (2147483647 : Int32))), .val (.ref b176), .val (.int i205), .val (.int i208), .val (.int (own_F9 (p0_4 &&& (3 : Int32)) i208)), .val (.ref b212), .unset] [(.int i208), (.int (own_F9 (p0_4 &&& (3 : Int32)) i208)), (.int (own_F8 (if i167 = (0 : Int32) then (3 : Int32) else (2 : Int32))))])) t
                    refine XS.icmpNo X232.here hx rfl (hb hby at_151) rfl (teq hc234).2 ?_
                    show Steps p.tables e below (T232.setTop (mkF m 154 #[.val (.int p0_0), .val (.int p0_1), .val (.int p0_2), .val (.int p0_3), .val (.int p0_4), .val (.int i167), .val (.ref b169), .val (.int (p0_2 &&& (2147483647 : Int32))), .val (.ref b176), .val (.int i205), .val (.int i208), .val (.int (own_F9 (p0_4 &&& (3 : Int32)) i208)), .val (.ref b212), .unset] [(.int (own_F8 (if i167 = (0 : Int32) then (3 : Int32) else (2 : Int32))))])) t
                    refine XS.iconst X232.here hx rfl (hb hby at_154) ?_
                    show Steps p.tables e below (T232.setTop (mkF m 155 #[.val (.int p0_0), .val (.int p0_1), .val (.int p0_2), .val (.int p0_3), .val (.int p0_4), .val (.int i167), .val (.ref b169), .val (.int (p0_2 &&& (2147483647 : Int32))), .val (.ref b176), .val (.int i205), .val (.int i208), .val (.int (own_F9 (p0_4 &&& (3 : Int32)) i208)), .val (.ref b212), .unset] [(.int (1 : Int32)), (.int (own_F8 (if i167 = (0 : Int32) then (3 : Int32) else (2 : Int32))))])) t
                    refine XS.goto X232.here hx rfl (pc0 := 155) (pc' := 159) rfl (hb hby at_155) (by decide) (by decide) ?_
                    show Steps p.tables e below (T232.setTop (mkF m 159 #[.val (.int p0_0), .val (.int p0_1), .val (.int p0_2), .val (.int p0_3), .val (.int p0_4), .val (.int i167), .val (.ref b169), .val (.int (p0_2 &&& (2147483647 : Int32))), .val (.ref b176), .val (.int i205), .val (.int i208), .val (.int (own_F9 (p0_4 &&& (3 : Int32)) i208)), .val (.ref b212), .unset] [(.int (1 : Int32)), (.int (own_F8 (if i167 = (0 : Int32) then (3 : Int32) else (2 : Int32))))])) t
                    exact k
                  rw [show own_F0_81_4 p0_0 p0_1 p0_2 p0_3 p0_4 i167 i202 i205 i208 = (own_F0_159_5 p0_0 p0_1 p0_2 p0_3 p0_4 i167 i202 i205 i208 (1 : Int32)) from ((if_pos hc229).trans ((if_pos hc230).trans ((if_pos hc231).trans ((if_pos hc234).trans rfl))))]
                  exact J0_5 _ _ (1 : Int32) X232 e232 N233
                · skip
                  refine own_by (T' := T232) (g' := (mkF m 159 #[.val (.int p0_0), .val (.int p0_1), .val (.int p0_2), .val (.int p0_3), .val (.int p0_4), .val (.int i167), .val (.ref b169), .val (.int (p0_2 &&& (2147483647 : Int32))), .val (.ref b176), .val (.int i205), .val (.int i208), .val (.int (own_F9 (p0_4 &&& (3 : Int32)) i208)), .val (.ref b212), .unset] [(.int (0 : Int32)), (.int (own_F8 (if i167 = (0 : Int32) then (3 : Int32) else (2 : Int32))))])) (fun t k => ?_) ?_
                  · show Steps p.tables e below (T232.setTop (mkF m 151 #[.val (.int p0_0), .val (.int p0_1), .val (.int p0_2), .val (.int p0_3), .val (.int p0_4), .val (.int i167), .val (.ref b169), .val (.int (p0_2 &&& (2147483647 : Int32))), .val (.ref b176), .val (.int i205), .val (.int i208), .val (.int (own_F9 (p0_4 &&& (3 : Int32)) i208)), .val (.ref b212), .unset] [(.int i208), (.int (own_F9 (p0_4 &&& (3 : Int32)) i208)), (.int (own_F8 (if i167 = (0 : Int32) then (3 : Int32) else (2 : Int32))))])) t
                    refine XS.icmpYes X232.here hx rfl (pc0 := 151) (pc' := 158) rfl (hb hby at_151) rfl (feq hc234).2 (by decide) (by decide) ?_
                    show Steps p.tables e below (T232.setTop (mkF m 158 #[.val (.int p0_0), .val (.int p0_1), .val (.int p0_2), .val (.int p0_3), .val (.int p0_4), .val (.int i167), .val (.ref b169), .val (.int (p0_2 &&& (2147483647 : Int32))), .val (.ref b176), .val (.int i205), .val (.int i208), .val (.int (own_F9 (p0_4 &&& (3 : Int32)) i208)), .val (.ref b212), .unset] [(.int (own_F8 (if i167 = (0 : Int32) then (3 : Int32) else (2 : Int32))))])) t
                    refine XS.iconst X232.here hx rfl (hb hby at_158) ?_
                    show Steps p.tables e below (T232.setTop (mkF m 159 #[.val (.int p0_0), .val (.int p0_1), .val (.int p0_2), .val (.int p0_3), .val (.int p0_4), .val (.int i167), .val (.ref b169), .val (.int (p0_2 &&& (2147483647 : Int32))), .val (.ref b176), .val (.int i205), .val (.int i208), .val (.int (own_F9 (p0_4 &&& (3 : Int32)) i208)), .val (.ref b212), .unset] [(.int (0 : Int32)), (.int (own_F8 (if i167 = (0 : Int32) then (3 : Int32) else (2 : Int32))))])) t
                    exact k
                  rw [show own_F0_81_4 p0_0 p0_1 p0_2 p0_3 p0_4 i167 i202 i205 i208 = (own_F0_159_5 p0_0 p0_1 p0_2 p0_3 p0_4 i167 i202 i205 i208 (0 : Int32)) from ((if_pos hc229).trans ((if_pos hc230).trans ((if_pos hc231).trans ((if_neg hc234).trans rfl))))]
                  exact J0_5 _ _ (0 : Int32) X232 e232 N233
              · skip
                refine own_by (T' := T212) (g' := (mkF m 137 #[.val (.int p0_0), .val (.int p0_1), .val (.int p0_2), .val (.int p0_3), .val (.int p0_4), .val (.int i167), .val (.ref b169), .val (.int (p0_2 &&& (2147483647 : Int32))), .val (.ref b176), .val (.int i205), .val (.int i208), .val (.int (own_F9 (p0_4 &&& (3 : Int32)) i208)), .val (.ref b212), .unset] [(.ref b212)])) (fun t k => ?_) ?_
                · show Steps p.tables e below (T212.setTop (mkF m 132 #[.val (.int p0_0), .val (.int p0_1), .val (.int p0_2), .val (.int p0_3), .val (.int p0_4), .val (.int i167), .val (.ref b169), .val (.int (p0_2 &&& (2147483647 : Int32))), .val (.ref b176), .val (.int i205), .val (.int i208), .val (.int (own_F9 (p0_4 &&& (3 : Int32)) i208)), .val (.ref b212), .unset] [(.int (3 : Int32)), (.int (own_F9 (p0_4 &&& (3 : Int32)) i208))])) t
                  refine XS.icmpNo X212.here hx rfl (hb hby at_132) rfl (flt hc231).1 ?_
                  show Steps p.tables e below (T212.setTop (mkF m 135 #[.val (.int p0_0), .val (.int p0_1), .val (.int p0_2), .val (.int p0_3), .val (.int p0_4), .val (.int i167), .val (.ref b169), .val (.int (p0_2 &&& (2147483647 : Int32))), .val (.ref b176), .val (.int i205), .val (.int i208), .val (.int (own_F9 (p0_4 &&& (3 : Int32)) i208)), .val (.ref b212), .unset] [])) t
                  refine XS.aload X212.here hx rfl (hb hby at_135) rfl rfl ?_
                  show Steps p.tables e below (T212.setTop (mkF m 137 #[.val (.int p0_0), .val (.int p0_1), .val (.int p0_2), .val (.int p0_3), .val (.int p0_4), .val (.int i167), .val (.ref b169), .val (.int (p0_2 &&& (2147483647 : Int32))), .val (.ref b176), .val (.int i205), .val (.int i208), .val (.int (own_F9 (p0_4 &&& (3 : Int32)) i208)), .val (.ref b212), .unset] [(.ref b212)])) t
                  exact k
                obtain ⟨cq243, kq243, q243a, q243b, q243c⟩ := isOf hZ rfl f213
                obtain ⟨v243, _, ⟨T243, L243, k243, n243⟩, -, X243, ⟨Lc243, hQ243, l243, y243, z243⟩, st243⟩ := X212.virtualBack hx (y := (⟨"com/example/topping_out/toppingout/game/Player", "lessACertificate", "()Lcom/example/topping_out/toppingout/game/Player;"⟩ : MethodName)) (z := (⟨"com/example/topping_out/toppingout/game/Player", "lessACertificate", "()Lcom/example/topping_out/toppingout/game/Player;"⟩ : MethodName)) hown (mvT hZ (hw _ (List.mem_of_getElem? (i := 61) rfl))) (mvT hZ (hw _ (List.mem_of_getElem? (i := 62) rfl))) (notFace_of_selects (args := #[]) (mvT hZ (hw _ (List.mem_of_getElem? (i := 64) rfl)))) (mvT hZ (hw _ (List.mem_of_getElem? (i := 64) rfl))) (mvT hZ (hw _ (List.mem_of_getElem? (i := 63) rfl))) (by decide) (backOf (W := 0) (own_rm11 l Z a0 hw [] b212 b169 (nar .boolean i167) (if i167 = (0 : Int32) then (3 : Int32) else (2 : Int32)) (0 : Int32) T212.heap n0 Z227 f214 f215 f216 f217) hZ (hw _ (List.mem_of_getElem? (i := 65) rfl)) (hw _ (List.mem_of_getElem? (i := 29) rfl)) (by decide) (by decide)) q243a q243c (g := (mkF m 137 #[.val (.int p0_0), .val (.int p0_1), .val (.int p0_2), .val (.int p0_3), .val (.int p0_4), .val (.int i167), .val (.ref b169), .val (.int (p0_2 &&& (2147483647 : Int32))), .val (.ref b176), .val (.int i205), .val (.int i208), .val (.int (own_F9 (p0_4 &&& (3 : Int32)) i208)), .val (.ref b212), .unset] [(.ref b212)])) rfl (by rw [hml]; rfl) (Steps.refl _) (argsL := []) (rest := []) (lenOf pd___Lcom_example_topping_out_toppingout_game_Player_ rfl) rfl (by show 2 * 0 + _ ≤ _; exact Nat.le_of_eq rfl) (hb hby at_137) (fun _ _ => ⟨rfl, rfl, (by decide : 4 + 1 ≤ _), (by decide : 13 + 4 ≤ _)⟩)
                dsimp only [Pt.U, Pt.locs, Pt.cells, Pt.slots] at X243 l243 y243 z243 st243 hQ243
                subst l243 y243 z243
                obtain ⟨b243, rfl, M243, K243, sz243, gn243, f244, f245, f246, f247, f248⟩ := hQ243
                have f249 := f218.keep K243
                have f250 := f219.keep K243 nin0
                have f251 := f220.keep K243
                have f252 := f221.keep K243 nin0
                have f253 := f222.keep K243 nin0
                have f254 := f223.keep K243 nin0
                have f255 := f224.keep K243 nin0
                have f256 := f213.keep K243
                have f257 := f214.keep K243 nin0
                have f258 := f215.keep K243 nin0
                have f259 := f216.keep K243 nin0
                have f260 := f217.keep K243 nin0
                have K261 : Keep h0 T243.heap [] := K225.trans K243 all0
                have O262 := O226.keep K243 all0
                have Z263 := Nat.le_trans Z227 K243.1
                have sz_b243 : h0.size ≤ b243 := Nat.le_trans K225.1 sz243
                have ne_b169_b243 : b169 ≠ b243 := Nat.ne_of_lt (Nat.lt_of_lt_of_le f219.lt sz243)
                have ne_b176_b243 : b176 ≠ b243 := Nat.ne_of_lt (Nat.lt_of_lt_of_le f224.lt sz243)
                have ne_b212_b243 : b212 ≠ b243 := Nat.ne_of_lt (Nat.lt_of_lt_of_le f217.lt sz243)
                have N264 := Fr.app N228 M243
                refine own_via (T' := T243) (g' := (mkF m 140 #[.val (.int p0_0), .val (.int p0_1), .val (.int p0_2), .val (.int p0_3), .val (.int p0_4), .val (.int i167), .val (.ref b169), .val (.int (p0_2 &&& (2147483647 : Int32))), .val (.ref b176), .val (.int i205), .val (.int i208), .val (.int (own_F9 (p0_4 &&& (3 : Int32)) i208)), .val (.ref b212), .unset] [(.ref b243)])) st243 ?_
                refine own_by (T' := T243) (g' := (mkF m 144 #[.val (.int p0_0), .val (.int p0_1), .val (.int p0_2), .val (.int p0_3), .val (.int p0_4), .val (.int i167), .val (.ref b169), .val (.int (p0_2 &&& (2147483647 : Int32))), .val (.ref b176), .val (.int i205), .val (.int i208), .val (.int (own_F9 (p0_4 &&& (3 : Int32)) i208)), .val (.ref b243), .unset] [(.ref b243)])) (fun t k => ?_) ?_
                · show Steps p.tables e below (T243.setTop (mkF m 140 #[.val (.int p0_0), .val (.int p0_1), .val (.int p0_2), .val (.int p0_3), .val (.int p0_4), .val (.int i167), .val (.ref b169), .val (.int (p0_2 &&& (2147483647 : Int32))), .val (.ref b176), .val (.int i205), .val (.int i208), .val (.int (own_F9 (p0_4 &&& (3 : Int32)) i208)), .val (.ref b212), .unset] [(.ref b243)])) t
                  refine XS.astore X243.here hx rfl (hb hby at_140) rfl rfl (l' := #[.val (.int p0_0), .val (.int p0_1), .val (.int p0_2), .val (.int p0_3), .val (.int p0_4), .val (.int i167), .val (.ref b169), .val (.int (p0_2 &&& (2147483647 : Int32))), .val (.ref b176), .val (.int i205), .val (.int i208), .val (.int (own_F9 (p0_4 &&& (3 : Int32)) i208)), .val (.ref b243), .unset]) rfl ?_
                  show Steps p.tables e below (T243.setTop (mkF m 142 #[.val (.int p0_0), .val (.int p0_1), .val (.int p0_2), .val (.int p0_3), .val (.int p0_4), .val (.int i167), .val (.ref b169), .val (.int (p0_2 &&& (2147483647 : Int32))), .val (.ref b176), .val (.int i205), .val (.int i208), .val (.int (own_F9 (p0_4 &&& (3 : Int32)) i208)), .val (.ref b243), .unset] [])) t
                  refine XS.aload X243.here hx rfl (hb hby at_142) rfl rfl ?_
                  show Steps p.tables e below (T243.setTop (mkF m 144 #[.val (.int p0_0), .val (.int p0_1), .val (.int p0_2), .val (.int p0_3), .val (.int p0_4), .val (.int i167), .val (.ref b169), .val (.int (p0_2 &&& (2147483647 : Int32))), .val (.ref b176), .val (.int i205), .val (.int i208), .val (.int (own_F9 (p0_4 &&& (3 : Int32)) i208)), .val (.ref b243), .unset] [(.ref b243)])) t
                  exact k
                obtain ⟨cq265, kq265, q265a, q265b, q265c⟩ := isOf hZ rfl f244
                obtain ⟨v265, _, ⟨T265, L265, k265, n265⟩, -, X265, ⟨Lc265, hQ265, l265, y265, z265⟩, st265⟩ := X243.virtualBack hx (y := (⟨"com/example/topping_out/toppingout/game/Player", "out", "()Z"⟩ : MethodName)) (z := (⟨"com/example/topping_out/toppingout/game/Player", "out", "()Z"⟩ : MethodName)) hown (mvT hZ (hw _ (List.mem_of_getElem? (i := 47) rfl))) (mvT hZ (hw _ (List.mem_of_getElem? (i := 48) rfl))) (notFace_of_selects (args := #[]) (mvT hZ (hw _ (List.mem_of_getElem? (i := 50) rfl)))) (mvT hZ (hw _ (List.mem_of_getElem? (i := 50) rfl))) (mvT hZ (hw _ (List.mem_of_getElem? (i := 49) rfl))) (by decide) (backOf (W := 0) (own_rm8 l Z a0 hw [] b243 ((if i167 = (0 : Int32) then (3 : Int32) else (2 : Int32)) - (1 : Int32)) T243.heap n0 Z263 f247) hZ (hw _ (List.mem_of_getElem? (i := 51) rfl)) (hw _ (List.mem_of_getElem? (i := 29) rfl)) (by decide) (by decide)) q265a q265c (g := (mkF m 144 #[.val (.int p0_0), .val (.int p0_1), .val (.int p0_2), .val (.int p0_3), .val (.int p0_4), .val (.int i167), .val (.ref b169), .val (.int (p0_2 &&& (2147483647 : Int32))), .val (.ref b176), .val (.int i205), .val (.int i208), .val (.int (own_F9 (p0_4 &&& (3 : Int32)) i208)), .val (.ref b243), .unset] [(.ref b243)])) rfl (by rw [hml]; rfl) (Steps.refl _) (argsL := []) (rest := []) (lenOf pd___Z rfl) rfl (by show 2 * 0 + _ ≤ _; exact Nat.le_of_eq rfl) (hb hby at_144) (fun _ _ => ⟨rfl, rfl, (by decide : 5 + 0 ≤ _), (by decide : 17 + 0 ≤ _)⟩)
                dsimp only [Pt.U, Pt.locs, Pt.cells, Pt.slots] at X265 l265 y265 z265 st265 hQ265
                subst l265 y265 z265
                obtain ⟨rfl, M265, e265⟩ := hQ265
                have N266 := Fr.app N264 M265
                refine own_via (T' := T265) (g' := (mkF m 147 #[.val (.int p0_0), .val (.int p0_1), .val (.int p0_2), .val (.int p0_3), .val (.int p0_4), .val (.int i167), .val (.ref b169), .val (.int (p0_2 &&& (2147483647 : Int32))), .val (.ref b176), .val (.int i205), .val (.int i208), .val (.int (own_F9 (p0_4 &&& (3 : Int32)) i208)), .val (.ref b243), .unset] [(.int (own_F8 ((if i167 = (0 : Int32) then (3 : Int32) else (2 : Int32)) - (1 : Int32))))])) st265 ?_
                refine own_by (T' := T265) (g' := (mkF m 151 #[.val (.int p0_0), .val (.int p0_1), .val (.int p0_2), .val (.int p0_3), .val (.int p0_4), .val (.int i167), .val (.ref b169), .val (.int (p0_2 &&& (2147483647 : Int32))), .val (.ref b176), .val (.int i205), .val (.int i208), .val (.int (own_F9 (p0_4 &&& (3 : Int32)) i208)), .val (.ref b243), .unset] [(.int i208), (.int (own_F9 (p0_4 &&& (3 : Int32)) i208)), (.int (own_F8 ((if i167 = (0 : Int32) then (3 : Int32) else (2 : Int32)) - (1 : Int32))))])) (fun t k => ?_) ?_
                · show Steps p.tables e below (T265.setTop (mkF m 147 #[.val (.int p0_0), .val (.int p0_1), .val (.int p0_2), .val (.int p0_3), .val (.int p0_4), .val (.int i167), .val (.ref b169), .val (.int (p0_2 &&& (2147483647 : Int32))), .val (.ref b176), .val (.int i205), .val (.int i208), .val (.int (own_F9 (p0_4 &&& (3 : Int32)) i208)), .val (.ref b243), .unset] [(.int (own_F8 ((if i167 = (0 : Int32) then (3 : Int32) else (2 : Int32)) - (1 : Int32))))])) t
                  refine XS.iload X265.here hx rfl (hb hby at_147) rfl ?_
                  show Steps p.tables e below (T265.setTop (mkF m 149 #[.val (.int p0_0), .val (.int p0_1), .val (.int p0_2), .val (.int p0_3), .val (.int p0_4), .val (.int i167), .val (.ref b169), .val (.int (p0_2 &&& (2147483647 : Int32))), .val (.ref b176), .val (.int i205), .val (.int i208), .val (.int (own_F9 (p0_4 &&& (3 : Int32)) i208)), .val (.ref b243), .unset] [(.int (own_F9 (p0_4 &&& (3 : Int32)) i208)), (.int (own_F8 ((if i167 = (0 : Int32) then (3 : Int32) else (2 : Int32)) - (1 : Int32))))])) t
                  refine XS.iload X265.here hx rfl (hb hby at_149) rfl ?_
                  show Steps p.tables e below (T265.setTop (mkF m 151 #[.val (.int p0_0), .val (.int p0_1), .val (.int p0_2), .val (.int p0_3), .val (.int p0_4), .val (.int i167), .val (.ref b169), .val (.int (p0_2 &&& (2147483647 : Int32))), .val (.ref b176), .val (.int i205), .val (.int i208), .val (.int (own_F9 (p0_4 &&& (3 : Int32)) i208)), .val (.ref b243), .unset] [(.int i208), (.int (own_F9 (p0_4 &&& (3 : Int32)) i208)), (.int (own_F8 ((if i167 = (0 : Int32) then (3 : Int32) else (2 : Int32)) - (1 : Int32))))])) t
                  exact k
                have J0_7 : ∀ (T269 : State) (L269 : List Loc) (i268 : Int32), Stand p l e room_1 s m #[(.int p0_0), (.int p0_1), (.int p0_2), (.int p0_3), (.int p0_4)] below meth c T269 L269 5 17 → T269.heap = T243.heap → Fr n0 L269 → own_Go p e below (own_P s below room_1 (own_Q0 (own_F0_159_7 p0_0 p0_1 p0_2 p0_3 p0_4 i167 i202 i205 i208 i268) h0 n0)) T269 (mkF m 159 #[.val (.int p0_0), .val (.int p0_1), .val (.int p0_2), .val (.int p0_3), .val (.int p0_4), .val (.int i167), .val (.ref b169), .val (.int (p0_2 &&& (2147483647 : Int32))), .val (.ref b176), .val (.int i205), .val (.int i208), .val (.int (own_F9 (p0_4 &&& (3 : Int32)) i208)), .val (.ref b243), .unset] [(.int i268), (.int (own_F8 ((if i167 = (0 : Int32) then (3 : Int32) else (2 : Int32)) - (1 : Int32))))]) := by
                  intro T269 L269 i268 X269 e269 N269
                  have J0_8 : ∀ (T272 : State) (L272 : List Loc) (i271 : Int32), Stand p l e room_1 s m #[(.int p0_0), (.int p0_1), (.int p0_2), (.int p0_3), (.int p0_4)] below meth c T272 L272 5 17 → T272.heap = T243.heap → Fr n0 L272 → own_Go p e below (own_P s below room_1 (own_Q0 (own_F0_167_8 p0_0 p0_1 p0_2 p0_3 p0_4 i167 i202 i205 i208 i268 i271) h0 n0)) T272 (mkF m 167 #[.val (.int p0_0), .val (.int p0_1), .val (.int p0_2), .val (.int p0_3), .val (.int p0_4), .val (.int i167), .val (.ref b169), .val (.int (p0_2 &&& (2147483647 : Int32))), .val (.ref b176), .val (.int i205), .val (.int i208), .val (.int (own_F9 (p0_4 &&& (3 : Int32)) i208)), .val (.ref b243), .unset] [(.int i271)]) := by
                    intro T272 L272 i271 X272 e272 N272
                    refine own_by (T' := T272) (g' := (mkF m 171 #[.val (.int p0_0), .val (.int p0_1), .val (.int p0_2), .val (.int p0_3), .val (.int p0_4), .val (.int i167), .val (.ref b169), .val (.int (p0_2 &&& (2147483647 : Int32))), .val (.ref b176), .val (.int i205), .val (.int i208), .val (.int (own_F9 (p0_4 &&& (3 : Int32)) i208)), .val (.ref b243), .val (.int i271)] [(.int i205)])) (fun t k => ?_) ?_
                    · show Steps p.tables e below (T272.setTop (mkF m 167 #[.val (.int p0_0), .val (.int p0_1), .val (.int p0_2), .val (.int p0_3), .val (.int p0_4), .val (.int i167), .val (.ref b169), .val (.int (p0_2 &&& (2147483647 : Int32))), .val (.ref b176), .val (.int i205), .val (.int i208), .val (.int (own_F9 (p0_4 &&& (3 : Int32)) i208)), .val (.ref b243), .unset] [(.int i271)])) t
                      refine XS.istore X272.here hx rfl (hb hby at_167) rfl (l' := #[.val (.int p0_0), .val (.int p0_1), .val (.int p0_2), .val (.int p0_3), .val (.int p0_4), .val (.int i167), .val (.ref b169), .val (.int (p0_2 &&& (2147483647 : Int32))), .val (.ref b176), .val (.int i205), .val (.int i208), .val (.int (own_F9 (p0_4 &&& (3 : Int32)) i208)), .val (.ref b243), .val (.int i271)]) rfl ?_
                      show Steps p.tables e below (T272.setTop (mkF m 169 #[.val (.int p0_0), .val (.int p0_1), .val (.int p0_2), .val (.int p0_3), .val (.int p0_4), .val (.int i167), .val (.ref b169), .val (.int (p0_2 &&& (2147483647 : Int32))), .val (.ref b176), .val (.int i205), .val (.int i208), .val (.int (own_F9 (p0_4 &&& (3 : Int32)) i208)), .val (.ref b243), .val (.int i271)] [])) t
                      refine XS.iload X272.here hx rfl (hb hby at_169) rfl ?_
                      show Steps p.tables e below (T272.setTop (mkF m 171 #[.val (.int p0_0), .val (.int p0_1), .val (.int p0_2), .val (.int p0_3), .val (.int p0_4), .val (.int i167), .val (.ref b169), .val (.int (p0_2 &&& (2147483647 : Int32))), .val (.ref b176), .val (.int i205), .val (.int i208), .val (.int (own_F9 (p0_4 &&& (3 : Int32)) i208)), .val (.ref b243), .val (.int i271)] [(.int i205)])) t
                      exact k
                    by_cases hc273 : i205 = (0 : Int32)
                    · skip
                      refine own_by (T' := T272) (g' := (mkF m 184 #[.val (.int p0_0), .val (.int p0_1), .val (.int p0_2), .val (.int p0_3), .val (.int p0_4), .val (.int i167), .val (.ref b169), .val (.int (p0_2 &&& (2147483647 : Int32))), .val (.ref b176), .val (.int i205), .val (.int i208), .val (.int (own_F9 (p0_4 &&& (3 : Int32)) i208)), .val (.ref b243), .val (.int i271)] [(.int (0 : Int32))])) (fun t k => ?_) ?_
                      · show Steps p.tables e below (T272.setTop (mkF m 171 #[.val (.int p0_0), .val (.int p0_1), .val (.int p0_2), .val (.int p0_3), .val (.int p0_4), .val (.int i167), .val (.ref b169), .val (.int (p0_2 &&& (2147483647 : Int32))), .val (.ref b176), .val (.int i205), .val (.int i208), .val (.int (own_F9 (p0_4 &&& (3 : Int32)) i208)), .val (.ref b243), .val (.int i271)] [(.int i205)])) t
                        refine XS.ifYes X272.here hx rfl (pc0 := 171) (pc' := 183) rfl (hb hby at_171) rfl ((if0 _ _).trans (teq hc273).1) (by decide) (by decide) ?_
                        show Steps p.tables e below (T272.setTop (mkF m 183 #[.val (.int p0_0), .val (.int p0_1), .val (.int p0_2), .val (.int p0_3), .val (.int p0_4), .val (.int i167), .val (.ref b169), .val (.int (p0_2 &&& (2147483647 : Int32))), .val (.ref b176), .val (.int i205), .val (.int i208), .val (.int (own_F9 (p0_4 &&& (3 : Int32)) i208)), .val (.ref b243), .val (.int i271)] [])) t
                        refine XS.iconst X272.here hx rfl (hb hby at_183) ?_
                        show Steps p.tables e below (T272.setTop (mkF m 184 #[.val (.int p0_0), .val (.int p0_1), .val (.int p0_2), .val (.int p0_3), .val (.int p0_4), .val (.int i167), .val (.ref b169), .val (.int (p0_2 &&& (2147483647 : Int32))), .val (.ref b176), .val (.int i205), .val (.int i208), .val (.int (own_F9 (p0_4 &&& (3 : Int32)) i208)), .val (.ref b243), .val (.int i271)] [(.int (0 : Int32))])) t
                        exact k
                      rw [show own_F0_167_8 p0_0 p0_1 p0_2 p0_3 p0_4 i167 i202 i205 i208 i268 i271 = (0 : Int32) from ((if_pos hc273).trans rfl)]
                      exact own_retN X272 hx (t := .boolean) Bd.returns (by simp) (hb hby at_184) hlk (by decide) (by decide) ⟨rfl, N272⟩
                    · skip
                      refine own_by (T' := T272) (g' := (mkF m 176 #[.val (.int p0_0), .val (.int p0_1), .val (.int p0_2), .val (.int p0_3), .val (.int p0_4), .val (.int i167), .val (.ref b169), .val (.int (p0_2 &&& (2147483647 : Int32))), .val (.ref b176), .val (.int i205), .val (.int i208), .val (.int (own_F9 (p0_4 &&& (3 : Int32)) i208)), .val (.ref b243), .val (.int i271)] [(.int i271)])) (fun t k => ?_) ?_
                      · show Steps p.tables e below (T272.setTop (mkF m 171 #[.val (.int p0_0), .val (.int p0_1), .val (.int p0_2), .val (.int p0_3), .val (.int p0_4), .val (.int i167), .val (.ref b169), .val (.int (p0_2 &&& (2147483647 : Int32))), .val (.ref b176), .val (.int i205), .val (.int i208), .val (.int (own_F9 (p0_4 &&& (3 : Int32)) i208)), .val (.ref b243), .val (.int i271)] [(.int i205)])) t
                        refine XS.ifNo X272.here hx rfl (hb hby at_171) rfl ((if0 _ _).trans (feq hc273).1) ?_
                        show Steps p.tables e below (T272.setTop (mkF m 174 #[.val (.int p0_0), .val (.int p0_1), .val (.int p0_2), .val (.int p0_3), .val (.int p0_4), .val (.int i167), .val (.ref b169), .val (.int (p0_2 &&& (2147483647 : Int32))), .val (.ref b176), .val (.int i205), .val (.int i208), .val (.int (own_F9 (p0_4 &&& (3 : Int32)) i208)), .val (.ref b243), .val (.int i271)] [])) t
                        refine XS.iload X272.here hx rfl (hb hby at_174) rfl ?_
                        show Steps p.tables e below (T272.setTop (mkF m 176 #[.val (.int p0_0), .val (.int p0_1), .val (.int p0_2), .val (.int p0_3), .val (.int p0_4), .val (.int i167), .val (.ref b169), .val (.int (p0_2 &&& (2147483647 : Int32))), .val (.ref b176), .val (.int i205), .val (.int i208), .val (.int (own_F9 (p0_4 &&& (3 : Int32)) i208)), .val (.ref b243), .val (.int i271)] [(.int i271)])) t
                        exact k
                      by_cases hc275 : i271 = (0 : Int32)
                      · skip
                        refine own_by (T' := T272) (g' := (mkF m 184 #[.val (.int p0_0), .val (.int p0_1), .val (.int p0_2), .val (.int p0_3), .val (.int p0_4), .val (.int i167), .val (.ref b169), .val (.int (p0_2 &&& (2147483647 : Int32))), .val (.ref b176), .val (.int i205), .val (.int i208), .val (.int (own_F9 (p0_4 &&& (3 : Int32)) i208)), .val (.ref b243), .val (.int i271)] [(.int (0 : Int32))])) (fun t k => ?_) ?_
                        · show Steps p.tables e below (T272.setTop (mkF m 176 #[.val (.int p0_0), .val (.int p0_1), .val (.int p0_2), .val (.int p0_3), .val (.int p0_4), .val (.int i167), .val (.ref b169), .val (.int (p0_2 &&& (2147483647 : Int32))), .val (.ref b176), .val (.int i205), .val (.int i208), .val (.int (own_F9 (p0_4 &&& (3 : Int32)) i208)), .val (.ref b243), .val (.int i271)] [(.int i271)])) t
                          refine XS.ifYes X272.here hx rfl (pc0 := 176) (pc' := 183) rfl (hb hby at_176) rfl ((if0 _ _).trans (teq hc275).1) (by decide) (by decide) ?_
                          show Steps p.tables e below (T272.setTop (mkF m 183 #[.val (.int p0_0), .val (.int p0_1), .val (.int p0_2), .val (.int p0_3), .val (.int p0_4), .val (.int i167), .val (.ref b169), .val (.int (p0_2 &&& (2147483647 : Int32))), .val (.ref b176), .val (.int i205), .val (.int i208), .val (.int (own_F9 (p0_4 &&& (3 : Int32)) i208)), .val (.ref b243), .val (.int i271)] [])) t
                          refine XS.iconst X272.here hx rfl (hb hby at_183) ?_
                          show Steps p.tables e below (T272.setTop (mkF m 184 #[.val (.int p0_0), .val (.int p0_1), .val (.int p0_2), .val (.int p0_3), .val (.int p0_4), .val (.int i167), .val (.ref b169), .val (.int (p0_2 &&& (2147483647 : Int32))), .val (.ref b176), .val (.int i205), .val (.int i208), .val (.int (own_F9 (p0_4 &&& (3 : Int32)) i208)), .val (.ref b243), .val (.int i271)] [(.int (0 : Int32))])) t
                          exact k
                        rw [show own_F0_167_8 p0_0 p0_1 p0_2 p0_3 p0_4 i167 i202 i205 i208 i268 i271 = (0 : Int32) from ((if_neg hc273).trans ((if_pos hc275).trans rfl))]
                        exact own_retN X272 hx (t := .boolean) Bd.returns (by simp) (hb hby at_184) hlk (by decide) (by decide) ⟨rfl, N272⟩
                      · skip
                        refine own_by (T' := T272) (g' := (mkF m 184 #[.val (.int p0_0), .val (.int p0_1), .val (.int p0_2), .val (.int p0_3), .val (.int p0_4), .val (.int i167), .val (.ref b169), .val (.int (p0_2 &&& (2147483647 : Int32))), .val (.ref b176), .val (.int i205), .val (.int i208), .val (.int (own_F9 (p0_4 &&& (3 : Int32)) i208)), .val (.ref b243), .val (.int i271)] [(.int (1 : Int32))])) (fun t k => ?_) ?_
                        · show Steps p.tables e below (T272.setTop (mkF m 176 #[.val (.int p0_0), .val (.int p0_1), .val (.int p0_2), .val (.int p0_3), .val (.int p0_4), .val (.int i167), .val (.ref b169), .val (.int (p0_2 &&& (2147483647 : Int32))), .val (.ref b176), .val (.int i205), .val (.int i208), .val (.int (own_F9 (p0_4 &&& (3 : Int32)) i208)), .val (.ref b243), .val (.int i271)] [(.int i271)])) t
                          refine XS.ifNo X272.here hx rfl (hb hby at_176) rfl ((if0 _ _).trans (feq hc275).1) ?_
                          show Steps p.tables e below (T272.setTop (mkF m 179 #[.val (.int p0_0), .val (.int p0_1), .val (.int p0_2), .val (.int p0_3), .val (.int p0_4), .val (.int i167), .val (.ref b169), .val (.int (p0_2 &&& (2147483647 : Int32))), .val (.ref b176), .val (.int i205), .val (.int i208), .val (.int (own_F9 (p0_4 &&& (3 : Int32)) i208)), .val (.ref b243), .val (.int i271)] [])) t
                          refine XS.iconst X272.here hx rfl (hb hby at_179) ?_
                          show Steps p.tables e below (T272.setTop (mkF m 180 #[.val (.int p0_0), .val (.int p0_1), .val (.int p0_2), .val (.int p0_3), .val (.int p0_4), .val (.int i167), .val (.ref b169), .val (.int (p0_2 &&& (2147483647 : Int32))), .val (.ref b176), .val (.int i205), .val (.int i208), .val (.int (own_F9 (p0_4 &&& (3 : Int32)) i208)), .val (.ref b243), .val (.int i271)] [(.int (1 : Int32))])) t
                          refine XS.goto X272.here hx rfl (pc0 := 180) (pc' := 184) rfl (hb hby at_180) (by decide) (by decide) ?_
                          show Steps p.tables e below (T272.setTop (mkF m 184 #[.val (.int p0_0), .val (.int p0_1), .val (.int p0_2), .val (.int p0_3), .val (.int p0_4), .val (.int i167), .val (.ref b169), .val (.int (p0_2 &&& (2147483647 : Int32))), .val (.ref b176), .val (.int i205), .val (.int i208), .val (.int (own_F9 (p0_4 &&& (3 : Int32)) i208)), .val (.ref b243), .val (.int i271)] [(.int (1 : Int32))])) t
                          exact k
                        rw [show own_F0_167_8 p0_0 p0_1 p0_2 p0_3 p0_4 i167 i202 i205 i208 i268 i271 = (1 : Int32) from ((if_neg hc273).trans ((if_neg hc275).trans rfl))]
                        exact own_retN X272 hx (t := .boolean) Bd.returns (by simp) (hb hby at_184) hlk (by decide) (by decide) ⟨rfl, N272⟩
                  by_cases hc270 : (own_F8 ((if i167 = (0 : Int32) then (3 : Int32) else (2 : Int32)) - (1 : Int32))) = i268
                  · skip
                    refine own_by (T' := T269) (g' := (mkF m 167 #[.val (.int p0_0), .val (.int p0_1), .val (.int p0_2), .val (.int p0_3), .val (.int p0_4), .val (.int i167), .val (.ref b169), .val (.int (p0_2 &&& (2147483647 : Int32))), .val (.ref b176), .val (.int i205), .val (.int i208), .val (.int (own_F9 (p0_4 &&& (3 : Int32)) i208)), .val (.ref b243), .unset] [(.int (1 : Int32))])) (fun t k => ?_) ?_
                    · show Steps p.tables e below (T269.setTop (mkF m 159 #[.val (.int p0_0), .val (.int p0_1), .val (.int p0_2), .val (.int p0_3), .val (.int p0_4), .val (.int i167), .val (.ref b169), .val (.int (p0_2 &&& (2147483647 : Int32))), .val (.ref b176), .val (.int i205), .val (.int i208), .val (.int (own_F9 (p0_4 &&& (3 : Int32)) i208)), .val (.ref b243), .unset] [(.int i268), (.int (own_F8 ((if i167 = (0 : Int32) then (3 : Int32) else (2 : Int32)) - (1 : Int32))))])) t
                      refine XS.icmpNo X269.here hx rfl (hb hby at_159) rfl (teq hc270).2 ?_
                      show Steps p.tables e below (T269.setTop (mkF m 162 #[.val (.int p0_0), .val (.int p0_1), .val (.int p0_2), .val (.int p0_3), .val (.int p0_4), .val (.int i167), .val (.ref b169), .val (.int (p0_2 &&& (2147483647 : Int32))), .val (.ref b176), .val (.int i205), .val (.int i208), .val (.int (own_F9 (p0_4 &&& (3 : Int32)) i208)), .val (.ref b243), .unset] [])) t
                      refine XS.iconst X269.here hx rfl (hb hby at_162) ?_
                      show Steps p.tables e below (T269.setTop (mkF m 163 #[.val (.int p0_0), .val (.int p0_1), .val (.int p0_2), .val (.int p0_3), .val (.int p0_4), .val (.int i167), .val (.ref b169), .val (.int (p0_2 &&& (2147483647 : Int32))), .val (.ref b176), .val (.int i205), .val (.int i208), .val (.int (own_F9 (p0_4 &&& (3 : Int32)) i208)), .val (.ref b243), .unset] [(.int (1 : Int32))])) t
                      refine XS.goto X269.here hx rfl (pc0 := 163) (pc' := 167) rfl (hb hby at_163) (by decide) (by decide) ?_
                      show Steps p.tables e below (T269.setTop (mkF m 167 #[.val (.int p0_0), .val (.int p0_1), .val (.int p0_2), .val (.int p0_3), .val (.int p0_4), .val (.int i167), .val (.ref b169), .val (.int (p0_2 &&& (2147483647 : Int32))), .val (.ref b176), .val (.int i205), .val (.int i208), .val (.int (own_F9 (p0_4 &&& (3 : Int32)) i208)), .val (.ref b243), .unset] [(.int (1 : Int32))])) t
                      exact k
                    rw [show own_F0_159_7 p0_0 p0_1 p0_2 p0_3 p0_4 i167 i202 i205 i208 i268 = (own_F0_167_8 p0_0 p0_1 p0_2 p0_3 p0_4 i167 i202 i205 i208 i268 (1 : Int32)) from ((if_pos hc270).trans rfl)]
                    exact J0_8 _ _ (1 : Int32) X269 e269 N269
                  · skip
                    refine own_by (T' := T269) (g' := (mkF m 167 #[.val (.int p0_0), .val (.int p0_1), .val (.int p0_2), .val (.int p0_3), .val (.int p0_4), .val (.int i167), .val (.ref b169), .val (.int (p0_2 &&& (2147483647 : Int32))), .val (.ref b176), .val (.int i205), .val (.int i208), .val (.int (own_F9 (p0_4 &&& (3 : Int32)) i208)), .val (.ref b243), .unset] [(.int (0 : Int32))])) (fun t k => ?_) ?_
                    · show Steps p.tables e below (T269.setTop (mkF m 159 #[.val (.int p0_0), .val (.int p0_1), .val (.int p0_2), .val (.int p0_3), .val (.int p0_4), .val (.int i167), .val (.ref b169), .val (.int (p0_2 &&& (2147483647 : Int32))), .val (.ref b176), .val (.int i205), .val (.int i208), .val (.int (own_F9 (p0_4 &&& (3 : Int32)) i208)), .val (.ref b243), .unset] [(.int i268), (.int (own_F8 ((if i167 = (0 : Int32) then (3 : Int32) else (2 : Int32)) - (1 : Int32))))])) t
                      refine XS.icmpYes X269.here hx rfl (pc0 := 159) (pc' := 166) rfl (hb hby at_159) rfl (feq hc270).2 (by decide) (by decide) ?_
                      show Steps p.tables e below (T269.setTop (mkF m 166 #[.val (.int p0_0), .val (.int p0_1), .val (.int p0_2), .val (.int p0_3), .val (.int p0_4), .val (.int i167), .val (.ref b169), .val (.int (p0_2 &&& (2147483647 : Int32))), .val (.ref b176), .val (.int i205), .val (.int i208), .val (.int (own_F9 (p0_4 &&& (3 : Int32)) i208)), .val (.ref b243), .unset] [])) t
                      refine XS.iconst X269.here hx rfl (hb hby at_166) ?_
                      show Steps p.tables e below (T269.setTop (mkF m 167 #[.val (.int p0_0), .val (.int p0_1), .val (.int p0_2), .val (.int p0_3), .val (.int p0_4), .val (.int i167), .val (.ref b169), .val (.int (p0_2 &&& (2147483647 : Int32))), .val (.ref b176), .val (.int i205), .val (.int i208), .val (.int (own_F9 (p0_4 &&& (3 : Int32)) i208)), .val (.ref b243), .unset] [(.int (0 : Int32))])) t
                      exact k
                    rw [show own_F0_159_7 p0_0 p0_1 p0_2 p0_3 p0_4 i167 i202 i205 i208 i268 = (own_F0_167_8 p0_0 p0_1 p0_2 p0_3 p0_4 i167 i202 i205 i208 i268 (0 : Int32)) from ((if_neg hc270).trans rfl)]
                    exact J0_8 _ _ (0 : Int32) X269 e269 N269
                by_cases hc267 : (own_F9 (p0_4 &&& (3 : Int32)) i208) = i208
                · skip
                  refine own_by (T' := T265) (g' := (mkF m 159 #[.val (.int p0_0), .val (.int p0_1), .val (.int p0_2), .val (.int p0_3), .val (.int p0_4), .val (.int i167), .val (.ref b169), .val (.int (p0_2 &&& (2147483647 : Int32))), .val (.ref b176), .val (.int i205), .val (.int i208), .val (.int (own_F9 (p0_4 &&& (3 : Int32)) i208)), .val (.ref b243), .unset] [(.int (1 : Int32)), (.int (own_F8 ((if i167 = (0 : Int32) then (3 : Int32) else (2 : Int32)) - (1 : Int32))))])) (fun t k => ?_) ?_
                  · show Steps p.tables e below (T265.setTop (mkF m 151 #[.val (.int p0_0), .val (.int p0_1), .val (.int p0_2), .val (.int p0_3), .val (.int p0_4), .val (.int i167), .val (.ref b169), .val (.int (p0_2 &&& (2147483647 : Int32))), .val (.ref b176), .val (.int i205), .val (.int i208), .val (.int (own_F9 (p0_4 &&& (3 : Int32)) i208)), .val (.ref b243), .unset] [(.int i208), (.int (own_F9 (p0_4 &&& (3 : Int32)) i208)), (.int (own_F8 ((if i167 = (0 : Int32) then (3 : Int32) else (2 : Int32)) - (1 : Int32))))])) t
                    refine XS.icmpNo X265.here hx rfl (hb hby at_151) rfl (teq hc267).2 ?_
                    show Steps p.tables e below (T265.setTop (mkF m 154 #[.val (.int p0_0), .val (.int p0_1), .val (.int p0_2), .val (.int p0_3), .val (.int p0_4), .val (.int i167), .val (.ref b169), .val (.int (p0_2 &&& (2147483647 : Int32))), .val (.ref b176), .val (.int i205), .val (.int i208), .val (.int (own_F9 (p0_4 &&& (3 : Int32)) i208)), .val (.ref b243), .unset] [(.int (own_F8 ((if i167 = (0 : Int32) then (3 : Int32) else (2 : Int32)) - (1 : Int32))))])) t
                    refine XS.iconst X265.here hx rfl (hb hby at_154) ?_
                    show Steps p.tables e below (T265.setTop (mkF m 155 #[.val (.int p0_0), .val (.int p0_1), .val (.int p0_2), .val (.int p0_3), .val (.int p0_4), .val (.int i167), .val (.ref b169), .val (.int (p0_2 &&& (2147483647 : Int32))), .val (.ref b176), .val (.int i205), .val (.int i208), .val (.int (own_F9 (p0_4 &&& (3 : Int32)) i208)), .val (.ref b243), .unset] [(.int (1 : Int32)), (.int (own_F8 ((if i167 = (0 : Int32) then (3 : Int32) else (2 : Int32)) - (1 : Int32))))])) t
                    refine XS.goto X265.here hx rfl (pc0 := 155) (pc' := 159) rfl (hb hby at_155) (by decide) (by decide) ?_
                    show Steps p.tables e below (T265.setTop (mkF m 159 #[.val (.int p0_0), .val (.int p0_1), .val (.int p0_2), .val (.int p0_3), .val (.int p0_4), .val (.int i167), .val (.ref b169), .val (.int (p0_2 &&& (2147483647 : Int32))), .val (.ref b176), .val (.int i205), .val (.int i208), .val (.int (own_F9 (p0_4 &&& (3 : Int32)) i208)), .val (.ref b243), .unset] [(.int (1 : Int32)), (.int (own_F8 ((if i167 = (0 : Int32) then (3 : Int32) else (2 : Int32)) - (1 : Int32))))])) t
                    exact k
                  rw [show own_F0_81_4 p0_0 p0_1 p0_2 p0_3 p0_4 i167 i202 i205 i208 = (own_F0_159_7 p0_0 p0_1 p0_2 p0_3 p0_4 i167 i202 i205 i208 (1 : Int32)) from ((if_pos hc229).trans ((if_pos hc230).trans ((if_neg hc231).trans ((if_pos hc267).trans rfl))))]
                  exact J0_7 _ _ (1 : Int32) X265 e265 N266
                · skip
                  refine own_by (T' := T265) (g' := (mkF m 159 #[.val (.int p0_0), .val (.int p0_1), .val (.int p0_2), .val (.int p0_3), .val (.int p0_4), .val (.int i167), .val (.ref b169), .val (.int (p0_2 &&& (2147483647 : Int32))), .val (.ref b176), .val (.int i205), .val (.int i208), .val (.int (own_F9 (p0_4 &&& (3 : Int32)) i208)), .val (.ref b243), .unset] [(.int (0 : Int32)), (.int (own_F8 ((if i167 = (0 : Int32) then (3 : Int32) else (2 : Int32)) - (1 : Int32))))])) (fun t k => ?_) ?_
                  · show Steps p.tables e below (T265.setTop (mkF m 151 #[.val (.int p0_0), .val (.int p0_1), .val (.int p0_2), .val (.int p0_3), .val (.int p0_4), .val (.int i167), .val (.ref b169), .val (.int (p0_2 &&& (2147483647 : Int32))), .val (.ref b176), .val (.int i205), .val (.int i208), .val (.int (own_F9 (p0_4 &&& (3 : Int32)) i208)), .val (.ref b243), .unset] [(.int i208), (.int (own_F9 (p0_4 &&& (3 : Int32)) i208)), (.int (own_F8 ((if i167 = (0 : Int32) then (3 : Int32) else (2 : Int32)) - (1 : Int32))))])) t
                    refine XS.icmpYes X265.here hx rfl (pc0 := 151) (pc' := 158) rfl (hb hby at_151) rfl (feq hc267).2 (by decide) (by decide) ?_
                    show Steps p.tables e below (T265.setTop (mkF m 158 #[.val (.int p0_0), .val (.int p0_1), .val (.int p0_2), .val (.int p0_3), .val (.int p0_4), .val (.int i167), .val (.ref b169), .val (.int (p0_2 &&& (2147483647 : Int32))), .val (.ref b176), .val (.int i205), .val (.int i208), .val (.int (own_F9 (p0_4 &&& (3 : Int32)) i208)), .val (.ref b243), .unset] [(.int (own_F8 ((if i167 = (0 : Int32) then (3 : Int32) else (2 : Int32)) - (1 : Int32))))])) t
                    refine XS.iconst X265.here hx rfl (hb hby at_158) ?_
                    show Steps p.tables e below (T265.setTop (mkF m 159 #[.val (.int p0_0), .val (.int p0_1), .val (.int p0_2), .val (.int p0_3), .val (.int p0_4), .val (.int i167), .val (.ref b169), .val (.int (p0_2 &&& (2147483647 : Int32))), .val (.ref b176), .val (.int i205), .val (.int i208), .val (.int (own_F9 (p0_4 &&& (3 : Int32)) i208)), .val (.ref b243), .unset] [(.int (0 : Int32)), (.int (own_F8 ((if i167 = (0 : Int32) then (3 : Int32) else (2 : Int32)) - (1 : Int32))))])) t
                    exact k
                  rw [show own_F0_81_4 p0_0 p0_1 p0_2 p0_3 p0_4 i167 i202 i205 i208 = (own_F0_159_7 p0_0 p0_1 p0_2 p0_3 p0_4 i167 i202 i205 i208 (0 : Int32)) from ((if_pos hc229).trans ((if_pos hc230).trans ((if_neg hc231).trans ((if_neg hc267).trans rfl))))]
                  exact J0_7 _ _ (0 : Int32) X265 e265 N266
            · skip
              refine own_by (T' := T212) (g' := (mkF m 124 #[.val (.int p0_0), .val (.int p0_1), .val (.int p0_2), .val (.int p0_3), .val (.int p0_4), .val (.int i167), .val (.ref b169), .val (.int (p0_2 &&& (2147483647 : Int32))), .val (.ref b176), .val (.int i205), .val (.int i208), .val (.int (own_F9 (p0_4 &&& (3 : Int32)) i208)), .val (.ref b212), .unset] [(.ref b212)])) (fun t k => ?_) ?_
              · show Steps p.tables e below (T212.setTop (mkF m 119 #[.val (.int p0_0), .val (.int p0_1), .val (.int p0_2), .val (.int p0_3), .val (.int p0_4), .val (.int i167), .val (.ref b169), .val (.int (p0_2 &&& (2147483647 : Int32))), .val (.ref b176), .val (.int i205), .val (.int i208), .val (.int (own_F9 (p0_4 &&& (3 : Int32)) i208)), .val (.ref b212), .unset] [(.int (2 : Int32)), (.int (own_F9 (p0_4 &&& (3 : Int32)) i208))])) t
                refine XS.icmpNo X212.here hx rfl (hb hby at_119) rfl (flt hc230).1 ?_
                show Steps p.tables e below (T212.setTop (mkF m 122 #[.val (.int p0_0), .val (.int p0_1), .val (.int p0_2), .val (.int p0_3), .val (.int p0_4), .val (.int i167), .val (.ref b169), .val (.int (p0_2 &&& (2147483647 : Int32))), .val (.ref b176), .val (.int i205), .val (.int i208), .val (.int (own_F9 (p0_4 &&& (3 : Int32)) i208)), .val (.ref b212), .unset] [])) t
                refine XS.aload X212.here hx rfl (hb hby at_122) rfl rfl ?_
                show Steps p.tables e below (T212.setTop (mkF m 124 #[.val (.int p0_0), .val (.int p0_1), .val (.int p0_2), .val (.int p0_3), .val (.int p0_4), .val (.int i167), .val (.ref b169), .val (.int (p0_2 &&& (2147483647 : Int32))), .val (.ref b176), .val (.int i205), .val (.int i208), .val (.int (own_F9 (p0_4 &&& (3 : Int32)) i208)), .val (.ref b212), .unset] [(.ref b212)])) t
                exact k
              obtain ⟨cq276, kq276, q276a, q276b, q276c⟩ := isOf hZ rfl f213
              obtain ⟨v276, _, ⟨T276, L276, k276, n276⟩, -, X276, ⟨Lc276, hQ276, l276, y276, z276⟩, st276⟩ := X212.virtualBack hx (y := (⟨"com/example/topping_out/toppingout/game/Player", "lessACertificate", "()Lcom/example/topping_out/toppingout/game/Player;"⟩ : MethodName)) (z := (⟨"com/example/topping_out/toppingout/game/Player", "lessACertificate", "()Lcom/example/topping_out/toppingout/game/Player;"⟩ : MethodName)) hown (mvT hZ (hw _ (List.mem_of_getElem? (i := 61) rfl))) (mvT hZ (hw _ (List.mem_of_getElem? (i := 62) rfl))) (notFace_of_selects (args := #[]) (mvT hZ (hw _ (List.mem_of_getElem? (i := 64) rfl)))) (mvT hZ (hw _ (List.mem_of_getElem? (i := 64) rfl))) (mvT hZ (hw _ (List.mem_of_getElem? (i := 63) rfl))) (by decide) (backOf (W := 0) (own_rm11 l Z a0 hw [] b212 b169 (nar .boolean i167) (if i167 = (0 : Int32) then (3 : Int32) else (2 : Int32)) (0 : Int32) T212.heap n0 Z227 f214 f215 f216 f217) hZ (hw _ (List.mem_of_getElem? (i := 65) rfl)) (hw _ (List.mem_of_getElem? (i := 29) rfl)) (by decide) (by decide)) q276a q276c (g := (mkF m 124 #[.val (.int p0_0), .val (.int p0_1), .val (.int p0_2), .val (.int p0_3), .val (.int p0_4), .val (.int i167), .val (.ref b169), .val (.int (p0_2 &&& (2147483647 : Int32))), .val (.ref b176), .val (.int i205), .val (.int i208), .val (.int (own_F9 (p0_4 &&& (3 : Int32)) i208)), .val (.ref b212), .unset] [(.ref b212)])) rfl (by rw [hml]; rfl) (Steps.refl _) (argsL := []) (rest := []) (lenOf pd___Lcom_example_topping_out_toppingout_game_Player_ rfl) rfl (by show 2 * 0 + _ ≤ _; exact Nat.le_of_eq rfl) (hb hby at_124) (fun _ _ => ⟨rfl, rfl, (by decide : 4 + 1 ≤ _), (by decide : 13 + 4 ≤ _)⟩)
              dsimp only [Pt.U, Pt.locs, Pt.cells, Pt.slots] at X276 l276 y276 z276 st276 hQ276
              subst l276 y276 z276
              obtain ⟨b276, rfl, M276, K276, sz276, gn276, f277, f278, f279, f280, f281⟩ := hQ276
              have f282 := f218.keep K276
              have f283 := f219.keep K276 nin0
              have f284 := f220.keep K276
              have f285 := f221.keep K276 nin0
              have f286 := f222.keep K276 nin0
              have f287 := f223.keep K276 nin0
              have f288 := f224.keep K276 nin0
              have f289 := f213.keep K276
              have f290 := f214.keep K276 nin0
              have f291 := f215.keep K276 nin0
              have f292 := f216.keep K276 nin0
              have f293 := f217.keep K276 nin0
              have K294 : Keep h0 T276.heap [] := K225.trans K276 all0
              have O295 := O226.keep K276 all0
              have Z296 := Nat.le_trans Z227 K276.1
              have sz_b276 : h0.size ≤ b276 := Nat.le_trans K225.1 sz276
              have ne_b169_b276 : b169 ≠ b276 := Nat.ne_of_lt (Nat.lt_of_lt_of_le f219.lt sz276)
              have ne_b176_b276 : b176 ≠ b276 := Nat.ne_of_lt (Nat.lt_of_lt_of_le f224.lt sz276)
              have ne_b212_b276 : b212 ≠ b276 := Nat.ne_of_lt (Nat.lt_of_lt_of_le f217.lt sz276)
              have N297 := Fr.app N228 M276
              refine own_via (T' := T276) (g' := (mkF m 127 #[.val (.int p0_0), .val (.int p0_1), .val (.int p0_2), .val (.int p0_3), .val (.int p0_4), .val (.int i167), .val (.ref b169), .val (.int (p0_2 &&& (2147483647 : Int32))), .val (.ref b176), .val (.int i205), .val (.int i208), .val (.int (own_F9 (p0_4 &&& (3 : Int32)) i208)), .val (.ref b212), .unset] [(.ref b276)])) st276 ?_
              refine own_by (T' := T276) (g' := (mkF m 132 #[.val (.int p0_0), .val (.int p0_1), .val (.int p0_2), .val (.int p0_3), .val (.int p0_4), .val (.int i167), .val (.ref b169), .val (.int (p0_2 &&& (2147483647 : Int32))), .val (.ref b176), .val (.int i205), .val (.int i208), .val (.int (own_F9 (p0_4 &&& (3 : Int32)) i208)), .val (.ref b276), .unset] [(.int (3 : Int32)), (.int (own_F9 (p0_4 &&& (3 : Int32)) i208))])) (fun t k => ?_) ?_
              · show Steps p.tables e below (T276.setTop (mkF m 127 #[.val (.int p0_0), .val (.int p0_1), .val (.int p0_2), .val (.int p0_3), .val (.int p0_4), .val (.int i167), .val (.ref b169), .val (.int (p0_2 &&& (2147483647 : Int32))), .val (.ref b176), .val (.int i205), .val (.int i208), .val (.int (own_F9 (p0_4 &&& (3 : Int32)) i208)), .val (.ref b212), .unset] [(.ref b276)])) t
                refine XS.astore X276.here hx rfl (hb hby at_127) rfl rfl (l' := #[.val (.int p0_0), .val (.int p0_1), .val (.int p0_2), .val (.int p0_3), .val (.int p0_4), .val (.int i167), .val (.ref b169), .val (.int (p0_2 &&& (2147483647 : Int32))), .val (.ref b176), .val (.int i205), .val (.int i208), .val (.int (own_F9 (p0_4 &&& (3 : Int32)) i208)), .val (.ref b276), .unset]) rfl ?_
                show Steps p.tables e below (T276.setTop (mkF m 129 #[.val (.int p0_0), .val (.int p0_1), .val (.int p0_2), .val (.int p0_3), .val (.int p0_4), .val (.int i167), .val (.ref b169), .val (.int (p0_2 &&& (2147483647 : Int32))), .val (.ref b176), .val (.int i205), .val (.int i208), .val (.int (own_F9 (p0_4 &&& (3 : Int32)) i208)), .val (.ref b276), .unset] [])) t
                refine XS.iload X276.here hx rfl (hb hby at_129) rfl ?_
                show Steps p.tables e below (T276.setTop (mkF m 131 #[.val (.int p0_0), .val (.int p0_1), .val (.int p0_2), .val (.int p0_3), .val (.int p0_4), .val (.int i167), .val (.ref b169), .val (.int (p0_2 &&& (2147483647 : Int32))), .val (.ref b176), .val (.int i205), .val (.int i208), .val (.int (own_F9 (p0_4 &&& (3 : Int32)) i208)), .val (.ref b276), .unset] [(.int (own_F9 (p0_4 &&& (3 : Int32)) i208))])) t
                refine XS.iconst X276.here hx rfl (hb hby at_131) ?_
                show Steps p.tables e below (T276.setTop (mkF m 132 #[.val (.int p0_0), .val (.int p0_1), .val (.int p0_2), .val (.int p0_3), .val (.int p0_4), .val (.int i167), .val (.ref b169), .val (.int (p0_2 &&& (2147483647 : Int32))), .val (.ref b176), .val (.int i205), .val (.int i208), .val (.int (own_F9 (p0_4 &&& (3 : Int32)) i208)), .val (.ref b276), .unset] [(.int (3 : Int32)), (.int (own_F9 (p0_4 &&& (3 : Int32)) i208))])) t
                exact k
              by_cases hc298 : (own_F9 (p0_4 &&& (3 : Int32)) i208) < (3 : Int32)
              · skip
                refine own_by (T' := T276) (g' := (mkF m 144 #[.val (.int p0_0), .val (.int p0_1), .val (.int p0_2), .val (.int p0_3), .val (.int p0_4), .val (.int i167), .val (.ref b169), .val (.int (p0_2 &&& (2147483647 : Int32))), .val (.ref b176), .val (.int i205), .val (.int i208), .val (.int (own_F9 (p0_4 &&& (3 : Int32)) i208)), .val (.ref b276), .unset] [(.ref b276)])) (fun t k => ?_) ?_
                · show Steps p.tables e below (T276.setTop (mkF m 132 #[.val (.int p0_0), .val (.int p0_1), .val (.int p0_2), .val (.int p0_3), .val (.int p0_4), .val (.int i167), .val (.ref b169), .val (.int (p0_2 &&& (2147483647 : Int32))), .val (.ref b176), .val (.int i205), .val (.int i208), .val (.int (own_F9 (p0_4 &&& (3 : Int32)) i208)), .val (.ref b276), .unset] [(.int (3 : Int32)), (.int (own_F9 (p0_4 &&& (3 : Int32)) i208))])) t
                  refine XS.icmpYes X276.here hx rfl (pc0 := 132) (pc' := 142) rfl (hb hby at_132) rfl (tlt hc298).1 (by decide) (by decide) ?_
                  show Steps p.tables e below (T276.setTop (mkF m 142 #[.val (.int p0_0), .val (.int p0_1), .val (.int p0_2), .val (.int p0_3), .val (.int p0_4), .val (.int i167), .val (.ref b169), .val (.int (p0_2 &&& (2147483647 : Int32))), .val (.ref b176), .val (.int i205), .val (.int i208), .val (.int (own_F9 (p0_4 &&& (3 : Int32)) i208)), .val (.ref b276), .unset] [])) t
                  refine XS.aload X276.here hx rfl (hb hby at_142) rfl rfl ?_
                  show Steps p.tables e below (T276.setTop (mkF m 144 #[.val (.int p0_0), .val (.int p0_1), .val (.int p0_2), .val (.int p0_3), .val (.int p0_4), .val (.int i167), .val (.ref b169), .val (.int (p0_2 &&& (2147483647 : Int32))), .val (.ref b176), .val (.int i205), .val (.int i208), .val (.int (own_F9 (p0_4 &&& (3 : Int32)) i208)), .val (.ref b276), .unset] [(.ref b276)])) t
                  exact k
                obtain ⟨cq299, kq299, q299a, q299b, q299c⟩ := isOf hZ rfl f277
                obtain ⟨v299, _, ⟨T299, L299, k299, n299⟩, -, X299, ⟨Lc299, hQ299, l299, y299, z299⟩, st299⟩ := X276.virtualBack hx (y := (⟨"com/example/topping_out/toppingout/game/Player", "out", "()Z"⟩ : MethodName)) (z := (⟨"com/example/topping_out/toppingout/game/Player", "out", "()Z"⟩ : MethodName)) hown (mvT hZ (hw _ (List.mem_of_getElem? (i := 47) rfl))) (mvT hZ (hw _ (List.mem_of_getElem? (i := 48) rfl))) (notFace_of_selects (args := #[]) (mvT hZ (hw _ (List.mem_of_getElem? (i := 50) rfl)))) (mvT hZ (hw _ (List.mem_of_getElem? (i := 50) rfl))) (mvT hZ (hw _ (List.mem_of_getElem? (i := 49) rfl))) (by decide) (backOf (W := 0) (own_rm8 l Z a0 hw [] b276 ((if i167 = (0 : Int32) then (3 : Int32) else (2 : Int32)) - (1 : Int32)) T276.heap n0 Z296 f280) hZ (hw _ (List.mem_of_getElem? (i := 51) rfl)) (hw _ (List.mem_of_getElem? (i := 29) rfl)) (by decide) (by decide)) q299a q299c (g := (mkF m 144 #[.val (.int p0_0), .val (.int p0_1), .val (.int p0_2), .val (.int p0_3), .val (.int p0_4), .val (.int i167), .val (.ref b169), .val (.int (p0_2 &&& (2147483647 : Int32))), .val (.ref b176), .val (.int i205), .val (.int i208), .val (.int (own_F9 (p0_4 &&& (3 : Int32)) i208)), .val (.ref b276), .unset] [(.ref b276)])) rfl (by rw [hml]; rfl) (Steps.refl _) (argsL := []) (rest := []) (lenOf pd___Z rfl) rfl (by show 2 * 0 + _ ≤ _; exact Nat.le_of_eq rfl) (hb hby at_144) (fun _ _ => ⟨rfl, rfl, (by decide : 5 + 0 ≤ _), (by decide : 17 + 0 ≤ _)⟩)
                dsimp only [Pt.U, Pt.locs, Pt.cells, Pt.slots] at X299 l299 y299 z299 st299 hQ299
                subst l299 y299 z299
                obtain ⟨rfl, M299, e299⟩ := hQ299
                have N300 := Fr.app N297 M299
                refine own_via (T' := T299) (g' := (mkF m 147 #[.val (.int p0_0), .val (.int p0_1), .val (.int p0_2), .val (.int p0_3), .val (.int p0_4), .val (.int i167), .val (.ref b169), .val (.int (p0_2 &&& (2147483647 : Int32))), .val (.ref b176), .val (.int i205), .val (.int i208), .val (.int (own_F9 (p0_4 &&& (3 : Int32)) i208)), .val (.ref b276), .unset] [(.int (own_F8 ((if i167 = (0 : Int32) then (3 : Int32) else (2 : Int32)) - (1 : Int32))))])) st299 ?_
                refine own_by (T' := T299) (g' := (mkF m 151 #[.val (.int p0_0), .val (.int p0_1), .val (.int p0_2), .val (.int p0_3), .val (.int p0_4), .val (.int i167), .val (.ref b169), .val (.int (p0_2 &&& (2147483647 : Int32))), .val (.ref b176), .val (.int i205), .val (.int i208), .val (.int (own_F9 (p0_4 &&& (3 : Int32)) i208)), .val (.ref b276), .unset] [(.int i208), (.int (own_F9 (p0_4 &&& (3 : Int32)) i208)), (.int (own_F8 ((if i167 = (0 : Int32) then (3 : Int32) else (2 : Int32)) - (1 : Int32))))])) (fun t k => ?_) ?_
                · show Steps p.tables e below (T299.setTop (mkF m 147 #[.val (.int p0_0), .val (.int p0_1), .val (.int p0_2), .val (.int p0_3), .val (.int p0_4), .val (.int i167), .val (.ref b169), .val (.int (p0_2 &&& (2147483647 : Int32))), .val (.ref b176), .val (.int i205), .val (.int i208), .val (.int (own_F9 (p0_4 &&& (3 : Int32)) i208)), .val (.ref b276), .unset] [(.int (own_F8 ((if i167 = (0 : Int32) then (3 : Int32) else (2 : Int32)) - (1 : Int32))))])) t
                  refine XS.iload X299.here hx rfl (hb hby at_147) rfl ?_
                  show Steps p.tables e below (T299.setTop (mkF m 149 #[.val (.int p0_0), .val (.int p0_1), .val (.int p0_2), .val (.int p0_3), .val (.int p0_4), .val (.int i167), .val (.ref b169), .val (.int (p0_2 &&& (2147483647 : Int32))), .val (.ref b176), .val (.int i205), .val (.int i208), .val (.int (own_F9 (p0_4 &&& (3 : Int32)) i208)), .val (.ref b276), .unset] [(.int (own_F9 (p0_4 &&& (3 : Int32)) i208)), (.int (own_F8 ((if i167 = (0 : Int32) then (3 : Int32) else (2 : Int32)) - (1 : Int32))))])) t
                  refine XS.iload X299.here hx rfl (hb hby at_149) rfl ?_
                  show Steps p.tables e below (T299.setTop (mkF m 151 #[.val (.int p0_0), .val (.int p0_1), .val (.int p0_2), .val (.int p0_3), .val (.int p0_4), .val (.int i167), .val (.ref b169), .val (.int (p0_2 &&& (2147483647 : Int32))), .val (.ref b176), .val (.int i205), .val (.int i208), .val (.int (own_F9 (p0_4 &&& (3 : Int32)) i208)), .val (.ref b276), .unset] [(.int i208), (.int (own_F9 (p0_4 &&& (3 : Int32)) i208)), (.int (own_F8 ((if i167 = (0 : Int32) then (3 : Int32) else (2 : Int32)) - (1 : Int32))))])) t
                  exact k
                have J0_9 : ∀ (T303 : State) (L303 : List Loc) (i302 : Int32), Stand p l e room_1 s m #[(.int p0_0), (.int p0_1), (.int p0_2), (.int p0_3), (.int p0_4)] below meth c T303 L303 5 17 → T303.heap = T276.heap → Fr n0 L303 → own_Go p e below (own_P s below room_1 (own_Q0 (own_F0_159_9 p0_0 p0_1 p0_2 p0_3 p0_4 i167 i202 i205 i208 i302) h0 n0)) T303 (mkF m 159 #[.val (.int p0_0), .val (.int p0_1), .val (.int p0_2), .val (.int p0_3), .val (.int p0_4), .val (.int i167), .val (.ref b169), .val (.int (p0_2 &&& (2147483647 : Int32))), .val (.ref b176), .val (.int i205), .val (.int i208), .val (.int (own_F9 (p0_4 &&& (3 : Int32)) i208)), .val (.ref b276), .unset] [(.int i302), (.int (own_F8 ((if i167 = (0 : Int32) then (3 : Int32) else (2 : Int32)) - (1 : Int32))))]) := by
                  intro T303 L303 i302 X303 e303 N303
                  have J0_10 : ∀ (T306 : State) (L306 : List Loc) (i305 : Int32), Stand p l e room_1 s m #[(.int p0_0), (.int p0_1), (.int p0_2), (.int p0_3), (.int p0_4)] below meth c T306 L306 5 17 → T306.heap = T276.heap → Fr n0 L306 → own_Go p e below (own_P s below room_1 (own_Q0 (own_F0_167_10 p0_0 p0_1 p0_2 p0_3 p0_4 i167 i202 i205 i208 i302 i305) h0 n0)) T306 (mkF m 167 #[.val (.int p0_0), .val (.int p0_1), .val (.int p0_2), .val (.int p0_3), .val (.int p0_4), .val (.int i167), .val (.ref b169), .val (.int (p0_2 &&& (2147483647 : Int32))), .val (.ref b176), .val (.int i205), .val (.int i208), .val (.int (own_F9 (p0_4 &&& (3 : Int32)) i208)), .val (.ref b276), .unset] [(.int i305)]) := by
                    intro T306 L306 i305 X306 e306 N306
                    refine own_by (T' := T306) (g' := (mkF m 171 #[.val (.int p0_0), .val (.int p0_1), .val (.int p0_2), .val (.int p0_3), .val (.int p0_4), .val (.int i167), .val (.ref b169), .val (.int (p0_2 &&& (2147483647 : Int32))), .val (.ref b176), .val (.int i205), .val (.int i208), .val (.int (own_F9 (p0_4 &&& (3 : Int32)) i208)), .val (.ref b276), .val (.int i305)] [(.int i205)])) (fun t k => ?_) ?_
                    · show Steps p.tables e below (T306.setTop (mkF m 167 #[.val (.int p0_0), .val (.int p0_1), .val (.int p0_2), .val (.int p0_3), .val (.int p0_4), .val (.int i167), .val (.ref b169), .val (.int (p0_2 &&& (2147483647 : Int32))), .val (.ref b176), .val (.int i205), .val (.int i208), .val (.int (own_F9 (p0_4 &&& (3 : Int32)) i208)), .val (.ref b276), .unset] [(.int i305)])) t
                      refine XS.istore X306.here hx rfl (hb hby at_167) rfl (l' := #[.val (.int p0_0), .val (.int p0_1), .val (.int p0_2), .val (.int p0_3), .val (.int p0_4), .val (.int i167), .val (.ref b169), .val (.int (p0_2 &&& (2147483647 : Int32))), .val (.ref b176), .val (.int i205), .val (.int i208), .val (.int (own_F9 (p0_4 &&& (3 : Int32)) i208)), .val (.ref b276), .val (.int i305)]) rfl ?_
                      show Steps p.tables e below (T306.setTop (mkF m 169 #[.val (.int p0_0), .val (.int p0_1), .val (.int p0_2), .val (.int p0_3), .val (.int p0_4), .val (.int i167), .val (.ref b169), .val (.int (p0_2 &&& (2147483647 : Int32))), .val (.ref b176), .val (.int i205), .val (.int i208), .val (.int (own_F9 (p0_4 &&& (3 : Int32)) i208)), .val (.ref b276), .val (.int i305)] [])) t
                      refine XS.iload X306.here hx rfl (hb hby at_169) rfl ?_
                      show Steps p.tables e below (T306.setTop (mkF m 171 #[.val (.int p0_0), .val (.int p0_1), .val (.int p0_2), .val (.int p0_3), .val (.int p0_4), .val (.int i167), .val (.ref b169), .val (.int (p0_2 &&& (2147483647 : Int32))), .val (.ref b176), .val (.int i205), .val (.int i208), .val (.int (own_F9 (p0_4 &&& (3 : Int32)) i208)), .val (.ref b276), .val (.int i305)] [(.int i205)])) t
                      exact k
                    by_cases hc307 : i205 = (0 : Int32)
                    · skip
                      refine own_by (T' := T306) (g' := (mkF m 184 #[.val (.int p0_0), .val (.int p0_1), .val (.int p0_2), .val (.int p0_3), .val (.int p0_4), .val (.int i167), .val (.ref b169), .val (.int (p0_2 &&& (2147483647 : Int32))), .val (.ref b176), .val (.int i205), .val (.int i208), .val (.int (own_F9 (p0_4 &&& (3 : Int32)) i208)), .val (.ref b276), .val (.int i305)] [(.int (0 : Int32))])) (fun t k => ?_) ?_
                      · show Steps p.tables e below (T306.setTop (mkF m 171 #[.val (.int p0_0), .val (.int p0_1), .val (.int p0_2), .val (.int p0_3), .val (.int p0_4), .val (.int i167), .val (.ref b169), .val (.int (p0_2 &&& (2147483647 : Int32))), .val (.ref b176), .val (.int i205), .val (.int i208), .val (.int (own_F9 (p0_4 &&& (3 : Int32)) i208)), .val (.ref b276), .val (.int i305)] [(.int i205)])) t
                        refine XS.ifYes X306.here hx rfl (pc0 := 171) (pc' := 183) rfl (hb hby at_171) rfl ((if0 _ _).trans (teq hc307).1) (by decide) (by decide) ?_
                        show Steps p.tables e below (T306.setTop (mkF m 183 #[.val (.int p0_0), .val (.int p0_1), .val (.int p0_2), .val (.int p0_3), .val (.int p0_4), .val (.int i167), .val (.ref b169), .val (.int (p0_2 &&& (2147483647 : Int32))), .val (.ref b176), .val (.int i205), .val (.int i208), .val (.int (own_F9 (p0_4 &&& (3 : Int32)) i208)), .val (.ref b276), .val (.int i305)] [])) t
                        refine XS.iconst X306.here hx rfl (hb hby at_183) ?_
                        show Steps p.tables e below (T306.setTop (mkF m 184 #[.val (.int p0_0), .val (.int p0_1), .val (.int p0_2), .val (.int p0_3), .val (.int p0_4), .val (.int i167), .val (.ref b169), .val (.int (p0_2 &&& (2147483647 : Int32))), .val (.ref b176), .val (.int i205), .val (.int i208), .val (.int (own_F9 (p0_4 &&& (3 : Int32)) i208)), .val (.ref b276), .val (.int i305)] [(.int (0 : Int32))])) t
                        exact k
                      rw [show own_F0_167_10 p0_0 p0_1 p0_2 p0_3 p0_4 i167 i202 i205 i208 i302 i305 = (0 : Int32) from ((if_pos hc307).trans rfl)]
                      exact own_retN X306 hx (t := .boolean) Bd.returns (by simp) (hb hby at_184) hlk (by decide) (by decide) ⟨rfl, N306⟩
                    · skip
                      refine own_by (T' := T306) (g' := (mkF m 176 #[.val (.int p0_0), .val (.int p0_1), .val (.int p0_2), .val (.int p0_3), .val (.int p0_4), .val (.int i167), .val (.ref b169), .val (.int (p0_2 &&& (2147483647 : Int32))), .val (.ref b176), .val (.int i205), .val (.int i208), .val (.int (own_F9 (p0_4 &&& (3 : Int32)) i208)), .val (.ref b276), .val (.int i305)] [(.int i305)])) (fun t k => ?_) ?_
                      · show Steps p.tables e below (T306.setTop (mkF m 171 #[.val (.int p0_0), .val (.int p0_1), .val (.int p0_2), .val (.int p0_3), .val (.int p0_4), .val (.int i167), .val (.ref b169), .val (.int (p0_2 &&& (2147483647 : Int32))), .val (.ref b176), .val (.int i205), .val (.int i208), .val (.int (own_F9 (p0_4 &&& (3 : Int32)) i208)), .val (.ref b276), .val (.int i305)] [(.int i205)])) t
                        refine XS.ifNo X306.here hx rfl (hb hby at_171) rfl ((if0 _ _).trans (feq hc307).1) ?_
                        show Steps p.tables e below (T306.setTop (mkF m 174 #[.val (.int p0_0), .val (.int p0_1), .val (.int p0_2), .val (.int p0_3), .val (.int p0_4), .val (.int i167), .val (.ref b169), .val (.int (p0_2 &&& (2147483647 : Int32))), .val (.ref b176), .val (.int i205), .val (.int i208), .val (.int (own_F9 (p0_4 &&& (3 : Int32)) i208)), .val (.ref b276), .val (.int i305)] [])) t
                        refine XS.iload X306.here hx rfl (hb hby at_174) rfl ?_
                        show Steps p.tables e below (T306.setTop (mkF m 176 #[.val (.int p0_0), .val (.int p0_1), .val (.int p0_2), .val (.int p0_3), .val (.int p0_4), .val (.int i167), .val (.ref b169), .val (.int (p0_2 &&& (2147483647 : Int32))), .val (.ref b176), .val (.int i205), .val (.int i208), .val (.int (own_F9 (p0_4 &&& (3 : Int32)) i208)), .val (.ref b276), .val (.int i305)] [(.int i305)])) t
                        exact k
                      by_cases hc309 : i305 = (0 : Int32)
                      · skip
                        refine own_by (T' := T306) (g' := (mkF m 184 #[.val (.int p0_0), .val (.int p0_1), .val (.int p0_2), .val (.int p0_3), .val (.int p0_4), .val (.int i167), .val (.ref b169), .val (.int (p0_2 &&& (2147483647 : Int32))), .val (.ref b176), .val (.int i205), .val (.int i208), .val (.int (own_F9 (p0_4 &&& (3 : Int32)) i208)), .val (.ref b276), .val (.int i305)] [(.int (0 : Int32))])) (fun t k => ?_) ?_
                        · show Steps p.tables e below (T306.setTop (mkF m 176 #[.val (.int p0_0), .val (.int p0_1), .val (.int p0_2), .val (.int p0_3), .val (.int p0_4), .val (.int i167), .val (.ref b169), .val (.int (p0_2 &&& (2147483647 : Int32))), .val (.ref b176), .val (.int i205), .val (.int i208), .val (.int (own_F9 (p0_4 &&& (3 : Int32)) i208)), .val (.ref b276), .val (.int i305)] [(.int i305)])) t
                          refine XS.ifYes X306.here hx rfl (pc0 := 176) (pc' := 183) rfl (hb hby at_176) rfl ((if0 _ _).trans (teq hc309).1) (by decide) (by decide) ?_
                          show Steps p.tables e below (T306.setTop (mkF m 183 #[.val (.int p0_0), .val (.int p0_1), .val (.int p0_2), .val (.int p0_3), .val (.int p0_4), .val (.int i167), .val (.ref b169), .val (.int (p0_2 &&& (2147483647 : Int32))), .val (.ref b176), .val (.int i205), .val (.int i208), .val (.int (own_F9 (p0_4 &&& (3 : Int32)) i208)), .val (.ref b276), .val (.int i305)] [])) t
                          refine XS.iconst X306.here hx rfl (hb hby at_183) ?_
                          show Steps p.tables e below (T306.setTop (mkF m 184 #[.val (.int p0_0), .val (.int p0_1), .val (.int p0_2), .val (.int p0_3), .val (.int p0_4), .val (.int i167), .val (.ref b169), .val (.int (p0_2 &&& (2147483647 : Int32))), .val (.ref b176), .val (.int i205), .val (.int i208), .val (.int (own_F9 (p0_4 &&& (3 : Int32)) i208)), .val (.ref b276), .val (.int i305)] [(.int (0 : Int32))])) t
                          exact k
                        rw [show own_F0_167_10 p0_0 p0_1 p0_2 p0_3 p0_4 i167 i202 i205 i208 i302 i305 = (0 : Int32) from ((if_neg hc307).trans ((if_pos hc309).trans rfl))]
                        exact own_retN X306 hx (t := .boolean) Bd.returns (by simp) (hb hby at_184) hlk (by decide) (by decide) ⟨rfl, N306⟩
                      · skip
                        refine own_by (T' := T306) (g' := (mkF m 184 #[.val (.int p0_0), .val (.int p0_1), .val (.int p0_2), .val (.int p0_3), .val (.int p0_4), .val (.int i167), .val (.ref b169), .val (.int (p0_2 &&& (2147483647 : Int32))), .val (.ref b176), .val (.int i205), .val (.int i208), .val (.int (own_F9 (p0_4 &&& (3 : Int32)) i208)), .val (.ref b276), .val (.int i305)] [(.int (1 : Int32))])) (fun t k => ?_) ?_
                        · show Steps p.tables e below (T306.setTop (mkF m 176 #[.val (.int p0_0), .val (.int p0_1), .val (.int p0_2), .val (.int p0_3), .val (.int p0_4), .val (.int i167), .val (.ref b169), .val (.int (p0_2 &&& (2147483647 : Int32))), .val (.ref b176), .val (.int i205), .val (.int i208), .val (.int (own_F9 (p0_4 &&& (3 : Int32)) i208)), .val (.ref b276), .val (.int i305)] [(.int i305)])) t
                          refine XS.ifNo X306.here hx rfl (hb hby at_176) rfl ((if0 _ _).trans (feq hc309).1) ?_
                          show Steps p.tables e below (T306.setTop (mkF m 179 #[.val (.int p0_0), .val (.int p0_1), .val (.int p0_2), .val (.int p0_3), .val (.int p0_4), .val (.int i167), .val (.ref b169), .val (.int (p0_2 &&& (2147483647 : Int32))), .val (.ref b176), .val (.int i205), .val (.int i208), .val (.int (own_F9 (p0_4 &&& (3 : Int32)) i208)), .val (.ref b276), .val (.int i305)] [])) t
                          refine XS.iconst X306.here hx rfl (hb hby at_179) ?_
                          show Steps p.tables e below (T306.setTop (mkF m 180 #[.val (.int p0_0), .val (.int p0_1), .val (.int p0_2), .val (.int p0_3), .val (.int p0_4), .val (.int i167), .val (.ref b169), .val (.int (p0_2 &&& (2147483647 : Int32))), .val (.ref b176), .val (.int i205), .val (.int i208), .val (.int (own_F9 (p0_4 &&& (3 : Int32)) i208)), .val (.ref b276), .val (.int i305)] [(.int (1 : Int32))])) t
                          refine XS.goto X306.here hx rfl (pc0 := 180) (pc' := 184) rfl (hb hby at_180) (by decide) (by decide) ?_
                          show Steps p.tables e below (T306.setTop (mkF m 184 #[.val (.int p0_0), .val (.int p0_1), .val (.int p0_2), .val (.int p0_3), .val (.int p0_4), .val (.int i167), .val (.ref b169), .val (.int (p0_2 &&& (2147483647 : Int32))), .val (.ref b176), .val (.int i205), .val (.int i208), .val (.int (own_F9 (p0_4 &&& (3 : Int32)) i208)), .val (.ref b276), .val (.int i305)] [(.int (1 : Int32))])) t
                          exact k
                        rw [show own_F0_167_10 p0_0 p0_1 p0_2 p0_3 p0_4 i167 i202 i205 i208 i302 i305 = (1 : Int32) from ((if_neg hc307).trans ((if_neg hc309).trans rfl))]
                        exact own_retN X306 hx (t := .boolean) Bd.returns (by simp) (hb hby at_184) hlk (by decide) (by decide) ⟨rfl, N306⟩
                  by_cases hc304 : (own_F8 ((if i167 = (0 : Int32) then (3 : Int32) else (2 : Int32)) - (1 : Int32))) = i302
                  · skip
                    refine own_by (T' := T303) (g' := (mkF m 167 #[.val (.int p0_0), .val (.int p0_1), .val (.int p0_2), .val (.int p0_3), .val (.int p0_4), .val (.int i167), .val (.ref b169), .val (.int (p0_2 &&& (2147483647 : Int32))), .val (.ref b176), .val (.int i205), .val (.int i208), .val (.int (own_F9 (p0_4 &&& (3 : Int32)) i208)), .val (.ref b276), .unset] [(.int (1 : Int32))])) (fun t k => ?_) ?_
                    · show Steps p.tables e below (T303.setTop (mkF m 159 #[.val (.int p0_0), .val (.int p0_1), .val (.int p0_2), .val (.int p0_3), .val (.int p0_4), .val (.int i167), .val (.ref b169), .val (.int (p0_2 &&& (2147483647 : Int32))), .val (.ref b176), .val (.int i205), .val (.int i208), .val (.int (own_F9 (p0_4 &&& (3 : Int32)) i208)), .val (.ref b276), .unset] [(.int i302), (.int (own_F8 ((if i167 = (0 : Int32) then (3 : Int32) else (2 : Int32)) - (1 : Int32))))])) t
                      refine XS.icmpNo X303.here hx rfl (hb hby at_159) rfl (teq hc304).2 ?_
                      show Steps p.tables e below (T303.setTop (mkF m 162 #[.val (.int p0_0), .val (.int p0_1), .val (.int p0_2), .val (.int p0_3), .val (.int p0_4), .val (.int i167), .val (.ref b169), .val (.int (p0_2 &&& (2147483647 : Int32))), .val (.ref b176), .val (.int i205), .val (.int i208), .val (.int (own_F9 (p0_4 &&& (3 : Int32)) i208)), .val (.ref b276), .unset] [])) t
                      refine XS.iconst X303.here hx rfl (hb hby at_162) ?_
                      show Steps p.tables e below (T303.setTop (mkF m 163 #[.val (.int p0_0), .val (.int p0_1), .val (.int p0_2), .val (.int p0_3), .val (.int p0_4), .val (.int i167), .val (.ref b169), .val (.int (p0_2 &&& (2147483647 : Int32))), .val (.ref b176), .val (.int i205), .val (.int i208), .val (.int (own_F9 (p0_4 &&& (3 : Int32)) i208)), .val (.ref b276), .unset] [(.int (1 : Int32))])) t
                      refine XS.goto X303.here hx rfl (pc0 := 163) (pc' := 167) rfl (hb hby at_163) (by decide) (by decide) ?_
                      show Steps p.tables e below (T303.setTop (mkF m 167 #[.val (.int p0_0), .val (.int p0_1), .val (.int p0_2), .val (.int p0_3), .val (.int p0_4), .val (.int i167), .val (.ref b169), .val (.int (p0_2 &&& (2147483647 : Int32))), .val (.ref b176), .val (.int i205), .val (.int i208), .val (.int (own_F9 (p0_4 &&& (3 : Int32)) i208)), .val (.ref b276), .unset] [(.int (1 : Int32))])) t
                      exact k
                    rw [show own_F0_159_9 p0_0 p0_1 p0_2 p0_3 p0_4 i167 i202 i205 i208 i302 = (own_F0_167_10 p0_0 p0_1 p0_2 p0_3 p0_4 i167 i202 i205 i208 i302 (1 : Int32)) from ((if_pos hc304).trans rfl)]
                    exact J0_10 _ _ (1 : Int32) X303 e303 N303
                  · skip
                    refine own_by (T' := T303) (g' := (mkF m 167 #[.val (.int p0_0), .val (.int p0_1), .val (.int p0_2), .val (.int p0_3), .val (.int p0_4), .val (.int i167), .val (.ref b169), .val (.int (p0_2 &&& (2147483647 : Int32))), .val (.ref b176), .val (.int i205), .val (.int i208), .val (.int (own_F9 (p0_4 &&& (3 : Int32)) i208)), .val (.ref b276), .unset] [(.int (0 : Int32))])) (fun t k => ?_) ?_
                    · show Steps p.tables e below (T303.setTop (mkF m 159 #[.val (.int p0_0), .val (.int p0_1), .val (.int p0_2), .val (.int p0_3), .val (.int p0_4), .val (.int i167), .val (.ref b169), .val (.int (p0_2 &&& (2147483647 : Int32))), .val (.ref b176), .val (.int i205), .val (.int i208), .val (.int (own_F9 (p0_4 &&& (3 : Int32)) i208)), .val (.ref b276), .unset] [(.int i302), (.int (own_F8 ((if i167 = (0 : Int32) then (3 : Int32) else (2 : Int32)) - (1 : Int32))))])) t
                      refine XS.icmpYes X303.here hx rfl (pc0 := 159) (pc' := 166) rfl (hb hby at_159) rfl (feq hc304).2 (by decide) (by decide) ?_
                      show Steps p.tables e below (T303.setTop (mkF m 166 #[.val (.int p0_0), .val (.int p0_1), .val (.int p0_2), .val (.int p0_3), .val (.int p0_4), .val (.int i167), .val (.ref b169), .val (.int (p0_2 &&& (2147483647 : Int32))), .val (.ref b176), .val (.int i205), .val (.int i208), .val (.int (own_F9 (p0_4 &&& (3 : Int32)) i208)), .val (.ref b276), .unset] [])) t
                      refine XS.iconst X303.here hx rfl (hb hby at_166) ?_
                      show Steps p.tables e below (T303.setTop (mkF m 167 #[.val (.int p0_0), .val (.int p0_1), .val (.int p0_2), .val (.int p0_3), .val (.int p0_4), .val (.int i167), .val (.ref b169), .val (.int (p0_2 &&& (2147483647 : Int32))), .val (.ref b176), .val (.int i205), .val (.int i208), .val (.int (own_F9 (p0_4 &&& (3 : Int32)) i208)), .val (.ref b276), .unset] [(.int (0 : Int32))])) t
                      exact k
                    rw [show own_F0_159_9 p0_0 p0_1 p0_2 p0_3 p0_4 i167 i202 i205 i208 i302 = (own_F0_167_10 p0_0 p0_1 p0_2 p0_3 p0_4 i167 i202 i205 i208 i302 (0 : Int32)) from ((if_neg hc304).trans rfl)]
                    exact J0_10 _ _ (0 : Int32) X303 e303 N303
                by_cases hc301 : (own_F9 (p0_4 &&& (3 : Int32)) i208) = i208
                · skip
                  refine own_by (T' := T299) (g' := (mkF m 159 #[.val (.int p0_0), .val (.int p0_1), .val (.int p0_2), .val (.int p0_3), .val (.int p0_4), .val (.int i167), .val (.ref b169), .val (.int (p0_2 &&& (2147483647 : Int32))), .val (.ref b176), .val (.int i205), .val (.int i208), .val (.int (own_F9 (p0_4 &&& (3 : Int32)) i208)), .val (.ref b276), .unset] [(.int (1 : Int32)), (.int (own_F8 ((if i167 = (0 : Int32) then (3 : Int32) else (2 : Int32)) - (1 : Int32))))])) (fun t k => ?_) ?_
                  · show Steps p.tables e below (T299.setTop (mkF m 151 #[.val (.int p0_0), .val (.int p0_1), .val (.int p0_2), .val (.int p0_3), .val (.int p0_4), .val (.int i167), .val (.ref b169), .val (.int (p0_2 &&& (2147483647 : Int32))), .val (.ref b176), .val (.int i205), .val (.int i208), .val (.int (own_F9 (p0_4 &&& (3 : Int32)) i208)), .val (.ref b276), .unset] [(.int i208), (.int (own_F9 (p0_4 &&& (3 : Int32)) i208)), (.int (own_F8 ((if i167 = (0 : Int32) then (3 : Int32) else (2 : Int32)) - (1 : Int32))))])) t
                    refine XS.icmpNo X299.here hx rfl (hb hby at_151) rfl (teq hc301).2 ?_
                    show Steps p.tables e below (T299.setTop (mkF m 154 #[.val (.int p0_0), .val (.int p0_1), .val (.int p0_2), .val (.int p0_3), .val (.int p0_4), .val (.int i167), .val (.ref b169), .val (.int (p0_2 &&& (2147483647 : Int32))), .val (.ref b176), .val (.int i205), .val (.int i208), .val (.int (own_F9 (p0_4 &&& (3 : Int32)) i208)), .val (.ref b276), .unset] [(.int (own_F8 ((if i167 = (0 : Int32) then (3 : Int32) else (2 : Int32)) - (1 : Int32))))])) t
                    refine XS.iconst X299.here hx rfl (hb hby at_154) ?_
                    show Steps p.tables e below (T299.setTop (mkF m 155 #[.val (.int p0_0), .val (.int p0_1), .val (.int p0_2), .val (.int p0_3), .val (.int p0_4), .val (.int i167), .val (.ref b169), .val (.int (p0_2 &&& (2147483647 : Int32))), .val (.ref b176), .val (.int i205), .val (.int i208), .val (.int (own_F9 (p0_4 &&& (3 : Int32)) i208)), .val (.ref b276), .unset] [(.int (1 : Int32)), (.int (own_F8 ((if i167 = (0 : Int32) then (3 : Int32) else (2 : Int32)) - (1 : Int32))))])) t
                    refine XS.goto X299.here hx rfl (pc0 := 155) (pc' := 159) rfl (hb hby at_155) (by decide) (by decide) ?_
                    show Steps p.tables e below (T299.setTop (mkF m 159 #[.val (.int p0_0), .val (.int p0_1), .val (.int p0_2), .val (.int p0_3), .val (.int p0_4), .val (.int i167), .val (.ref b169), .val (.int (p0_2 &&& (2147483647 : Int32))), .val (.ref b176), .val (.int i205), .val (.int i208), .val (.int (own_F9 (p0_4 &&& (3 : Int32)) i208)), .val (.ref b276), .unset] [(.int (1 : Int32)), (.int (own_F8 ((if i167 = (0 : Int32) then (3 : Int32) else (2 : Int32)) - (1 : Int32))))])) t
                    exact k
                  rw [show own_F0_81_4 p0_0 p0_1 p0_2 p0_3 p0_4 i167 i202 i205 i208 = (own_F0_159_9 p0_0 p0_1 p0_2 p0_3 p0_4 i167 i202 i205 i208 (1 : Int32)) from ((if_pos hc229).trans ((if_neg hc230).trans ((if_pos hc298).trans ((if_pos hc301).trans rfl))))]
                  exact J0_9 _ _ (1 : Int32) X299 e299 N300
                · skip
                  refine own_by (T' := T299) (g' := (mkF m 159 #[.val (.int p0_0), .val (.int p0_1), .val (.int p0_2), .val (.int p0_3), .val (.int p0_4), .val (.int i167), .val (.ref b169), .val (.int (p0_2 &&& (2147483647 : Int32))), .val (.ref b176), .val (.int i205), .val (.int i208), .val (.int (own_F9 (p0_4 &&& (3 : Int32)) i208)), .val (.ref b276), .unset] [(.int (0 : Int32)), (.int (own_F8 ((if i167 = (0 : Int32) then (3 : Int32) else (2 : Int32)) - (1 : Int32))))])) (fun t k => ?_) ?_
                  · show Steps p.tables e below (T299.setTop (mkF m 151 #[.val (.int p0_0), .val (.int p0_1), .val (.int p0_2), .val (.int p0_3), .val (.int p0_4), .val (.int i167), .val (.ref b169), .val (.int (p0_2 &&& (2147483647 : Int32))), .val (.ref b176), .val (.int i205), .val (.int i208), .val (.int (own_F9 (p0_4 &&& (3 : Int32)) i208)), .val (.ref b276), .unset] [(.int i208), (.int (own_F9 (p0_4 &&& (3 : Int32)) i208)), (.int (own_F8 ((if i167 = (0 : Int32) then (3 : Int32) else (2 : Int32)) - (1 : Int32))))])) t
                    refine XS.icmpYes X299.here hx rfl (pc0 := 151) (pc' := 158) rfl (hb hby at_151) rfl (feq hc301).2 (by decide) (by decide) ?_
                    show Steps p.tables e below (T299.setTop (mkF m 158 #[.val (.int p0_0), .val (.int p0_1), .val (.int p0_2), .val (.int p0_3), .val (.int p0_4), .val (.int i167), .val (.ref b169), .val (.int (p0_2 &&& (2147483647 : Int32))), .val (.ref b176), .val (.int i205), .val (.int i208), .val (.int (own_F9 (p0_4 &&& (3 : Int32)) i208)), .val (.ref b276), .unset] [(.int (own_F8 ((if i167 = (0 : Int32) then (3 : Int32) else (2 : Int32)) - (1 : Int32))))])) t
                    refine XS.iconst X299.here hx rfl (hb hby at_158) ?_
                    show Steps p.tables e below (T299.setTop (mkF m 159 #[.val (.int p0_0), .val (.int p0_1), .val (.int p0_2), .val (.int p0_3), .val (.int p0_4), .val (.int i167), .val (.ref b169), .val (.int (p0_2 &&& (2147483647 : Int32))), .val (.ref b176), .val (.int i205), .val (.int i208), .val (.int (own_F9 (p0_4 &&& (3 : Int32)) i208)), .val (.ref b276), .unset] [(.int (0 : Int32)), (.int (own_F8 ((if i167 = (0 : Int32) then (3 : Int32) else (2 : Int32)) - (1 : Int32))))])) t
                    exact k
                  rw [show own_F0_81_4 p0_0 p0_1 p0_2 p0_3 p0_4 i167 i202 i205 i208 = (own_F0_159_9 p0_0 p0_1 p0_2 p0_3 p0_4 i167 i202 i205 i208 (0 : Int32)) from ((if_pos hc229).trans ((if_neg hc230).trans ((if_pos hc298).trans ((if_neg hc301).trans rfl))))]
                  exact J0_9 _ _ (0 : Int32) X299 e299 N300
              · skip
                refine own_by (T' := T276) (g' := (mkF m 137 #[.val (.int p0_0), .val (.int p0_1), .val (.int p0_2), .val (.int p0_3), .val (.int p0_4), .val (.int i167), .val (.ref b169), .val (.int (p0_2 &&& (2147483647 : Int32))), .val (.ref b176), .val (.int i205), .val (.int i208), .val (.int (own_F9 (p0_4 &&& (3 : Int32)) i208)), .val (.ref b276), .unset] [(.ref b276)])) (fun t k => ?_) ?_
                · show Steps p.tables e below (T276.setTop (mkF m 132 #[.val (.int p0_0), .val (.int p0_1), .val (.int p0_2), .val (.int p0_3), .val (.int p0_4), .val (.int i167), .val (.ref b169), .val (.int (p0_2 &&& (2147483647 : Int32))), .val (.ref b176), .val (.int i205), .val (.int i208), .val (.int (own_F9 (p0_4 &&& (3 : Int32)) i208)), .val (.ref b276), .unset] [(.int (3 : Int32)), (.int (own_F9 (p0_4 &&& (3 : Int32)) i208))])) t
                  refine XS.icmpNo X276.here hx rfl (hb hby at_132) rfl (flt hc298).1 ?_
                  show Steps p.tables e below (T276.setTop (mkF m 135 #[.val (.int p0_0), .val (.int p0_1), .val (.int p0_2), .val (.int p0_3), .val (.int p0_4), .val (.int i167), .val (.ref b169), .val (.int (p0_2 &&& (2147483647 : Int32))), .val (.ref b176), .val (.int i205), .val (.int i208), .val (.int (own_F9 (p0_4 &&& (3 : Int32)) i208)), .val (.ref b276), .unset] [])) t
                  refine XS.aload X276.here hx rfl (hb hby at_135) rfl rfl ?_
                  show Steps p.tables e below (T276.setTop (mkF m 137 #[.val (.int p0_0), .val (.int p0_1), .val (.int p0_2), .val (.int p0_3), .val (.int p0_4), .val (.int i167), .val (.ref b169), .val (.int (p0_2 &&& (2147483647 : Int32))), .val (.ref b176), .val (.int i205), .val (.int i208), .val (.int (own_F9 (p0_4 &&& (3 : Int32)) i208)), .val (.ref b276), .unset] [(.ref b276)])) t
                  exact k
                obtain ⟨cq310, kq310, q310a, q310b, q310c⟩ := isOf hZ rfl f277
                obtain ⟨v310, _, ⟨T310, L310, k310, n310⟩, -, X310, ⟨Lc310, hQ310, l310, y310, z310⟩, st310⟩ := X276.virtualBack hx (y := (⟨"com/example/topping_out/toppingout/game/Player", "lessACertificate", "()Lcom/example/topping_out/toppingout/game/Player;"⟩ : MethodName)) (z := (⟨"com/example/topping_out/toppingout/game/Player", "lessACertificate", "()Lcom/example/topping_out/toppingout/game/Player;"⟩ : MethodName)) hown (mvT hZ (hw _ (List.mem_of_getElem? (i := 61) rfl))) (mvT hZ (hw _ (List.mem_of_getElem? (i := 62) rfl))) (notFace_of_selects (args := #[]) (mvT hZ (hw _ (List.mem_of_getElem? (i := 64) rfl)))) (mvT hZ (hw _ (List.mem_of_getElem? (i := 64) rfl))) (mvT hZ (hw _ (List.mem_of_getElem? (i := 63) rfl))) (by decide) (backOf (W := 0) (own_rm11 l Z a0 hw [] b276 b169 (nar .boolean (nar .boolean i167)) ((if i167 = (0 : Int32) then (3 : Int32) else (2 : Int32)) - (1 : Int32)) (0 : Int32) T276.heap n0 Z296 f278 f279 f280 f281) hZ (hw _ (List.mem_of_getElem? (i := 65) rfl)) (hw _ (List.mem_of_getElem? (i := 29) rfl)) (by decide) (by decide)) q310a q310c (g := (mkF m 137 #[.val (.int p0_0), .val (.int p0_1), .val (.int p0_2), .val (.int p0_3), .val (.int p0_4), .val (.int i167), .val (.ref b169), .val (.int (p0_2 &&& (2147483647 : Int32))), .val (.ref b176), .val (.int i205), .val (.int i208), .val (.int (own_F9 (p0_4 &&& (3 : Int32)) i208)), .val (.ref b276), .unset] [(.ref b276)])) rfl (by rw [hml]; rfl) (Steps.refl _) (argsL := []) (rest := []) (lenOf pd___Lcom_example_topping_out_toppingout_game_Player_ rfl) rfl (by show 2 * 0 + _ ≤ _; exact Nat.le_of_eq rfl) (hb hby at_137) (fun _ _ => ⟨rfl, rfl, (by decide : 5 + 1 ≤ _), (by decide : 17 + 4 ≤ _)⟩)
                dsimp only [Pt.U, Pt.locs, Pt.cells, Pt.slots] at X310 l310 y310 z310 st310 hQ310
                subst l310 y310 z310
                obtain ⟨b310, rfl, M310, K310, sz310, gn310, f311, f312, f313, f314, f315⟩ := hQ310
                have f316 := f282.keep K310
                have f317 := f283.keep K310 nin0
                have f318 := f284.keep K310
                have f319 := f285.keep K310 nin0
                have f320 := f286.keep K310 nin0
                have f321 := f287.keep K310 nin0
                have f322 := f288.keep K310 nin0
                have f323 := f289.keep K310
                have f324 := f290.keep K310 nin0
                have f325 := f291.keep K310 nin0
                have f326 := f292.keep K310 nin0
                have f327 := f293.keep K310 nin0
                have f328 := f277.keep K310
                have f329 := f278.keep K310 nin0
                have f330 := f279.keep K310 nin0
                have f331 := f280.keep K310 nin0
                have f332 := f281.keep K310 nin0
                have K333 : Keep h0 T310.heap [] := K294.trans K310 all0
                have O334 := O295.keep K310 all0
                have Z335 := Nat.le_trans Z296 K310.1
                have sz_b310 : h0.size ≤ b310 := Nat.le_trans K294.1 sz310
                have ne_b169_b310 : b169 ≠ b310 := Nat.ne_of_lt (Nat.lt_of_lt_of_le f283.lt sz310)
                have ne_b176_b310 : b176 ≠ b310 := Nat.ne_of_lt (Nat.lt_of_lt_of_le f288.lt sz310)
                have ne_b212_b310 : b212 ≠ b310 := Nat.ne_of_lt (Nat.lt_of_lt_of_le f293.lt sz310)
                have ne_b276_b310 : b276 ≠ b310 := Nat.ne_of_lt (Nat.lt_of_lt_of_le f281.lt sz310)
                have N336 := Fr.app N297 M310
                refine own_via (T' := T310) (g' := (mkF m 140 #[.val (.int p0_0), .val (.int p0_1), .val (.int p0_2), .val (.int p0_3), .val (.int p0_4), .val (.int i167), .val (.ref b169), .val (.int (p0_2 &&& (2147483647 : Int32))), .val (.ref b176), .val (.int i205), .val (.int i208), .val (.int (own_F9 (p0_4 &&& (3 : Int32)) i208)), .val (.ref b276), .unset] [(.ref b310)])) st310 ?_
                refine own_by (T' := T310) (g' := (mkF m 144 #[.val (.int p0_0), .val (.int p0_1), .val (.int p0_2), .val (.int p0_3), .val (.int p0_4), .val (.int i167), .val (.ref b169), .val (.int (p0_2 &&& (2147483647 : Int32))), .val (.ref b176), .val (.int i205), .val (.int i208), .val (.int (own_F9 (p0_4 &&& (3 : Int32)) i208)), .val (.ref b310), .unset] [(.ref b310)])) (fun t k => ?_) ?_
                · show Steps p.tables e below (T310.setTop (mkF m 140 #[.val (.int p0_0), .val (.int p0_1), .val (.int p0_2), .val (.int p0_3), .val (.int p0_4), .val (.int i167), .val (.ref b169), .val (.int (p0_2 &&& (2147483647 : Int32))), .val (.ref b176), .val (.int i205), .val (.int i208), .val (.int (own_F9 (p0_4 &&& (3 : Int32)) i208)), .val (.ref b276), .unset] [(.ref b310)])) t
                  refine XS.astore X310.here hx rfl (hb hby at_140) rfl rfl (l' := #[.val (.int p0_0), .val (.int p0_1), .val (.int p0_2), .val (.int p0_3), .val (.int p0_4), .val (.int i167), .val (.ref b169), .val (.int (p0_2 &&& (2147483647 : Int32))), .val (.ref b176), .val (.int i205), .val (.int i208), .val (.int (own_F9 (p0_4 &&& (3 : Int32)) i208)), .val (.ref b310), .unset]) rfl ?_
                  show Steps p.tables e below (T310.setTop (mkF m 142 #[.val (.int p0_0), .val (.int p0_1), .val (.int p0_2), .val (.int p0_3), .val (.int p0_4), .val (.int i167), .val (.ref b169), .val (.int (p0_2 &&& (2147483647 : Int32))), .val (.ref b176), .val (.int i205), .val (.int i208), .val (.int (own_F9 (p0_4 &&& (3 : Int32)) i208)), .val (.ref b310), .unset] [])) t
                  refine XS.aload X310.here hx rfl (hb hby at_142) rfl rfl ?_
                  show Steps p.tables e below (T310.setTop (mkF m 144 #[.val (.int p0_0), .val (.int p0_1), .val (.int p0_2), .val (.int p0_3), .val (.int p0_4), .val (.int i167), .val (.ref b169), .val (.int (p0_2 &&& (2147483647 : Int32))), .val (.ref b176), .val (.int i205), .val (.int i208), .val (.int (own_F9 (p0_4 &&& (3 : Int32)) i208)), .val (.ref b310), .unset] [(.ref b310)])) t
                  exact k
                obtain ⟨cq337, kq337, q337a, q337b, q337c⟩ := isOf hZ rfl f311
                obtain ⟨v337, _, ⟨T337, L337, k337, n337⟩, -, X337, ⟨Lc337, hQ337, l337, y337, z337⟩, st337⟩ := X310.virtualBack hx (y := (⟨"com/example/topping_out/toppingout/game/Player", "out", "()Z"⟩ : MethodName)) (z := (⟨"com/example/topping_out/toppingout/game/Player", "out", "()Z"⟩ : MethodName)) hown (mvT hZ (hw _ (List.mem_of_getElem? (i := 47) rfl))) (mvT hZ (hw _ (List.mem_of_getElem? (i := 48) rfl))) (notFace_of_selects (args := #[]) (mvT hZ (hw _ (List.mem_of_getElem? (i := 50) rfl)))) (mvT hZ (hw _ (List.mem_of_getElem? (i := 50) rfl))) (mvT hZ (hw _ (List.mem_of_getElem? (i := 49) rfl))) (by decide) (backOf (W := 0) (own_rm8 l Z a0 hw [] b310 (((if i167 = (0 : Int32) then (3 : Int32) else (2 : Int32)) - (1 : Int32)) - (1 : Int32)) T310.heap n0 Z335 f314) hZ (hw _ (List.mem_of_getElem? (i := 51) rfl)) (hw _ (List.mem_of_getElem? (i := 29) rfl)) (by decide) (by decide)) q337a q337c (g := (mkF m 144 #[.val (.int p0_0), .val (.int p0_1), .val (.int p0_2), .val (.int p0_3), .val (.int p0_4), .val (.int i167), .val (.ref b169), .val (.int (p0_2 &&& (2147483647 : Int32))), .val (.ref b176), .val (.int i205), .val (.int i208), .val (.int (own_F9 (p0_4 &&& (3 : Int32)) i208)), .val (.ref b310), .unset] [(.ref b310)])) rfl (by rw [hml]; rfl) (Steps.refl _) (argsL := []) (rest := []) (lenOf pd___Z rfl) rfl (by show 2 * 0 + _ ≤ _; exact Nat.le_of_eq rfl) (hb hby at_144) (fun _ _ => ⟨rfl, rfl, (by decide : 6 + 0 ≤ _), (by decide : 21 + 0 ≤ _)⟩)
                dsimp only [Pt.U, Pt.locs, Pt.cells, Pt.slots] at X337 l337 y337 z337 st337 hQ337
                subst l337 y337 z337
                obtain ⟨rfl, M337, e337⟩ := hQ337
                have N338 := Fr.app N336 M337
                refine own_via (T' := T337) (g' := (mkF m 147 #[.val (.int p0_0), .val (.int p0_1), .val (.int p0_2), .val (.int p0_3), .val (.int p0_4), .val (.int i167), .val (.ref b169), .val (.int (p0_2 &&& (2147483647 : Int32))), .val (.ref b176), .val (.int i205), .val (.int i208), .val (.int (own_F9 (p0_4 &&& (3 : Int32)) i208)), .val (.ref b310), .unset] [(.int (own_F8 (((if i167 = (0 : Int32) then (3 : Int32) else (2 : Int32)) - (1 : Int32)) - (1 : Int32))))])) st337 ?_
                refine own_by (T' := T337) (g' := (mkF m 151 #[.val (.int p0_0), .val (.int p0_1), .val (.int p0_2), .val (.int p0_3), .val (.int p0_4), .val (.int i167), .val (.ref b169), .val (.int (p0_2 &&& (2147483647 : Int32))), .val (.ref b176), .val (.int i205), .val (.int i208), .val (.int (own_F9 (p0_4 &&& (3 : Int32)) i208)), .val (.ref b310), .unset] [(.int i208), (.int (own_F9 (p0_4 &&& (3 : Int32)) i208)), (.int (own_F8 (((if i167 = (0 : Int32) then (3 : Int32) else (2 : Int32)) - (1 : Int32)) - (1 : Int32))))])) (fun t k => ?_) ?_
                · show Steps p.tables e below (T337.setTop (mkF m 147 #[.val (.int p0_0), .val (.int p0_1), .val (.int p0_2), .val (.int p0_3), .val (.int p0_4), .val (.int i167), .val (.ref b169), .val (.int (p0_2 &&& (2147483647 : Int32))), .val (.ref b176), .val (.int i205), .val (.int i208), .val (.int (own_F9 (p0_4 &&& (3 : Int32)) i208)), .val (.ref b310), .unset] [(.int (own_F8 (((if i167 = (0 : Int32) then (3 : Int32) else (2 : Int32)) - (1 : Int32)) - (1 : Int32))))])) t
                  refine XS.iload X337.here hx rfl (hb hby at_147) rfl ?_
                  show Steps p.tables e below (T337.setTop (mkF m 149 #[.val (.int p0_0), .val (.int p0_1), .val (.int p0_2), .val (.int p0_3), .val (.int p0_4), .val (.int i167), .val (.ref b169), .val (.int (p0_2 &&& (2147483647 : Int32))), .val (.ref b176), .val (.int i205), .val (.int i208), .val (.int (own_F9 (p0_4 &&& (3 : Int32)) i208)), .val (.ref b310), .unset] [(.int (own_F9 (p0_4 &&& (3 : Int32)) i208)), (.int (own_F8 (((if i167 = (0 : Int32) then (3 : Int32) else (2 : Int32)) - (1 : Int32)) - (1 : Int32))))])) t
                  refine XS.iload X337.here hx rfl (hb hby at_149) rfl ?_
                  show Steps p.tables e below (T337.setTop (mkF m 151 #[.val (.int p0_0), .val (.int p0_1), .val (.int p0_2), .val (.int p0_3), .val (.int p0_4), .val (.int i167), .val (.ref b169), .val (.int (p0_2 &&& (2147483647 : Int32))), .val (.ref b176), .val (.int i205), .val (.int i208), .val (.int (own_F9 (p0_4 &&& (3 : Int32)) i208)), .val (.ref b310), .unset] [(.int i208), (.int (own_F9 (p0_4 &&& (3 : Int32)) i208)), (.int (own_F8 (((if i167 = (0 : Int32) then (3 : Int32) else (2 : Int32)) - (1 : Int32)) - (1 : Int32))))])) t
                  exact k
                have J0_11 : ∀ (T341 : State) (L341 : List Loc) (i340 : Int32), Stand p l e room_1 s m #[(.int p0_0), (.int p0_1), (.int p0_2), (.int p0_3), (.int p0_4)] below meth c T341 L341 6 21 → T341.heap = T310.heap → Fr n0 L341 → own_Go p e below (own_P s below room_1 (own_Q0 (own_F0_159_11 p0_0 p0_1 p0_2 p0_3 p0_4 i167 i202 i205 i208 i340) h0 n0)) T341 (mkF m 159 #[.val (.int p0_0), .val (.int p0_1), .val (.int p0_2), .val (.int p0_3), .val (.int p0_4), .val (.int i167), .val (.ref b169), .val (.int (p0_2 &&& (2147483647 : Int32))), .val (.ref b176), .val (.int i205), .val (.int i208), .val (.int (own_F9 (p0_4 &&& (3 : Int32)) i208)), .val (.ref b310), .unset] [(.int i340), (.int (own_F8 (((if i167 = (0 : Int32) then (3 : Int32) else (2 : Int32)) - (1 : Int32)) - (1 : Int32))))]) := by
                  intro T341 L341 i340 X341 e341 N341
                  have J0_12 : ∀ (T344 : State) (L344 : List Loc) (i343 : Int32), Stand p l e room_1 s m #[(.int p0_0), (.int p0_1), (.int p0_2), (.int p0_3), (.int p0_4)] below meth c T344 L344 6 21 → T344.heap = T310.heap → Fr n0 L344 → own_Go p e below (own_P s below room_1 (own_Q0 (own_F0_167_12 p0_0 p0_1 p0_2 p0_3 p0_4 i167 i202 i205 i208 i340 i343) h0 n0)) T344 (mkF m 167 #[.val (.int p0_0), .val (.int p0_1), .val (.int p0_2), .val (.int p0_3), .val (.int p0_4), .val (.int i167), .val (.ref b169), .val (.int (p0_2 &&& (2147483647 : Int32))), .val (.ref b176), .val (.int i205), .val (.int i208), .val (.int (own_F9 (p0_4 &&& (3 : Int32)) i208)), .val (.ref b310), .unset] [(.int i343)]) := by
                    intro T344 L344 i343 X344 e344 N344
                    refine own_by (T' := T344) (g' := (mkF m 171 #[.val (.int p0_0), .val (.int p0_1), .val (.int p0_2), .val (.int p0_3), .val (.int p0_4), .val (.int i167), .val (.ref b169), .val (.int (p0_2 &&& (2147483647 : Int32))), .val (.ref b176), .val (.int i205), .val (.int i208), .val (.int (own_F9 (p0_4 &&& (3 : Int32)) i208)), .val (.ref b310), .val (.int i343)] [(.int i205)])) (fun t k => ?_) ?_
                    · show Steps p.tables e below (T344.setTop (mkF m 167 #[.val (.int p0_0), .val (.int p0_1), .val (.int p0_2), .val (.int p0_3), .val (.int p0_4), .val (.int i167), .val (.ref b169), .val (.int (p0_2 &&& (2147483647 : Int32))), .val (.ref b176), .val (.int i205), .val (.int i208), .val (.int (own_F9 (p0_4 &&& (3 : Int32)) i208)), .val (.ref b310), .unset] [(.int i343)])) t
                      refine XS.istore X344.here hx rfl (hb hby at_167) rfl (l' := #[.val (.int p0_0), .val (.int p0_1), .val (.int p0_2), .val (.int p0_3), .val (.int p0_4), .val (.int i167), .val (.ref b169), .val (.int (p0_2 &&& (2147483647 : Int32))), .val (.ref b176), .val (.int i205), .val (.int i208), .val (.int (own_F9 (p0_4 &&& (3 : Int32)) i208)), .val (.ref b310), .val (.int i343)]) rfl ?_
                      show Steps p.tables e below (T344.setTop (mkF m 169 #[.val (.int p0_0), .val (.int p0_1), .val (.int p0_2), .val (.int p0_3), .val (.int p0_4), .val (.int i167), .val (.ref b169), .val (.int (p0_2 &&& (2147483647 : Int32))), .val (.ref b176), .val (.int i205), .val (.int i208), .val (.int (own_F9 (p0_4 &&& (3 : Int32)) i208)), .val (.ref b310), .val (.int i343)] [])) t
                      refine XS.iload X344.here hx rfl (hb hby at_169) rfl ?_
                      show Steps p.tables e below (T344.setTop (mkF m 171 #[.val (.int p0_0), .val (.int p0_1), .val (.int p0_2), .val (.int p0_3), .val (.int p0_4), .val (.int i167), .val (.ref b169), .val (.int (p0_2 &&& (2147483647 : Int32))), .val (.ref b176), .val (.int i205), .val (.int i208), .val (.int (own_F9 (p0_4 &&& (3 : Int32)) i208)), .val (.ref b310), .val (.int i343)] [(.int i205)])) t
                      exact k
                    by_cases hc345 : i205 = (0 : Int32)
                    · skip
                      refine own_by (T' := T344) (g' := (mkF m 184 #[.val (.int p0_0), .val (.int p0_1), .val (.int p0_2), .val (.int p0_3), .val (.int p0_4), .val (.int i167), .val (.ref b169), .val (.int (p0_2 &&& (2147483647 : Int32))), .val (.ref b176), .val (.int i205), .val (.int i208), .val (.int (own_F9 (p0_4 &&& (3 : Int32)) i208)), .val (.ref b310), .val (.int i343)] [(.int (0 : Int32))])) (fun t k => ?_) ?_
                      · show Steps p.tables e below (T344.setTop (mkF m 171 #[.val (.int p0_0), .val (.int p0_1), .val (.int p0_2), .val (.int p0_3), .val (.int p0_4), .val (.int i167), .val (.ref b169), .val (.int (p0_2 &&& (2147483647 : Int32))), .val (.ref b176), .val (.int i205), .val (.int i208), .val (.int (own_F9 (p0_4 &&& (3 : Int32)) i208)), .val (.ref b310), .val (.int i343)] [(.int i205)])) t
                        refine XS.ifYes X344.here hx rfl (pc0 := 171) (pc' := 183) rfl (hb hby at_171) rfl ((if0 _ _).trans (teq hc345).1) (by decide) (by decide) ?_
                        show Steps p.tables e below (T344.setTop (mkF m 183 #[.val (.int p0_0), .val (.int p0_1), .val (.int p0_2), .val (.int p0_3), .val (.int p0_4), .val (.int i167), .val (.ref b169), .val (.int (p0_2 &&& (2147483647 : Int32))), .val (.ref b176), .val (.int i205), .val (.int i208), .val (.int (own_F9 (p0_4 &&& (3 : Int32)) i208)), .val (.ref b310), .val (.int i343)] [])) t
                        refine XS.iconst X344.here hx rfl (hb hby at_183) ?_
                        show Steps p.tables e below (T344.setTop (mkF m 184 #[.val (.int p0_0), .val (.int p0_1), .val (.int p0_2), .val (.int p0_3), .val (.int p0_4), .val (.int i167), .val (.ref b169), .val (.int (p0_2 &&& (2147483647 : Int32))), .val (.ref b176), .val (.int i205), .val (.int i208), .val (.int (own_F9 (p0_4 &&& (3 : Int32)) i208)), .val (.ref b310), .val (.int i343)] [(.int (0 : Int32))])) t
                        exact k
                      rw [show own_F0_167_12 p0_0 p0_1 p0_2 p0_3 p0_4 i167 i202 i205 i208 i340 i343 = (0 : Int32) from ((if_pos hc345).trans rfl)]
                      exact own_retN X344 hx (t := .boolean) Bd.returns (by simp) (hb hby at_184) hlk (by decide) (by decide) ⟨rfl, N344⟩
                    · skip
                      refine own_by (T' := T344) (g' := (mkF m 176 #[.val (.int p0_0), .val (.int p0_1), .val (.int p0_2), .val (.int p0_3), .val (.int p0_4), .val (.int i167), .val (.ref b169), .val (.int (p0_2 &&& (2147483647 : Int32))), .val (.ref b176), .val (.int i205), .val (.int i208), .val (.int (own_F9 (p0_4 &&& (3 : Int32)) i208)), .val (.ref b310), .val (.int i343)] [(.int i343)])) (fun t k => ?_) ?_
                      · show Steps p.tables e below (T344.setTop (mkF m 171 #[.val (.int p0_0), .val (.int p0_1), .val (.int p0_2), .val (.int p0_3), .val (.int p0_4), .val (.int i167), .val (.ref b169), .val (.int (p0_2 &&& (2147483647 : Int32))), .val (.ref b176), .val (.int i205), .val (.int i208), .val (.int (own_F9 (p0_4 &&& (3 : Int32)) i208)), .val (.ref b310), .val (.int i343)] [(.int i205)])) t
                        refine XS.ifNo X344.here hx rfl (hb hby at_171) rfl ((if0 _ _).trans (feq hc345).1) ?_
                        show Steps p.tables e below (T344.setTop (mkF m 174 #[.val (.int p0_0), .val (.int p0_1), .val (.int p0_2), .val (.int p0_3), .val (.int p0_4), .val (.int i167), .val (.ref b169), .val (.int (p0_2 &&& (2147483647 : Int32))), .val (.ref b176), .val (.int i205), .val (.int i208), .val (.int (own_F9 (p0_4 &&& (3 : Int32)) i208)), .val (.ref b310), .val (.int i343)] [])) t
                        refine XS.iload X344.here hx rfl (hb hby at_174) rfl ?_
                        show Steps p.tables e below (T344.setTop (mkF m 176 #[.val (.int p0_0), .val (.int p0_1), .val (.int p0_2), .val (.int p0_3), .val (.int p0_4), .val (.int i167), .val (.ref b169), .val (.int (p0_2 &&& (2147483647 : Int32))), .val (.ref b176), .val (.int i205), .val (.int i208), .val (.int (own_F9 (p0_4 &&& (3 : Int32)) i208)), .val (.ref b310), .val (.int i343)] [(.int i343)])) t
                        exact k
                      by_cases hc347 : i343 = (0 : Int32)
                      · skip
                        refine own_by (T' := T344) (g' := (mkF m 184 #[.val (.int p0_0), .val (.int p0_1), .val (.int p0_2), .val (.int p0_3), .val (.int p0_4), .val (.int i167), .val (.ref b169), .val (.int (p0_2 &&& (2147483647 : Int32))), .val (.ref b176), .val (.int i205), .val (.int i208), .val (.int (own_F9 (p0_4 &&& (3 : Int32)) i208)), .val (.ref b310), .val (.int i343)] [(.int (0 : Int32))])) (fun t k => ?_) ?_
                        · show Steps p.tables e below (T344.setTop (mkF m 176 #[.val (.int p0_0), .val (.int p0_1), .val (.int p0_2), .val (.int p0_3), .val (.int p0_4), .val (.int i167), .val (.ref b169), .val (.int (p0_2 &&& (2147483647 : Int32))), .val (.ref b176), .val (.int i205), .val (.int i208), .val (.int (own_F9 (p0_4 &&& (3 : Int32)) i208)), .val (.ref b310), .val (.int i343)] [(.int i343)])) t
                          refine XS.ifYes X344.here hx rfl (pc0 := 176) (pc' := 183) rfl (hb hby at_176) rfl ((if0 _ _).trans (teq hc347).1) (by decide) (by decide) ?_
                          show Steps p.tables e below (T344.setTop (mkF m 183 #[.val (.int p0_0), .val (.int p0_1), .val (.int p0_2), .val (.int p0_3), .val (.int p0_4), .val (.int i167), .val (.ref b169), .val (.int (p0_2 &&& (2147483647 : Int32))), .val (.ref b176), .val (.int i205), .val (.int i208), .val (.int (own_F9 (p0_4 &&& (3 : Int32)) i208)), .val (.ref b310), .val (.int i343)] [])) t
                          refine XS.iconst X344.here hx rfl (hb hby at_183) ?_
                          show Steps p.tables e below (T344.setTop (mkF m 184 #[.val (.int p0_0), .val (.int p0_1), .val (.int p0_2), .val (.int p0_3), .val (.int p0_4), .val (.int i167), .val (.ref b169), .val (.int (p0_2 &&& (2147483647 : Int32))), .val (.ref b176), .val (.int i205), .val (.int i208), .val (.int (own_F9 (p0_4 &&& (3 : Int32)) i208)), .val (.ref b310), .val (.int i343)] [(.int (0 : Int32))])) t
                          exact k
                        rw [show own_F0_167_12 p0_0 p0_1 p0_2 p0_3 p0_4 i167 i202 i205 i208 i340 i343 = (0 : Int32) from ((if_neg hc345).trans ((if_pos hc347).trans rfl))]
                        exact own_retN X344 hx (t := .boolean) Bd.returns (by simp) (hb hby at_184) hlk (by decide) (by decide) ⟨rfl, N344⟩
                      · skip
                        refine own_by (T' := T344) (g' := (mkF m 184 #[.val (.int p0_0), .val (.int p0_1), .val (.int p0_2), .val (.int p0_3), .val (.int p0_4), .val (.int i167), .val (.ref b169), .val (.int (p0_2 &&& (2147483647 : Int32))), .val (.ref b176), .val (.int i205), .val (.int i208), .val (.int (own_F9 (p0_4 &&& (3 : Int32)) i208)), .val (.ref b310), .val (.int i343)] [(.int (1 : Int32))])) (fun t k => ?_) ?_
                        · show Steps p.tables e below (T344.setTop (mkF m 176 #[.val (.int p0_0), .val (.int p0_1), .val (.int p0_2), .val (.int p0_3), .val (.int p0_4), .val (.int i167), .val (.ref b169), .val (.int (p0_2 &&& (2147483647 : Int32))), .val (.ref b176), .val (.int i205), .val (.int i208), .val (.int (own_F9 (p0_4 &&& (3 : Int32)) i208)), .val (.ref b310), .val (.int i343)] [(.int i343)])) t
                          refine XS.ifNo X344.here hx rfl (hb hby at_176) rfl ((if0 _ _).trans (feq hc347).1) ?_
                          show Steps p.tables e below (T344.setTop (mkF m 179 #[.val (.int p0_0), .val (.int p0_1), .val (.int p0_2), .val (.int p0_3), .val (.int p0_4), .val (.int i167), .val (.ref b169), .val (.int (p0_2 &&& (2147483647 : Int32))), .val (.ref b176), .val (.int i205), .val (.int i208), .val (.int (own_F9 (p0_4 &&& (3 : Int32)) i208)), .val (.ref b310), .val (.int i343)] [])) t
                          refine XS.iconst X344.here hx rfl (hb hby at_179) ?_
                          show Steps p.tables e below (T344.setTop (mkF m 180 #[.val (.int p0_0), .val (.int p0_1), .val (.int p0_2), .val (.int p0_3), .val (.int p0_4), .val (.int i167), .val (.ref b169), .val (.int (p0_2 &&& (2147483647 : Int32))), .val (.ref b176), .val (.int i205), .val (.int i208), .val (.int (own_F9 (p0_4 &&& (3 : Int32)) i208)), .val (.ref b310), .val (.int i343)] [(.int (1 : Int32))])) t
                          refine XS.goto X344.here hx rfl (pc0 := 180) (pc' := 184) rfl (hb hby at_180) (by decide) (by decide) ?_
                          show Steps p.tables e below (T344.setTop (mkF m 184 #[.val (.int p0_0), .val (.int p0_1), .val (.int p0_2), .val (.int p0_3), .val (.int p0_4), .val (.int i167), .val (.ref b169), .val (.int (p0_2 &&& (2147483647 : Int32))), .val (.ref b176), .val (.int i205), .val (.int i208), .val (.int (own_F9 (p0_4 &&& (3 : Int32)) i208)), .val (.ref b310), .val (.int i343)] [(.int (1 : Int32))])) t
                          exact k
                        rw [show own_F0_167_12 p0_0 p0_1 p0_2 p0_3 p0_4 i167 i202 i205 i208 i340 i343 = (1 : Int32) from ((if_neg hc345).trans ((if_neg hc347).trans rfl))]
                        exact own_retN X344 hx (t := .boolean) Bd.returns (by simp) (hb hby at_184) hlk (by decide) (by decide) ⟨rfl, N344⟩
                  by_cases hc342 : (own_F8 (((if i167 = (0 : Int32) then (3 : Int32) else (2 : Int32)) - (1 : Int32)) - (1 : Int32))) = i340
                  · skip
                    refine own_by (T' := T341) (g' := (mkF m 167 #[.val (.int p0_0), .val (.int p0_1), .val (.int p0_2), .val (.int p0_3), .val (.int p0_4), .val (.int i167), .val (.ref b169), .val (.int (p0_2 &&& (2147483647 : Int32))), .val (.ref b176), .val (.int i205), .val (.int i208), .val (.int (own_F9 (p0_4 &&& (3 : Int32)) i208)), .val (.ref b310), .unset] [(.int (1 : Int32))])) (fun t k => ?_) ?_
                    · show Steps p.tables e below (T341.setTop (mkF m 159 #[.val (.int p0_0), .val (.int p0_1), .val (.int p0_2), .val (.int p0_3), .val (.int p0_4), .val (.int i167), .val (.ref b169), .val (.int (p0_2 &&& (2147483647 : Int32))), .val (.ref b176), .val (.int i205), .val (.int i208), .val (.int (own_F9 (p0_4 &&& (3 : Int32)) i208)), .val (.ref b310), .unset] [(.int i340), (.int (own_F8 (((if i167 = (0 : Int32) then (3 : Int32) else (2 : Int32)) - (1 : Int32)) - (1 : Int32))))])) t
                      refine XS.icmpNo X341.here hx rfl (hb hby at_159) rfl (teq hc342).2 ?_
                      show Steps p.tables e below (T341.setTop (mkF m 162 #[.val (.int p0_0), .val (.int p0_1), .val (.int p0_2), .val (.int p0_3), .val (.int p0_4), .val (.int i167), .val (.ref b169), .val (.int (p0_2 &&& (2147483647 : Int32))), .val (.ref b176), .val (.int i205), .val (.int i208), .val (.int (own_F9 (p0_4 &&& (3 : Int32)) i208)), .val (.ref b310), .unset] [])) t
                      refine XS.iconst X341.here hx rfl (hb hby at_162) ?_
                      show Steps p.tables e below (T341.setTop (mkF m 163 #[.val (.int p0_0), .val (.int p0_1), .val (.int p0_2), .val (.int p0_3), .val (.int p0_4), .val (.int i167), .val (.ref b169), .val (.int (p0_2 &&& (2147483647 : Int32))), .val (.ref b176), .val (.int i205), .val (.int i208), .val (.int (own_F9 (p0_4 &&& (3 : Int32)) i208)), .val (.ref b310), .unset] [(.int (1 : Int32))])) t
                      refine XS.goto X341.here hx rfl (pc0 := 163) (pc' := 167) rfl (hb hby at_163) (by decide) (by decide) ?_
                      show Steps p.tables e below (T341.setTop (mkF m 167 #[.val (.int p0_0), .val (.int p0_1), .val (.int p0_2), .val (.int p0_3), .val (.int p0_4), .val (.int i167), .val (.ref b169), .val (.int (p0_2 &&& (2147483647 : Int32))), .val (.ref b176), .val (.int i205), .val (.int i208), .val (.int (own_F9 (p0_4 &&& (3 : Int32)) i208)), .val (.ref b310), .unset] [(.int (1 : Int32))])) t
                      exact k
                    rw [show own_F0_159_11 p0_0 p0_1 p0_2 p0_3 p0_4 i167 i202 i205 i208 i340 = (own_F0_167_12 p0_0 p0_1 p0_2 p0_3 p0_4 i167 i202 i205 i208 i340 (1 : Int32)) from ((if_pos hc342).trans rfl)]
                    exact J0_12 _ _ (1 : Int32) X341 e341 N341
                  · skip
                    refine own_by (T' := T341) (g' := (mkF m 167 #[.val (.int p0_0), .val (.int p0_1), .val (.int p0_2), .val (.int p0_3), .val (.int p0_4), .val (.int i167), .val (.ref b169), .val (.int (p0_2 &&& (2147483647 : Int32))), .val (.ref b176), .val (.int i205), .val (.int i208), .val (.int (own_F9 (p0_4 &&& (3 : Int32)) i208)), .val (.ref b310), .unset] [(.int (0 : Int32))])) (fun t k => ?_) ?_
                    · show Steps p.tables e below (T341.setTop (mkF m 159 #[.val (.int p0_0), .val (.int p0_1), .val (.int p0_2), .val (.int p0_3), .val (.int p0_4), .val (.int i167), .val (.ref b169), .val (.int (p0_2 &&& (2147483647 : Int32))), .val (.ref b176), .val (.int i205), .val (.int i208), .val (.int (own_F9 (p0_4 &&& (3 : Int32)) i208)), .val (.ref b310), .unset] [(.int i340), (.int (own_F8 (((if i167 = (0 : Int32) then (3 : Int32) else (2 : Int32)) - (1 : Int32)) - (1 : Int32))))])) t
                      refine XS.icmpYes X341.here hx rfl (pc0 := 159) (pc' := 166) rfl (hb hby at_159) rfl (feq hc342).2 (by decide) (by decide) ?_
                      show Steps p.tables e below (T341.setTop (mkF m 166 #[.val (.int p0_0), .val (.int p0_1), .val (.int p0_2), .val (.int p0_3), .val (.int p0_4), .val (.int i167), .val (.ref b169), .val (.int (p0_2 &&& (2147483647 : Int32))), .val (.ref b176), .val (.int i205), .val (.int i208), .val (.int (own_F9 (p0_4 &&& (3 : Int32)) i208)), .val (.ref b310), .unset] [])) t
                      refine XS.iconst X341.here hx rfl (hb hby at_166) ?_
                      show Steps p.tables e below (T341.setTop (mkF m 167 #[.val (.int p0_0), .val (.int p0_1), .val (.int p0_2), .val (.int p0_3), .val (.int p0_4), .val (.int i167), .val (.ref b169), .val (.int (p0_2 &&& (2147483647 : Int32))), .val (.ref b176), .val (.int i205), .val (.int i208), .val (.int (own_F9 (p0_4 &&& (3 : Int32)) i208)), .val (.ref b310), .unset] [(.int (0 : Int32))])) t
                      exact k
                    rw [show own_F0_159_11 p0_0 p0_1 p0_2 p0_3 p0_4 i167 i202 i205 i208 i340 = (own_F0_167_12 p0_0 p0_1 p0_2 p0_3 p0_4 i167 i202 i205 i208 i340 (0 : Int32)) from ((if_neg hc342).trans rfl)]
                    exact J0_12 _ _ (0 : Int32) X341 e341 N341
                by_cases hc339 : (own_F9 (p0_4 &&& (3 : Int32)) i208) = i208
                · skip
                  refine own_by (T' := T337) (g' := (mkF m 159 #[.val (.int p0_0), .val (.int p0_1), .val (.int p0_2), .val (.int p0_3), .val (.int p0_4), .val (.int i167), .val (.ref b169), .val (.int (p0_2 &&& (2147483647 : Int32))), .val (.ref b176), .val (.int i205), .val (.int i208), .val (.int (own_F9 (p0_4 &&& (3 : Int32)) i208)), .val (.ref b310), .unset] [(.int (1 : Int32)), (.int (own_F8 (((if i167 = (0 : Int32) then (3 : Int32) else (2 : Int32)) - (1 : Int32)) - (1 : Int32))))])) (fun t k => ?_) ?_
                  · show Steps p.tables e below (T337.setTop (mkF m 151 #[.val (.int p0_0), .val (.int p0_1), .val (.int p0_2), .val (.int p0_3), .val (.int p0_4), .val (.int i167), .val (.ref b169), .val (.int (p0_2 &&& (2147483647 : Int32))), .val (.ref b176), .val (.int i205), .val (.int i208), .val (.int (own_F9 (p0_4 &&& (3 : Int32)) i208)), .val (.ref b310), .unset] [(.int i208), (.int (own_F9 (p0_4 &&& (3 : Int32)) i208)), (.int (own_F8 (((if i167 = (0 : Int32) then (3 : Int32) else (2 : Int32)) - (1 : Int32)) - (1 : Int32))))])) t
                    refine XS.icmpNo X337.here hx rfl (hb hby at_151) rfl (teq hc339).2 ?_
                    show Steps p.tables e below (T337.setTop (mkF m 154 #[.val (.int p0_0), .val (.int p0_1), .val (.int p0_2), .val (.int p0_3), .val (.int p0_4), .val (.int i167), .val (.ref b169), .val (.int (p0_2 &&& (2147483647 : Int32))), .val (.ref b176), .val (.int i205), .val (.int i208), .val (.int (own_F9 (p0_4 &&& (3 : Int32)) i208)), .val (.ref b310), .unset] [(.int (own_F8 (((if i167 = (0 : Int32) then (3 : Int32) else (2 : Int32)) - (1 : Int32)) - (1 : Int32))))])) t
                    refine XS.iconst X337.here hx rfl (hb hby at_154) ?_
                    show Steps p.tables e below (T337.setTop (mkF m 155 #[.val (.int p0_0), .val (.int p0_1), .val (.int p0_2), .val (.int p0_3), .val (.int p0_4), .val (.int i167), .val (.ref b169), .val (.int (p0_2 &&& (2147483647 : Int32))), .val (.ref b176), .val (.int i205), .val (.int i208), .val (.int (own_F9 (p0_4 &&& (3 : Int32)) i208)), .val (.ref b310), .unset] [(.int (1 : Int32)), (.int (own_F8 (((if i167 = (0 : Int32) then (3 : Int32) else (2 : Int32)) - (1 : Int32)) - (1 : Int32))))])) t
                    refine XS.goto X337.here hx rfl (pc0 := 155) (pc' := 159) rfl (hb hby at_155) (by decide) (by decide) ?_
                    show Steps p.tables e below (T337.setTop (mkF m 159 #[.val (.int p0_0), .val (.int p0_1), .val (.int p0_2), .val (.int p0_3), .val (.int p0_4), .val (.int i167), .val (.ref b169), .val (.int (p0_2 &&& (2147483647 : Int32))), .val (.ref b176), .val (.int i205), .val (.int i208), .val (.int (own_F9 (p0_4 &&& (3 : Int32)) i208)), .val (.ref b310), .unset] [(.int (1 : Int32)), (.int (own_F8 (((if i167 = (0 : Int32) then (3 : Int32) else (2 : Int32)) - (1 : Int32)) - (1 : Int32))))])) t
                    exact k
                  rw [show own_F0_81_4 p0_0 p0_1 p0_2 p0_3 p0_4 i167 i202 i205 i208 = (own_F0_159_11 p0_0 p0_1 p0_2 p0_3 p0_4 i167 i202 i205 i208 (1 : Int32)) from ((if_pos hc229).trans ((if_neg hc230).trans ((if_neg hc298).trans ((if_pos hc339).trans rfl))))]
                  exact J0_11 _ _ (1 : Int32) X337 e337 N338
                · skip
                  refine own_by (T' := T337) (g' := (mkF m 159 #[.val (.int p0_0), .val (.int p0_1), .val (.int p0_2), .val (.int p0_3), .val (.int p0_4), .val (.int i167), .val (.ref b169), .val (.int (p0_2 &&& (2147483647 : Int32))), .val (.ref b176), .val (.int i205), .val (.int i208), .val (.int (own_F9 (p0_4 &&& (3 : Int32)) i208)), .val (.ref b310), .unset] [(.int (0 : Int32)), (.int (own_F8 (((if i167 = (0 : Int32) then (3 : Int32) else (2 : Int32)) - (1 : Int32)) - (1 : Int32))))])) (fun t k => ?_) ?_
                  · show Steps p.tables e below (T337.setTop (mkF m 151 #[.val (.int p0_0), .val (.int p0_1), .val (.int p0_2), .val (.int p0_3), .val (.int p0_4), .val (.int i167), .val (.ref b169), .val (.int (p0_2 &&& (2147483647 : Int32))), .val (.ref b176), .val (.int i205), .val (.int i208), .val (.int (own_F9 (p0_4 &&& (3 : Int32)) i208)), .val (.ref b310), .unset] [(.int i208), (.int (own_F9 (p0_4 &&& (3 : Int32)) i208)), (.int (own_F8 (((if i167 = (0 : Int32) then (3 : Int32) else (2 : Int32)) - (1 : Int32)) - (1 : Int32))))])) t
                    refine XS.icmpYes X337.here hx rfl (pc0 := 151) (pc' := 158) rfl (hb hby at_151) rfl (feq hc339).2 (by decide) (by decide) ?_
                    show Steps p.tables e below (T337.setTop (mkF m 158 #[.val (.int p0_0), .val (.int p0_1), .val (.int p0_2), .val (.int p0_3), .val (.int p0_4), .val (.int i167), .val (.ref b169), .val (.int (p0_2 &&& (2147483647 : Int32))), .val (.ref b176), .val (.int i205), .val (.int i208), .val (.int (own_F9 (p0_4 &&& (3 : Int32)) i208)), .val (.ref b310), .unset] [(.int (own_F8 (((if i167 = (0 : Int32) then (3 : Int32) else (2 : Int32)) - (1 : Int32)) - (1 : Int32))))])) t
                    refine XS.iconst X337.here hx rfl (hb hby at_158) ?_
                    show Steps p.tables e below (T337.setTop (mkF m 159 #[.val (.int p0_0), .val (.int p0_1), .val (.int p0_2), .val (.int p0_3), .val (.int p0_4), .val (.int i167), .val (.ref b169), .val (.int (p0_2 &&& (2147483647 : Int32))), .val (.ref b176), .val (.int i205), .val (.int i208), .val (.int (own_F9 (p0_4 &&& (3 : Int32)) i208)), .val (.ref b310), .unset] [(.int (0 : Int32)), (.int (own_F8 (((if i167 = (0 : Int32) then (3 : Int32) else (2 : Int32)) - (1 : Int32)) - (1 : Int32))))])) t
                    exact k
                  rw [show own_F0_81_4 p0_0 p0_1 p0_2 p0_3 p0_4 i167 i202 i205 i208 = (own_F0_159_11 p0_0 p0_1 p0_2 p0_3 p0_4 i167 i202 i205 i208 (0 : Int32)) from ((if_pos hc229).trans ((if_neg hc230).trans ((if_neg hc298).trans ((if_neg hc339).trans rfl))))]
                  exact J0_11 _ _ (0 : Int32) X337 e337 N338
          · skip
            refine own_by (T' := T212) (g' := (mkF m 111 #[.val (.int p0_0), .val (.int p0_1), .val (.int p0_2), .val (.int p0_3), .val (.int p0_4), .val (.int i167), .val (.ref b169), .val (.int (p0_2 &&& (2147483647 : Int32))), .val (.ref b176), .val (.int i205), .val (.int i208), .val (.int (own_F9 (p0_4 &&& (3 : Int32)) i208)), .val (.ref b212), .unset] [(.ref b212)])) (fun t k => ?_) ?_
            · show Steps p.tables e below (T212.setTop (mkF m 106 #[.val (.int p0_0), .val (.int p0_1), .val (.int p0_2), .val (.int p0_3), .val (.int p0_4), .val (.int i167), .val (.ref b169), .val (.int (p0_2 &&& (2147483647 : Int32))), .val (.ref b176), .val (.int i205), .val (.int i208), .val (.int (own_F9 (p0_4 &&& (3 : Int32)) i208)), .val (.ref b212), .unset] [(.int (1 : Int32)), (.int (own_F9 (p0_4 &&& (3 : Int32)) i208))])) t
              refine XS.icmpNo X212.here hx rfl (hb hby at_106) rfl (flt hc229).1 ?_
              show Steps p.tables e below (T212.setTop (mkF m 109 #[.val (.int p0_0), .val (.int p0_1), .val (.int p0_2), .val (.int p0_3), .val (.int p0_4), .val (.int i167), .val (.ref b169), .val (.int (p0_2 &&& (2147483647 : Int32))), .val (.ref b176), .val (.int i205), .val (.int i208), .val (.int (own_F9 (p0_4 &&& (3 : Int32)) i208)), .val (.ref b212), .unset] [])) t
              refine XS.aload X212.here hx rfl (hb hby at_109) rfl rfl ?_
              show Steps p.tables e below (T212.setTop (mkF m 111 #[.val (.int p0_0), .val (.int p0_1), .val (.int p0_2), .val (.int p0_3), .val (.int p0_4), .val (.int i167), .val (.ref b169), .val (.int (p0_2 &&& (2147483647 : Int32))), .val (.ref b176), .val (.int i205), .val (.int i208), .val (.int (own_F9 (p0_4 &&& (3 : Int32)) i208)), .val (.ref b212), .unset] [(.ref b212)])) t
              exact k
            obtain ⟨cq348, kq348, q348a, q348b, q348c⟩ := isOf hZ rfl f213
            obtain ⟨v348, _, ⟨T348, L348, k348, n348⟩, -, X348, ⟨Lc348, hQ348, l348, y348, z348⟩, st348⟩ := X212.virtualBack hx (y := (⟨"com/example/topping_out/toppingout/game/Player", "lessACertificate", "()Lcom/example/topping_out/toppingout/game/Player;"⟩ : MethodName)) (z := (⟨"com/example/topping_out/toppingout/game/Player", "lessACertificate", "()Lcom/example/topping_out/toppingout/game/Player;"⟩ : MethodName)) hown (mvT hZ (hw _ (List.mem_of_getElem? (i := 61) rfl))) (mvT hZ (hw _ (List.mem_of_getElem? (i := 62) rfl))) (notFace_of_selects (args := #[]) (mvT hZ (hw _ (List.mem_of_getElem? (i := 64) rfl)))) (mvT hZ (hw _ (List.mem_of_getElem? (i := 64) rfl))) (mvT hZ (hw _ (List.mem_of_getElem? (i := 63) rfl))) (by decide) (backOf (W := 0) (own_rm11 l Z a0 hw [] b212 b169 (nar .boolean i167) (if i167 = (0 : Int32) then (3 : Int32) else (2 : Int32)) (0 : Int32) T212.heap n0 Z227 f214 f215 f216 f217) hZ (hw _ (List.mem_of_getElem? (i := 65) rfl)) (hw _ (List.mem_of_getElem? (i := 29) rfl)) (by decide) (by decide)) q348a q348c (g := (mkF m 111 #[.val (.int p0_0), .val (.int p0_1), .val (.int p0_2), .val (.int p0_3), .val (.int p0_4), .val (.int i167), .val (.ref b169), .val (.int (p0_2 &&& (2147483647 : Int32))), .val (.ref b176), .val (.int i205), .val (.int i208), .val (.int (own_F9 (p0_4 &&& (3 : Int32)) i208)), .val (.ref b212), .unset] [(.ref b212)])) rfl (by rw [hml]; rfl) (Steps.refl _) (argsL := []) (rest := []) (lenOf pd___Lcom_example_topping_out_toppingout_game_Player_ rfl) rfl (by show 2 * 0 + _ ≤ _; exact Nat.le_of_eq rfl) (hb hby at_111) (fun _ _ => ⟨rfl, rfl, (by decide : 4 + 1 ≤ _), (by decide : 13 + 4 ≤ _)⟩)
            dsimp only [Pt.U, Pt.locs, Pt.cells, Pt.slots] at X348 l348 y348 z348 st348 hQ348
            subst l348 y348 z348
            obtain ⟨b348, rfl, M348, K348, sz348, gn348, f349, f350, f351, f352, f353⟩ := hQ348
            have f354 := f218.keep K348
            have f355 := f219.keep K348 nin0
            have f356 := f220.keep K348
            have f357 := f221.keep K348 nin0
            have f358 := f222.keep K348 nin0
            have f359 := f223.keep K348 nin0
            have f360 := f224.keep K348 nin0
            have f361 := f213.keep K348
            have f362 := f214.keep K348 nin0
            have f363 := f215.keep K348 nin0
            have f364 := f216.keep K348 nin0
            have f365 := f217.keep K348 nin0
            have K366 : Keep h0 T348.heap [] := K225.trans K348 all0
            have O367 := O226.keep K348 all0
            have Z368 := Nat.le_trans Z227 K348.1
            have sz_b348 : h0.size ≤ b348 := Nat.le_trans K225.1 sz348
            have ne_b169_b348 : b169 ≠ b348 := Nat.ne_of_lt (Nat.lt_of_lt_of_le f219.lt sz348)
            have ne_b176_b348 : b176 ≠ b348 := Nat.ne_of_lt (Nat.lt_of_lt_of_le f224.lt sz348)
            have ne_b212_b348 : b212 ≠ b348 := Nat.ne_of_lt (Nat.lt_of_lt_of_le f217.lt sz348)
            have N369 := Fr.app N228 M348
            refine own_via (T' := T348) (g' := (mkF m 114 #[.val (.int p0_0), .val (.int p0_1), .val (.int p0_2), .val (.int p0_3), .val (.int p0_4), .val (.int i167), .val (.ref b169), .val (.int (p0_2 &&& (2147483647 : Int32))), .val (.ref b176), .val (.int i205), .val (.int i208), .val (.int (own_F9 (p0_4 &&& (3 : Int32)) i208)), .val (.ref b212), .unset] [(.ref b348)])) st348 ?_
            refine own_by (T' := T348) (g' := (mkF m 119 #[.val (.int p0_0), .val (.int p0_1), .val (.int p0_2), .val (.int p0_3), .val (.int p0_4), .val (.int i167), .val (.ref b169), .val (.int (p0_2 &&& (2147483647 : Int32))), .val (.ref b176), .val (.int i205), .val (.int i208), .val (.int (own_F9 (p0_4 &&& (3 : Int32)) i208)), .val (.ref b348), .unset] [(.int (2 : Int32)), (.int (own_F9 (p0_4 &&& (3 : Int32)) i208))])) (fun t k => ?_) ?_
            · show Steps p.tables e below (T348.setTop (mkF m 114 #[.val (.int p0_0), .val (.int p0_1), .val (.int p0_2), .val (.int p0_3), .val (.int p0_4), .val (.int i167), .val (.ref b169), .val (.int (p0_2 &&& (2147483647 : Int32))), .val (.ref b176), .val (.int i205), .val (.int i208), .val (.int (own_F9 (p0_4 &&& (3 : Int32)) i208)), .val (.ref b212), .unset] [(.ref b348)])) t
              refine XS.astore X348.here hx rfl (hb hby at_114) rfl rfl (l' := #[.val (.int p0_0), .val (.int p0_1), .val (.int p0_2), .val (.int p0_3), .val (.int p0_4), .val (.int i167), .val (.ref b169), .val (.int (p0_2 &&& (2147483647 : Int32))), .val (.ref b176), .val (.int i205), .val (.int i208), .val (.int (own_F9 (p0_4 &&& (3 : Int32)) i208)), .val (.ref b348), .unset]) rfl ?_
              show Steps p.tables e below (T348.setTop (mkF m 116 #[.val (.int p0_0), .val (.int p0_1), .val (.int p0_2), .val (.int p0_3), .val (.int p0_4), .val (.int i167), .val (.ref b169), .val (.int (p0_2 &&& (2147483647 : Int32))), .val (.ref b176), .val (.int i205), .val (.int i208), .val (.int (own_F9 (p0_4 &&& (3 : Int32)) i208)), .val (.ref b348), .unset] [])) t
              refine XS.iload X348.here hx rfl (hb hby at_116) rfl ?_
              show Steps p.tables e below (T348.setTop (mkF m 118 #[.val (.int p0_0), .val (.int p0_1), .val (.int p0_2), .val (.int p0_3), .val (.int p0_4), .val (.int i167), .val (.ref b169), .val (.int (p0_2 &&& (2147483647 : Int32))), .val (.ref b176), .val (.int i205), .val (.int i208), .val (.int (own_F9 (p0_4 &&& (3 : Int32)) i208)), .val (.ref b348), .unset] [(.int (own_F9 (p0_4 &&& (3 : Int32)) i208))])) t
              refine XS.iconst X348.here hx rfl (hb hby at_118) ?_
              show Steps p.tables e below (T348.setTop (mkF m 119 #[.val (.int p0_0), .val (.int p0_1), .val (.int p0_2), .val (.int p0_3), .val (.int p0_4), .val (.int i167), .val (.ref b169), .val (.int (p0_2 &&& (2147483647 : Int32))), .val (.ref b176), .val (.int i205), .val (.int i208), .val (.int (own_F9 (p0_4 &&& (3 : Int32)) i208)), .val (.ref b348), .unset] [(.int (2 : Int32)), (.int (own_F9 (p0_4 &&& (3 : Int32)) i208))])) t
              exact k
            by_cases hc370 : (own_F9 (p0_4 &&& (3 : Int32)) i208) < (2 : Int32)
            · skip
              refine own_by (T' := T348) (g' := (mkF m 132 #[.val (.int p0_0), .val (.int p0_1), .val (.int p0_2), .val (.int p0_3), .val (.int p0_4), .val (.int i167), .val (.ref b169), .val (.int (p0_2 &&& (2147483647 : Int32))), .val (.ref b176), .val (.int i205), .val (.int i208), .val (.int (own_F9 (p0_4 &&& (3 : Int32)) i208)), .val (.ref b348), .unset] [(.int (3 : Int32)), (.int (own_F9 (p0_4 &&& (3 : Int32)) i208))])) (fun t k => ?_) ?_
              · show Steps p.tables e below (T348.setTop (mkF m 119 #[.val (.int p0_0), .val (.int p0_1), .val (.int p0_2), .val (.int p0_3), .val (.int p0_4), .val (.int i167), .val (.ref b169), .val (.int (p0_2 &&& (2147483647 : Int32))), .val (.ref b176), .val (.int i205), .val (.int i208), .val (.int (own_F9 (p0_4 &&& (3 : Int32)) i208)), .val (.ref b348), .unset] [(.int (2 : Int32)), (.int (own_F9 (p0_4 &&& (3 : Int32)) i208))])) t
                refine XS.icmpYes X348.here hx rfl (pc0 := 119) (pc' := 129) rfl (hb hby at_119) rfl (tlt hc370).1 (by decide) (by decide) ?_
                show Steps p.tables e below (T348.setTop (mkF m 129 #[.val (.int p0_0), .val (.int p0_1), .val (.int p0_2), .val (.int p0_3), .val (.int p0_4), .val (.int i167), .val (.ref b169), .val (.int (p0_2 &&& (2147483647 : Int32))), .val (.ref b176), .val (.int i205), .val (.int i208), .val (.int (own_F9 (p0_4 &&& (3 : Int32)) i208)), .val (.ref b348), .unset] [])) t
                refine XS.iload X348.here hx rfl (hb hby at_129) rfl ?_
                show Steps p.tables e below (T348.setTop (mkF m 131 #[.val (.int p0_0), .val (.int p0_1), .val (.int p0_2), .val (.int p0_3), .val (.int p0_4), .val (.int i167), .val (.ref b169), .val (.int (p0_2 &&& (2147483647 : Int32))), .val (.ref b176), .val (.int i205), .val (.int i208), .val (.int (own_F9 (p0_4 &&& (3 : Int32)) i208)), .val (.ref b348), .unset] [(.int (own_F9 (p0_4 &&& (3 : Int32)) i208))])) t
                refine XS.iconst X348.here hx rfl (hb hby at_131) ?_
                show Steps p.tables e below (T348.setTop (mkF m 132 #[.val (.int p0_0), .val (.int p0_1), .val (.int p0_2), .val (.int p0_3), .val (.int p0_4), .val (.int i167), .val (.ref b169), .val (.int (p0_2 &&& (2147483647 : Int32))), .val (.ref b176), .val (.int i205), .val (.int i208), .val (.int (own_F9 (p0_4 &&& (3 : Int32)) i208)), .val (.ref b348), .unset] [(.int (3 : Int32)), (.int (own_F9 (p0_4 &&& (3 : Int32)) i208))])) t
                exact k
              by_cases hc371 : (own_F9 (p0_4 &&& (3 : Int32)) i208) < (3 : Int32)
              · skip
                refine own_by (T' := T348) (g' := (mkF m 144 #[.val (.int p0_0), .val (.int p0_1), .val (.int p0_2), .val (.int p0_3), .val (.int p0_4), .val (.int i167), .val (.ref b169), .val (.int (p0_2 &&& (2147483647 : Int32))), .val (.ref b176), .val (.int i205), .val (.int i208), .val (.int (own_F9 (p0_4 &&& (3 : Int32)) i208)), .val (.ref b348), .unset] [(.ref b348)])) (fun t k => ?_) ?_
                · show Steps p.tables e below (T348.setTop (mkF m 132 #[.val (.int p0_0), .val (.int p0_1), .val (.int p0_2), .val (.int p0_3), .val (.int p0_4), .val (.int i167), .val (.ref b169), .val (.int (p0_2 &&& (2147483647 : Int32))), .val (.ref b176), .val (.int i205), .val (.int i208), .val (.int (own_F9 (p0_4 &&& (3 : Int32)) i208)), .val (.ref b348), .unset] [(.int (3 : Int32)), (.int (own_F9 (p0_4 &&& (3 : Int32)) i208))])) t
                  refine XS.icmpYes X348.here hx rfl (pc0 := 132) (pc' := 142) rfl (hb hby at_132) rfl (tlt hc371).1 (by decide) (by decide) ?_
                  show Steps p.tables e below (T348.setTop (mkF m 142 #[.val (.int p0_0), .val (.int p0_1), .val (.int p0_2), .val (.int p0_3), .val (.int p0_4), .val (.int i167), .val (.ref b169), .val (.int (p0_2 &&& (2147483647 : Int32))), .val (.ref b176), .val (.int i205), .val (.int i208), .val (.int (own_F9 (p0_4 &&& (3 : Int32)) i208)), .val (.ref b348), .unset] [])) t
                  refine XS.aload X348.here hx rfl (hb hby at_142) rfl rfl ?_
                  show Steps p.tables e below (T348.setTop (mkF m 144 #[.val (.int p0_0), .val (.int p0_1), .val (.int p0_2), .val (.int p0_3), .val (.int p0_4), .val (.int i167), .val (.ref b169), .val (.int (p0_2 &&& (2147483647 : Int32))), .val (.ref b176), .val (.int i205), .val (.int i208), .val (.int (own_F9 (p0_4 &&& (3 : Int32)) i208)), .val (.ref b348), .unset] [(.ref b348)])) t
                  exact k
                obtain ⟨cq372, kq372, q372a, q372b, q372c⟩ := isOf hZ rfl f349
                obtain ⟨v372, _, ⟨T372, L372, k372, n372⟩, -, X372, ⟨Lc372, hQ372, l372, y372, z372⟩, st372⟩ := X348.virtualBack hx (y := (⟨"com/example/topping_out/toppingout/game/Player", "out", "()Z"⟩ : MethodName)) (z := (⟨"com/example/topping_out/toppingout/game/Player", "out", "()Z"⟩ : MethodName)) hown (mvT hZ (hw _ (List.mem_of_getElem? (i := 47) rfl))) (mvT hZ (hw _ (List.mem_of_getElem? (i := 48) rfl))) (notFace_of_selects (args := #[]) (mvT hZ (hw _ (List.mem_of_getElem? (i := 50) rfl)))) (mvT hZ (hw _ (List.mem_of_getElem? (i := 50) rfl))) (mvT hZ (hw _ (List.mem_of_getElem? (i := 49) rfl))) (by decide) (backOf (W := 0) (own_rm8 l Z a0 hw [] b348 ((if i167 = (0 : Int32) then (3 : Int32) else (2 : Int32)) - (1 : Int32)) T348.heap n0 Z368 f352) hZ (hw _ (List.mem_of_getElem? (i := 51) rfl)) (hw _ (List.mem_of_getElem? (i := 29) rfl)) (by decide) (by decide)) q372a q372c (g := (mkF m 144 #[.val (.int p0_0), .val (.int p0_1), .val (.int p0_2), .val (.int p0_3), .val (.int p0_4), .val (.int i167), .val (.ref b169), .val (.int (p0_2 &&& (2147483647 : Int32))), .val (.ref b176), .val (.int i205), .val (.int i208), .val (.int (own_F9 (p0_4 &&& (3 : Int32)) i208)), .val (.ref b348), .unset] [(.ref b348)])) rfl (by rw [hml]; rfl) (Steps.refl _) (argsL := []) (rest := []) (lenOf pd___Z rfl) rfl (by show 2 * 0 + _ ≤ _; exact Nat.le_of_eq rfl) (hb hby at_144) (fun _ _ => ⟨rfl, rfl, (by decide : 5 + 0 ≤ _), (by decide : 17 + 0 ≤ _)⟩)
                dsimp only [Pt.U, Pt.locs, Pt.cells, Pt.slots] at X372 l372 y372 z372 st372 hQ372
                subst l372 y372 z372
                obtain ⟨rfl, M372, e372⟩ := hQ372
                have N373 := Fr.app N369 M372
                refine own_via (T' := T372) (g' := (mkF m 147 #[.val (.int p0_0), .val (.int p0_1), .val (.int p0_2), .val (.int p0_3), .val (.int p0_4), .val (.int i167), .val (.ref b169), .val (.int (p0_2 &&& (2147483647 : Int32))), .val (.ref b176), .val (.int i205), .val (.int i208), .val (.int (own_F9 (p0_4 &&& (3 : Int32)) i208)), .val (.ref b348), .unset] [(.int (own_F8 ((if i167 = (0 : Int32) then (3 : Int32) else (2 : Int32)) - (1 : Int32))))])) st372 ?_
                refine own_by (T' := T372) (g' := (mkF m 151 #[.val (.int p0_0), .val (.int p0_1), .val (.int p0_2), .val (.int p0_3), .val (.int p0_4), .val (.int i167), .val (.ref b169), .val (.int (p0_2 &&& (2147483647 : Int32))), .val (.ref b176), .val (.int i205), .val (.int i208), .val (.int (own_F9 (p0_4 &&& (3 : Int32)) i208)), .val (.ref b348), .unset] [(.int i208), (.int (own_F9 (p0_4 &&& (3 : Int32)) i208)), (.int (own_F8 ((if i167 = (0 : Int32) then (3 : Int32) else (2 : Int32)) - (1 : Int32))))])) (fun t k => ?_) ?_
                · show Steps p.tables e below (T372.setTop (mkF m 147 #[.val (.int p0_0), .val (.int p0_1), .val (.int p0_2), .val (.int p0_3), .val (.int p0_4), .val (.int i167), .val (.ref b169), .val (.int (p0_2 &&& (2147483647 : Int32))), .val (.ref b176), .val (.int i205), .val (.int i208), .val (.int (own_F9 (p0_4 &&& (3 : Int32)) i208)), .val (.ref b348), .unset] [(.int (own_F8 ((if i167 = (0 : Int32) then (3 : Int32) else (2 : Int32)) - (1 : Int32))))])) t
                  refine XS.iload X372.here hx rfl (hb hby at_147) rfl ?_
                  show Steps p.tables e below (T372.setTop (mkF m 149 #[.val (.int p0_0), .val (.int p0_1), .val (.int p0_2), .val (.int p0_3), .val (.int p0_4), .val (.int i167), .val (.ref b169), .val (.int (p0_2 &&& (2147483647 : Int32))), .val (.ref b176), .val (.int i205), .val (.int i208), .val (.int (own_F9 (p0_4 &&& (3 : Int32)) i208)), .val (.ref b348), .unset] [(.int (own_F9 (p0_4 &&& (3 : Int32)) i208)), (.int (own_F8 ((if i167 = (0 : Int32) then (3 : Int32) else (2 : Int32)) - (1 : Int32))))])) t
                  refine XS.iload X372.here hx rfl (hb hby at_149) rfl ?_
                  show Steps p.tables e below (T372.setTop (mkF m 151 #[.val (.int p0_0), .val (.int p0_1), .val (.int p0_2), .val (.int p0_3), .val (.int p0_4), .val (.int i167), .val (.ref b169), .val (.int (p0_2 &&& (2147483647 : Int32))), .val (.ref b176), .val (.int i205), .val (.int i208), .val (.int (own_F9 (p0_4 &&& (3 : Int32)) i208)), .val (.ref b348), .unset] [(.int i208), (.int (own_F9 (p0_4 &&& (3 : Int32)) i208)), (.int (own_F8 ((if i167 = (0 : Int32) then (3 : Int32) else (2 : Int32)) - (1 : Int32))))])) t
                  exact k
                have J0_13 : ∀ (T376 : State) (L376 : List Loc) (i375 : Int32), Stand p l e room_1 s m #[(.int p0_0), (.int p0_1), (.int p0_2), (.int p0_3), (.int p0_4)] below meth c T376 L376 5 17 → T376.heap = T348.heap → Fr n0 L376 → own_Go p e below (own_P s below room_1 (own_Q0 (own_F0_159_13 p0_0 p0_1 p0_2 p0_3 p0_4 i167 i202 i205 i208 i375) h0 n0)) T376 (mkF m 159 #[.val (.int p0_0), .val (.int p0_1), .val (.int p0_2), .val (.int p0_3), .val (.int p0_4), .val (.int i167), .val (.ref b169), .val (.int (p0_2 &&& (2147483647 : Int32))), .val (.ref b176), .val (.int i205), .val (.int i208), .val (.int (own_F9 (p0_4 &&& (3 : Int32)) i208)), .val (.ref b348), .unset] [(.int i375), (.int (own_F8 ((if i167 = (0 : Int32) then (3 : Int32) else (2 : Int32)) - (1 : Int32))))]) := by
                  intro T376 L376 i375 X376 e376 N376
                  have J0_14 : ∀ (T379 : State) (L379 : List Loc) (i378 : Int32), Stand p l e room_1 s m #[(.int p0_0), (.int p0_1), (.int p0_2), (.int p0_3), (.int p0_4)] below meth c T379 L379 5 17 → T379.heap = T348.heap → Fr n0 L379 → own_Go p e below (own_P s below room_1 (own_Q0 (own_F0_167_14 p0_0 p0_1 p0_2 p0_3 p0_4 i167 i202 i205 i208 i375 i378) h0 n0)) T379 (mkF m 167 #[.val (.int p0_0), .val (.int p0_1), .val (.int p0_2), .val (.int p0_3), .val (.int p0_4), .val (.int i167), .val (.ref b169), .val (.int (p0_2 &&& (2147483647 : Int32))), .val (.ref b176), .val (.int i205), .val (.int i208), .val (.int (own_F9 (p0_4 &&& (3 : Int32)) i208)), .val (.ref b348), .unset] [(.int i378)]) := by
                    intro T379 L379 i378 X379 e379 N379
                    refine own_by (T' := T379) (g' := (mkF m 171 #[.val (.int p0_0), .val (.int p0_1), .val (.int p0_2), .val (.int p0_3), .val (.int p0_4), .val (.int i167), .val (.ref b169), .val (.int (p0_2 &&& (2147483647 : Int32))), .val (.ref b176), .val (.int i205), .val (.int i208), .val (.int (own_F9 (p0_4 &&& (3 : Int32)) i208)), .val (.ref b348), .val (.int i378)] [(.int i205)])) (fun t k => ?_) ?_
                    · show Steps p.tables e below (T379.setTop (mkF m 167 #[.val (.int p0_0), .val (.int p0_1), .val (.int p0_2), .val (.int p0_3), .val (.int p0_4), .val (.int i167), .val (.ref b169), .val (.int (p0_2 &&& (2147483647 : Int32))), .val (.ref b176), .val (.int i205), .val (.int i208), .val (.int (own_F9 (p0_4 &&& (3 : Int32)) i208)), .val (.ref b348), .unset] [(.int i378)])) t
                      refine XS.istore X379.here hx rfl (hb hby at_167) rfl (l' := #[.val (.int p0_0), .val (.int p0_1), .val (.int p0_2), .val (.int p0_3), .val (.int p0_4), .val (.int i167), .val (.ref b169), .val (.int (p0_2 &&& (2147483647 : Int32))), .val (.ref b176), .val (.int i205), .val (.int i208), .val (.int (own_F9 (p0_4 &&& (3 : Int32)) i208)), .val (.ref b348), .val (.int i378)]) rfl ?_
                      show Steps p.tables e below (T379.setTop (mkF m 169 #[.val (.int p0_0), .val (.int p0_1), .val (.int p0_2), .val (.int p0_3), .val (.int p0_4), .val (.int i167), .val (.ref b169), .val (.int (p0_2 &&& (2147483647 : Int32))), .val (.ref b176), .val (.int i205), .val (.int i208), .val (.int (own_F9 (p0_4 &&& (3 : Int32)) i208)), .val (.ref b348), .val (.int i378)] [])) t
                      refine XS.iload X379.here hx rfl (hb hby at_169) rfl ?_
                      show Steps p.tables e below (T379.setTop (mkF m 171 #[.val (.int p0_0), .val (.int p0_1), .val (.int p0_2), .val (.int p0_3), .val (.int p0_4), .val (.int i167), .val (.ref b169), .val (.int (p0_2 &&& (2147483647 : Int32))), .val (.ref b176), .val (.int i205), .val (.int i208), .val (.int (own_F9 (p0_4 &&& (3 : Int32)) i208)), .val (.ref b348), .val (.int i378)] [(.int i205)])) t
                      exact k
                    by_cases hc380 : i205 = (0 : Int32)
                    · skip
                      refine own_by (T' := T379) (g' := (mkF m 184 #[.val (.int p0_0), .val (.int p0_1), .val (.int p0_2), .val (.int p0_3), .val (.int p0_4), .val (.int i167), .val (.ref b169), .val (.int (p0_2 &&& (2147483647 : Int32))), .val (.ref b176), .val (.int i205), .val (.int i208), .val (.int (own_F9 (p0_4 &&& (3 : Int32)) i208)), .val (.ref b348), .val (.int i378)] [(.int (0 : Int32))])) (fun t k => ?_) ?_
                      · show Steps p.tables e below (T379.setTop (mkF m 171 #[.val (.int p0_0), .val (.int p0_1), .val (.int p0_2), .val (.int p0_3), .val (.int p0_4), .val (.int i167), .val (.ref b169), .val (.int (p0_2 &&& (2147483647 : Int32))), .val (.ref b176), .val (.int i205), .val (.int i208), .val (.int (own_F9 (p0_4 &&& (3 : Int32)) i208)), .val (.ref b348), .val (.int i378)] [(.int i205)])) t
                        refine XS.ifYes X379.here hx rfl (pc0 := 171) (pc' := 183) rfl (hb hby at_171) rfl ((if0 _ _).trans (teq hc380).1) (by decide) (by decide) ?_
                        show Steps p.tables e below (T379.setTop (mkF m 183 #[.val (.int p0_0), .val (.int p0_1), .val (.int p0_2), .val (.int p0_3), .val (.int p0_4), .val (.int i167), .val (.ref b169), .val (.int (p0_2 &&& (2147483647 : Int32))), .val (.ref b176), .val (.int i205), .val (.int i208), .val (.int (own_F9 (p0_4 &&& (3 : Int32)) i208)), .val (.ref b348), .val (.int i378)] [])) t
                        refine XS.iconst X379.here hx rfl (hb hby at_183) ?_
                        show Steps p.tables e below (T379.setTop (mkF m 184 #[.val (.int p0_0), .val (.int p0_1), .val (.int p0_2), .val (.int p0_3), .val (.int p0_4), .val (.int i167), .val (.ref b169), .val (.int (p0_2 &&& (2147483647 : Int32))), .val (.ref b176), .val (.int i205), .val (.int i208), .val (.int (own_F9 (p0_4 &&& (3 : Int32)) i208)), .val (.ref b348), .val (.int i378)] [(.int (0 : Int32))])) t
                        exact k
                      rw [show own_F0_167_14 p0_0 p0_1 p0_2 p0_3 p0_4 i167 i202 i205 i208 i375 i378 = (0 : Int32) from ((if_pos hc380).trans rfl)]
                      exact own_retN X379 hx (t := .boolean) Bd.returns (by simp) (hb hby at_184) hlk (by decide) (by decide) ⟨rfl, N379⟩
                    · skip
                      refine own_by (T' := T379) (g' := (mkF m 176 #[.val (.int p0_0), .val (.int p0_1), .val (.int p0_2), .val (.int p0_3), .val (.int p0_4), .val (.int i167), .val (.ref b169), .val (.int (p0_2 &&& (2147483647 : Int32))), .val (.ref b176), .val (.int i205), .val (.int i208), .val (.int (own_F9 (p0_4 &&& (3 : Int32)) i208)), .val (.ref b348), .val (.int i378)] [(.int i378)])) (fun t k => ?_) ?_
                      · show Steps p.tables e below (T379.setTop (mkF m 171 #[.val (.int p0_0), .val (.int p0_1), .val (.int p0_2), .val (.int p0_3), .val (.int p0_4), .val (.int i167), .val (.ref b169), .val (.int (p0_2 &&& (2147483647 : Int32))), .val (.ref b176), .val (.int i205), .val (.int i208), .val (.int (own_F9 (p0_4 &&& (3 : Int32)) i208)), .val (.ref b348), .val (.int i378)] [(.int i205)])) t
                        refine XS.ifNo X379.here hx rfl (hb hby at_171) rfl ((if0 _ _).trans (feq hc380).1) ?_
                        show Steps p.tables e below (T379.setTop (mkF m 174 #[.val (.int p0_0), .val (.int p0_1), .val (.int p0_2), .val (.int p0_3), .val (.int p0_4), .val (.int i167), .val (.ref b169), .val (.int (p0_2 &&& (2147483647 : Int32))), .val (.ref b176), .val (.int i205), .val (.int i208), .val (.int (own_F9 (p0_4 &&& (3 : Int32)) i208)), .val (.ref b348), .val (.int i378)] [])) t
                        refine XS.iload X379.here hx rfl (hb hby at_174) rfl ?_
                        show Steps p.tables e below (T379.setTop (mkF m 176 #[.val (.int p0_0), .val (.int p0_1), .val (.int p0_2), .val (.int p0_3), .val (.int p0_4), .val (.int i167), .val (.ref b169), .val (.int (p0_2 &&& (2147483647 : Int32))), .val (.ref b176), .val (.int i205), .val (.int i208), .val (.int (own_F9 (p0_4 &&& (3 : Int32)) i208)), .val (.ref b348), .val (.int i378)] [(.int i378)])) t
                        exact k
                      by_cases hc382 : i378 = (0 : Int32)
                      · skip
                        refine own_by (T' := T379) (g' := (mkF m 184 #[.val (.int p0_0), .val (.int p0_1), .val (.int p0_2), .val (.int p0_3), .val (.int p0_4), .val (.int i167), .val (.ref b169), .val (.int (p0_2 &&& (2147483647 : Int32))), .val (.ref b176), .val (.int i205), .val (.int i208), .val (.int (own_F9 (p0_4 &&& (3 : Int32)) i208)), .val (.ref b348), .val (.int i378)] [(.int (0 : Int32))])) (fun t k => ?_) ?_
                        · show Steps p.tables e below (T379.setTop (mkF m 176 #[.val (.int p0_0), .val (.int p0_1), .val (.int p0_2), .val (.int p0_3), .val (.int p0_4), .val (.int i167), .val (.ref b169), .val (.int (p0_2 &&& (2147483647 : Int32))), .val (.ref b176), .val (.int i205), .val (.int i208), .val (.int (own_F9 (p0_4 &&& (3 : Int32)) i208)), .val (.ref b348), .val (.int i378)] [(.int i378)])) t
                          refine XS.ifYes X379.here hx rfl (pc0 := 176) (pc' := 183) rfl (hb hby at_176) rfl ((if0 _ _).trans (teq hc382).1) (by decide) (by decide) ?_
                          show Steps p.tables e below (T379.setTop (mkF m 183 #[.val (.int p0_0), .val (.int p0_1), .val (.int p0_2), .val (.int p0_3), .val (.int p0_4), .val (.int i167), .val (.ref b169), .val (.int (p0_2 &&& (2147483647 : Int32))), .val (.ref b176), .val (.int i205), .val (.int i208), .val (.int (own_F9 (p0_4 &&& (3 : Int32)) i208)), .val (.ref b348), .val (.int i378)] [])) t
                          refine XS.iconst X379.here hx rfl (hb hby at_183) ?_
                          show Steps p.tables e below (T379.setTop (mkF m 184 #[.val (.int p0_0), .val (.int p0_1), .val (.int p0_2), .val (.int p0_3), .val (.int p0_4), .val (.int i167), .val (.ref b169), .val (.int (p0_2 &&& (2147483647 : Int32))), .val (.ref b176), .val (.int i205), .val (.int i208), .val (.int (own_F9 (p0_4 &&& (3 : Int32)) i208)), .val (.ref b348), .val (.int i378)] [(.int (0 : Int32))])) t
                          exact k
                        rw [show own_F0_167_14 p0_0 p0_1 p0_2 p0_3 p0_4 i167 i202 i205 i208 i375 i378 = (0 : Int32) from ((if_neg hc380).trans ((if_pos hc382).trans rfl))]
                        exact own_retN X379 hx (t := .boolean) Bd.returns (by simp) (hb hby at_184) hlk (by decide) (by decide) ⟨rfl, N379⟩
                      · skip
                        refine own_by (T' := T379) (g' := (mkF m 184 #[.val (.int p0_0), .val (.int p0_1), .val (.int p0_2), .val (.int p0_3), .val (.int p0_4), .val (.int i167), .val (.ref b169), .val (.int (p0_2 &&& (2147483647 : Int32))), .val (.ref b176), .val (.int i205), .val (.int i208), .val (.int (own_F9 (p0_4 &&& (3 : Int32)) i208)), .val (.ref b348), .val (.int i378)] [(.int (1 : Int32))])) (fun t k => ?_) ?_
                        · show Steps p.tables e below (T379.setTop (mkF m 176 #[.val (.int p0_0), .val (.int p0_1), .val (.int p0_2), .val (.int p0_3), .val (.int p0_4), .val (.int i167), .val (.ref b169), .val (.int (p0_2 &&& (2147483647 : Int32))), .val (.ref b176), .val (.int i205), .val (.int i208), .val (.int (own_F9 (p0_4 &&& (3 : Int32)) i208)), .val (.ref b348), .val (.int i378)] [(.int i378)])) t
                          refine XS.ifNo X379.here hx rfl (hb hby at_176) rfl ((if0 _ _).trans (feq hc382).1) ?_
                          show Steps p.tables e below (T379.setTop (mkF m 179 #[.val (.int p0_0), .val (.int p0_1), .val (.int p0_2), .val (.int p0_3), .val (.int p0_4), .val (.int i167), .val (.ref b169), .val (.int (p0_2 &&& (2147483647 : Int32))), .val (.ref b176), .val (.int i205), .val (.int i208), .val (.int (own_F9 (p0_4 &&& (3 : Int32)) i208)), .val (.ref b348), .val (.int i378)] [])) t
                          refine XS.iconst X379.here hx rfl (hb hby at_179) ?_
                          show Steps p.tables e below (T379.setTop (mkF m 180 #[.val (.int p0_0), .val (.int p0_1), .val (.int p0_2), .val (.int p0_3), .val (.int p0_4), .val (.int i167), .val (.ref b169), .val (.int (p0_2 &&& (2147483647 : Int32))), .val (.ref b176), .val (.int i205), .val (.int i208), .val (.int (own_F9 (p0_4 &&& (3 : Int32)) i208)), .val (.ref b348), .val (.int i378)] [(.int (1 : Int32))])) t
                          refine XS.goto X379.here hx rfl (pc0 := 180) (pc' := 184) rfl (hb hby at_180) (by decide) (by decide) ?_
                          show Steps p.tables e below (T379.setTop (mkF m 184 #[.val (.int p0_0), .val (.int p0_1), .val (.int p0_2), .val (.int p0_3), .val (.int p0_4), .val (.int i167), .val (.ref b169), .val (.int (p0_2 &&& (2147483647 : Int32))), .val (.ref b176), .val (.int i205), .val (.int i208), .val (.int (own_F9 (p0_4 &&& (3 : Int32)) i208)), .val (.ref b348), .val (.int i378)] [(.int (1 : Int32))])) t
                          exact k
                        rw [show own_F0_167_14 p0_0 p0_1 p0_2 p0_3 p0_4 i167 i202 i205 i208 i375 i378 = (1 : Int32) from ((if_neg hc380).trans ((if_neg hc382).trans rfl))]
                        exact own_retN X379 hx (t := .boolean) Bd.returns (by simp) (hb hby at_184) hlk (by decide) (by decide) ⟨rfl, N379⟩
                  by_cases hc377 : (own_F8 ((if i167 = (0 : Int32) then (3 : Int32) else (2 : Int32)) - (1 : Int32))) = i375
                  · skip
                    refine own_by (T' := T376) (g' := (mkF m 167 #[.val (.int p0_0), .val (.int p0_1), .val (.int p0_2), .val (.int p0_3), .val (.int p0_4), .val (.int i167), .val (.ref b169), .val (.int (p0_2 &&& (2147483647 : Int32))), .val (.ref b176), .val (.int i205), .val (.int i208), .val (.int (own_F9 (p0_4 &&& (3 : Int32)) i208)), .val (.ref b348), .unset] [(.int (1 : Int32))])) (fun t k => ?_) ?_
                    · show Steps p.tables e below (T376.setTop (mkF m 159 #[.val (.int p0_0), .val (.int p0_1), .val (.int p0_2), .val (.int p0_3), .val (.int p0_4), .val (.int i167), .val (.ref b169), .val (.int (p0_2 &&& (2147483647 : Int32))), .val (.ref b176), .val (.int i205), .val (.int i208), .val (.int (own_F9 (p0_4 &&& (3 : Int32)) i208)), .val (.ref b348), .unset] [(.int i375), (.int (own_F8 ((if i167 = (0 : Int32) then (3 : Int32) else (2 : Int32)) - (1 : Int32))))])) t
                      refine XS.icmpNo X376.here hx rfl (hb hby at_159) rfl (teq hc377).2 ?_
                      show Steps p.tables e below (T376.setTop (mkF m 162 #[.val (.int p0_0), .val (.int p0_1), .val (.int p0_2), .val (.int p0_3), .val (.int p0_4), .val (.int i167), .val (.ref b169), .val (.int (p0_2 &&& (2147483647 : Int32))), .val (.ref b176), .val (.int i205), .val (.int i208), .val (.int (own_F9 (p0_4 &&& (3 : Int32)) i208)), .val (.ref b348), .unset] [])) t
                      refine XS.iconst X376.here hx rfl (hb hby at_162) ?_
                      show Steps p.tables e below (T376.setTop (mkF m 163 #[.val (.int p0_0), .val (.int p0_1), .val (.int p0_2), .val (.int p0_3), .val (.int p0_4), .val (.int i167), .val (.ref b169), .val (.int (p0_2 &&& (2147483647 : Int32))), .val (.ref b176), .val (.int i205), .val (.int i208), .val (.int (own_F9 (p0_4 &&& (3 : Int32)) i208)), .val (.ref b348), .unset] [(.int (1 : Int32))])) t
                      refine XS.goto X376.here hx rfl (pc0 := 163) (pc' := 167) rfl (hb hby at_163) (by decide) (by decide) ?_
                      show Steps p.tables e below (T376.setTop (mkF m 167 #[.val (.int p0_0), .val (.int p0_1), .val (.int p0_2), .val (.int p0_3), .val (.int p0_4), .val (.int i167), .val (.ref b169), .val (.int (p0_2 &&& (2147483647 : Int32))), .val (.ref b176), .val (.int i205), .val (.int i208), .val (.int (own_F9 (p0_4 &&& (3 : Int32)) i208)), .val (.ref b348), .unset] [(.int (1 : Int32))])) t
                      exact k
                    rw [show own_F0_159_13 p0_0 p0_1 p0_2 p0_3 p0_4 i167 i202 i205 i208 i375 = (own_F0_167_14 p0_0 p0_1 p0_2 p0_3 p0_4 i167 i202 i205 i208 i375 (1 : Int32)) from ((if_pos hc377).trans rfl)]
                    exact J0_14 _ _ (1 : Int32) X376 e376 N376
                  · skip
                    refine own_by (T' := T376) (g' := (mkF m 167 #[.val (.int p0_0), .val (.int p0_1), .val (.int p0_2), .val (.int p0_3), .val (.int p0_4), .val (.int i167), .val (.ref b169), .val (.int (p0_2 &&& (2147483647 : Int32))), .val (.ref b176), .val (.int i205), .val (.int i208), .val (.int (own_F9 (p0_4 &&& (3 : Int32)) i208)), .val (.ref b348), .unset] [(.int (0 : Int32))])) (fun t k => ?_) ?_
                    · show Steps p.tables e below (T376.setTop (mkF m 159 #[.val (.int p0_0), .val (.int p0_1), .val (.int p0_2), .val (.int p0_3), .val (.int p0_4), .val (.int i167), .val (.ref b169), .val (.int (p0_2 &&& (2147483647 : Int32))), .val (.ref b176), .val (.int i205), .val (.int i208), .val (.int (own_F9 (p0_4 &&& (3 : Int32)) i208)), .val (.ref b348), .unset] [(.int i375), (.int (own_F8 ((if i167 = (0 : Int32) then (3 : Int32) else (2 : Int32)) - (1 : Int32))))])) t
                      refine XS.icmpYes X376.here hx rfl (pc0 := 159) (pc' := 166) rfl (hb hby at_159) rfl (feq hc377).2 (by decide) (by decide) ?_
                      show Steps p.tables e below (T376.setTop (mkF m 166 #[.val (.int p0_0), .val (.int p0_1), .val (.int p0_2), .val (.int p0_3), .val (.int p0_4), .val (.int i167), .val (.ref b169), .val (.int (p0_2 &&& (2147483647 : Int32))), .val (.ref b176), .val (.int i205), .val (.int i208), .val (.int (own_F9 (p0_4 &&& (3 : Int32)) i208)), .val (.ref b348), .unset] [])) t
                      refine XS.iconst X376.here hx rfl (hb hby at_166) ?_
                      show Steps p.tables e below (T376.setTop (mkF m 167 #[.val (.int p0_0), .val (.int p0_1), .val (.int p0_2), .val (.int p0_3), .val (.int p0_4), .val (.int i167), .val (.ref b169), .val (.int (p0_2 &&& (2147483647 : Int32))), .val (.ref b176), .val (.int i205), .val (.int i208), .val (.int (own_F9 (p0_4 &&& (3 : Int32)) i208)), .val (.ref b348), .unset] [(.int (0 : Int32))])) t
                      exact k
                    rw [show own_F0_159_13 p0_0 p0_1 p0_2 p0_3 p0_4 i167 i202 i205 i208 i375 = (own_F0_167_14 p0_0 p0_1 p0_2 p0_3 p0_4 i167 i202 i205 i208 i375 (0 : Int32)) from ((if_neg hc377).trans rfl)]
                    exact J0_14 _ _ (0 : Int32) X376 e376 N376
                by_cases hc374 : (own_F9 (p0_4 &&& (3 : Int32)) i208) = i208
                · skip
                  refine own_by (T' := T372) (g' := (mkF m 159 #[.val (.int p0_0), .val (.int p0_1), .val (.int p0_2), .val (.int p0_3), .val (.int p0_4), .val (.int i167), .val (.ref b169), .val (.int (p0_2 &&& (2147483647 : Int32))), .val (.ref b176), .val (.int i205), .val (.int i208), .val (.int (own_F9 (p0_4 &&& (3 : Int32)) i208)), .val (.ref b348), .unset] [(.int (1 : Int32)), (.int (own_F8 ((if i167 = (0 : Int32) then (3 : Int32) else (2 : Int32)) - (1 : Int32))))])) (fun t k => ?_) ?_
                  · show Steps p.tables e below (T372.setTop (mkF m 151 #[.val (.int p0_0), .val (.int p0_1), .val (.int p0_2), .val (.int p0_3), .val (.int p0_4), .val (.int i167), .val (.ref b169), .val (.int (p0_2 &&& (2147483647 : Int32))), .val (.ref b176), .val (.int i205), .val (.int i208), .val (.int (own_F9 (p0_4 &&& (3 : Int32)) i208)), .val (.ref b348), .unset] [(.int i208), (.int (own_F9 (p0_4 &&& (3 : Int32)) i208)), (.int (own_F8 ((if i167 = (0 : Int32) then (3 : Int32) else (2 : Int32)) - (1 : Int32))))])) t
                    refine XS.icmpNo X372.here hx rfl (hb hby at_151) rfl (teq hc374).2 ?_
                    show Steps p.tables e below (T372.setTop (mkF m 154 #[.val (.int p0_0), .val (.int p0_1), .val (.int p0_2), .val (.int p0_3), .val (.int p0_4), .val (.int i167), .val (.ref b169), .val (.int (p0_2 &&& (2147483647 : Int32))), .val (.ref b176), .val (.int i205), .val (.int i208), .val (.int (own_F9 (p0_4 &&& (3 : Int32)) i208)), .val (.ref b348), .unset] [(.int (own_F8 ((if i167 = (0 : Int32) then (3 : Int32) else (2 : Int32)) - (1 : Int32))))])) t
                    refine XS.iconst X372.here hx rfl (hb hby at_154) ?_
                    show Steps p.tables e below (T372.setTop (mkF m 155 #[.val (.int p0_0), .val (.int p0_1), .val (.int p0_2), .val (.int p0_3), .val (.int p0_4), .val (.int i167), .val (.ref b169), .val (.int (p0_2 &&& (2147483647 : Int32))), .val (.ref b176), .val (.int i205), .val (.int i208), .val (.int (own_F9 (p0_4 &&& (3 : Int32)) i208)), .val (.ref b348), .unset] [(.int (1 : Int32)), (.int (own_F8 ((if i167 = (0 : Int32) then (3 : Int32) else (2 : Int32)) - (1 : Int32))))])) t
                    refine XS.goto X372.here hx rfl (pc0 := 155) (pc' := 159) rfl (hb hby at_155) (by decide) (by decide) ?_
                    show Steps p.tables e below (T372.setTop (mkF m 159 #[.val (.int p0_0), .val (.int p0_1), .val (.int p0_2), .val (.int p0_3), .val (.int p0_4), .val (.int i167), .val (.ref b169), .val (.int (p0_2 &&& (2147483647 : Int32))), .val (.ref b176), .val (.int i205), .val (.int i208), .val (.int (own_F9 (p0_4 &&& (3 : Int32)) i208)), .val (.ref b348), .unset] [(.int (1 : Int32)), (.int (own_F8 ((if i167 = (0 : Int32) then (3 : Int32) else (2 : Int32)) - (1 : Int32))))])) t
                    exact k
                  rw [show own_F0_81_4 p0_0 p0_1 p0_2 p0_3 p0_4 i167 i202 i205 i208 = (own_F0_159_13 p0_0 p0_1 p0_2 p0_3 p0_4 i167 i202 i205 i208 (1 : Int32)) from ((if_neg hc229).trans ((if_pos hc370).trans ((if_pos hc371).trans ((if_pos hc374).trans rfl))))]
                  exact J0_13 _ _ (1 : Int32) X372 e372 N373
                · skip
                  refine own_by (T' := T372) (g' := (mkF m 159 #[.val (.int p0_0), .val (.int p0_1), .val (.int p0_2), .val (.int p0_3), .val (.int p0_4), .val (.int i167), .val (.ref b169), .val (.int (p0_2 &&& (2147483647 : Int32))), .val (.ref b176), .val (.int i205), .val (.int i208), .val (.int (own_F9 (p0_4 &&& (3 : Int32)) i208)), .val (.ref b348), .unset] [(.int (0 : Int32)), (.int (own_F8 ((if i167 = (0 : Int32) then (3 : Int32) else (2 : Int32)) - (1 : Int32))))])) (fun t k => ?_) ?_
                  · show Steps p.tables e below (T372.setTop (mkF m 151 #[.val (.int p0_0), .val (.int p0_1), .val (.int p0_2), .val (.int p0_3), .val (.int p0_4), .val (.int i167), .val (.ref b169), .val (.int (p0_2 &&& (2147483647 : Int32))), .val (.ref b176), .val (.int i205), .val (.int i208), .val (.int (own_F9 (p0_4 &&& (3 : Int32)) i208)), .val (.ref b348), .unset] [(.int i208), (.int (own_F9 (p0_4 &&& (3 : Int32)) i208)), (.int (own_F8 ((if i167 = (0 : Int32) then (3 : Int32) else (2 : Int32)) - (1 : Int32))))])) t
                    refine XS.icmpYes X372.here hx rfl (pc0 := 151) (pc' := 158) rfl (hb hby at_151) rfl (feq hc374).2 (by decide) (by decide) ?_
                    show Steps p.tables e below (T372.setTop (mkF m 158 #[.val (.int p0_0), .val (.int p0_1), .val (.int p0_2), .val (.int p0_3), .val (.int p0_4), .val (.int i167), .val (.ref b169), .val (.int (p0_2 &&& (2147483647 : Int32))), .val (.ref b176), .val (.int i205), .val (.int i208), .val (.int (own_F9 (p0_4 &&& (3 : Int32)) i208)), .val (.ref b348), .unset] [(.int (own_F8 ((if i167 = (0 : Int32) then (3 : Int32) else (2 : Int32)) - (1 : Int32))))])) t
                    refine XS.iconst X372.here hx rfl (hb hby at_158) ?_
                    show Steps p.tables e below (T372.setTop (mkF m 159 #[.val (.int p0_0), .val (.int p0_1), .val (.int p0_2), .val (.int p0_3), .val (.int p0_4), .val (.int i167), .val (.ref b169), .val (.int (p0_2 &&& (2147483647 : Int32))), .val (.ref b176), .val (.int i205), .val (.int i208), .val (.int (own_F9 (p0_4 &&& (3 : Int32)) i208)), .val (.ref b348), .unset] [(.int (0 : Int32)), (.int (own_F8 ((if i167 = (0 : Int32) then (3 : Int32) else (2 : Int32)) - (1 : Int32))))])) t
                    exact k
                  rw [show own_F0_81_4 p0_0 p0_1 p0_2 p0_3 p0_4 i167 i202 i205 i208 = (own_F0_159_13 p0_0 p0_1 p0_2 p0_3 p0_4 i167 i202 i205 i208 (0 : Int32)) from ((if_neg hc229).trans ((if_pos hc370).trans ((if_pos hc371).trans ((if_neg hc374).trans rfl))))]
                  exact J0_13 _ _ (0 : Int32) X372 e372 N373
              · skip
                refine own_by (T' := T348) (g' := (mkF m 137 #[.val (.int p0_0), .val (.int p0_1), .val (.int p0_2), .val (.int p0_3), .val (.int p0_4), .val (.int i167), .val (.ref b169), .val (.int (p0_2 &&& (2147483647 : Int32))), .val (.ref b176), .val (.int i205), .val (.int i208), .val (.int (own_F9 (p0_4 &&& (3 : Int32)) i208)), .val (.ref b348), .unset] [(.ref b348)])) (fun t k => ?_) ?_
                · show Steps p.tables e below (T348.setTop (mkF m 132 #[.val (.int p0_0), .val (.int p0_1), .val (.int p0_2), .val (.int p0_3), .val (.int p0_4), .val (.int i167), .val (.ref b169), .val (.int (p0_2 &&& (2147483647 : Int32))), .val (.ref b176), .val (.int i205), .val (.int i208), .val (.int (own_F9 (p0_4 &&& (3 : Int32)) i208)), .val (.ref b348), .unset] [(.int (3 : Int32)), (.int (own_F9 (p0_4 &&& (3 : Int32)) i208))])) t
                  refine XS.icmpNo X348.here hx rfl (hb hby at_132) rfl (flt hc371).1 ?_
                  show Steps p.tables e below (T348.setTop (mkF m 135 #[.val (.int p0_0), .val (.int p0_1), .val (.int p0_2), .val (.int p0_3), .val (.int p0_4), .val (.int i167), .val (.ref b169), .val (.int (p0_2 &&& (2147483647 : Int32))), .val (.ref b176), .val (.int i205), .val (.int i208), .val (.int (own_F9 (p0_4 &&& (3 : Int32)) i208)), .val (.ref b348), .unset] [])) t
                  refine XS.aload X348.here hx rfl (hb hby at_135) rfl rfl ?_
                  show Steps p.tables e below (T348.setTop (mkF m 137 #[.val (.int p0_0), .val (.int p0_1), .val (.int p0_2), .val (.int p0_3), .val (.int p0_4), .val (.int i167), .val (.ref b169), .val (.int (p0_2 &&& (2147483647 : Int32))), .val (.ref b176), .val (.int i205), .val (.int i208), .val (.int (own_F9 (p0_4 &&& (3 : Int32)) i208)), .val (.ref b348), .unset] [(.ref b348)])) t
                  exact k
                obtain ⟨cq383, kq383, q383a, q383b, q383c⟩ := isOf hZ rfl f349
                obtain ⟨v383, _, ⟨T383, L383, k383, n383⟩, -, X383, ⟨Lc383, hQ383, l383, y383, z383⟩, st383⟩ := X348.virtualBack hx (y := (⟨"com/example/topping_out/toppingout/game/Player", "lessACertificate", "()Lcom/example/topping_out/toppingout/game/Player;"⟩ : MethodName)) (z := (⟨"com/example/topping_out/toppingout/game/Player", "lessACertificate", "()Lcom/example/topping_out/toppingout/game/Player;"⟩ : MethodName)) hown (mvT hZ (hw _ (List.mem_of_getElem? (i := 61) rfl))) (mvT hZ (hw _ (List.mem_of_getElem? (i := 62) rfl))) (notFace_of_selects (args := #[]) (mvT hZ (hw _ (List.mem_of_getElem? (i := 64) rfl)))) (mvT hZ (hw _ (List.mem_of_getElem? (i := 64) rfl))) (mvT hZ (hw _ (List.mem_of_getElem? (i := 63) rfl))) (by decide) (backOf (W := 0) (own_rm11 l Z a0 hw [] b348 b169 (nar .boolean (nar .boolean i167)) ((if i167 = (0 : Int32) then (3 : Int32) else (2 : Int32)) - (1 : Int32)) (0 : Int32) T348.heap n0 Z368 f350 f351 f352 f353) hZ (hw _ (List.mem_of_getElem? (i := 65) rfl)) (hw _ (List.mem_of_getElem? (i := 29) rfl)) (by decide) (by decide)) q383a q383c (g := (mkF m 137 #[.val (.int p0_0), .val (.int p0_1), .val (.int p0_2), .val (.int p0_3), .val (.int p0_4), .val (.int i167), .val (.ref b169), .val (.int (p0_2 &&& (2147483647 : Int32))), .val (.ref b176), .val (.int i205), .val (.int i208), .val (.int (own_F9 (p0_4 &&& (3 : Int32)) i208)), .val (.ref b348), .unset] [(.ref b348)])) rfl (by rw [hml]; rfl) (Steps.refl _) (argsL := []) (rest := []) (lenOf pd___Lcom_example_topping_out_toppingout_game_Player_ rfl) rfl (by show 2 * 0 + _ ≤ _; exact Nat.le_of_eq rfl) (hb hby at_137) (fun _ _ => ⟨rfl, rfl, (by decide : 5 + 1 ≤ _), (by decide : 17 + 4 ≤ _)⟩)
                dsimp only [Pt.U, Pt.locs, Pt.cells, Pt.slots] at X383 l383 y383 z383 st383 hQ383
                subst l383 y383 z383
                obtain ⟨b383, rfl, M383, K383, sz383, gn383, f384, f385, f386, f387, f388⟩ := hQ383
                have f389 := f354.keep K383
                have f390 := f355.keep K383 nin0
                have f391 := f356.keep K383
                have f392 := f357.keep K383 nin0
                have f393 := f358.keep K383 nin0
                have f394 := f359.keep K383 nin0
                have f395 := f360.keep K383 nin0
                have f396 := f361.keep K383
                have f397 := f362.keep K383 nin0
                have f398 := f363.keep K383 nin0
                have f399 := f364.keep K383 nin0
                have f400 := f365.keep K383 nin0
                have f401 := f349.keep K383
                have f402 := f350.keep K383 nin0
                have f403 := f351.keep K383 nin0
                have f404 := f352.keep K383 nin0
                have f405 := f353.keep K383 nin0
                have K406 : Keep h0 T383.heap [] := K366.trans K383 all0
                have O407 := O367.keep K383 all0
                have Z408 := Nat.le_trans Z368 K383.1
                have sz_b383 : h0.size ≤ b383 := Nat.le_trans K366.1 sz383
                have ne_b169_b383 : b169 ≠ b383 := Nat.ne_of_lt (Nat.lt_of_lt_of_le f355.lt sz383)
                have ne_b176_b383 : b176 ≠ b383 := Nat.ne_of_lt (Nat.lt_of_lt_of_le f360.lt sz383)
                have ne_b212_b383 : b212 ≠ b383 := Nat.ne_of_lt (Nat.lt_of_lt_of_le f365.lt sz383)
                have ne_b348_b383 : b348 ≠ b383 := Nat.ne_of_lt (Nat.lt_of_lt_of_le f353.lt sz383)
                have N409 := Fr.app N369 M383
                refine own_via (T' := T383) (g' := (mkF m 140 #[.val (.int p0_0), .val (.int p0_1), .val (.int p0_2), .val (.int p0_3), .val (.int p0_4), .val (.int i167), .val (.ref b169), .val (.int (p0_2 &&& (2147483647 : Int32))), .val (.ref b176), .val (.int i205), .val (.int i208), .val (.int (own_F9 (p0_4 &&& (3 : Int32)) i208)), .val (.ref b348), .unset] [(.ref b383)])) st383 ?_
                refine own_by (T' := T383) (g' := (mkF m 144 #[.val (.int p0_0), .val (.int p0_1), .val (.int p0_2), .val (.int p0_3), .val (.int p0_4), .val (.int i167), .val (.ref b169), .val (.int (p0_2 &&& (2147483647 : Int32))), .val (.ref b176), .val (.int i205), .val (.int i208), .val (.int (own_F9 (p0_4 &&& (3 : Int32)) i208)), .val (.ref b383), .unset] [(.ref b383)])) (fun t k => ?_) ?_
                · show Steps p.tables e below (T383.setTop (mkF m 140 #[.val (.int p0_0), .val (.int p0_1), .val (.int p0_2), .val (.int p0_3), .val (.int p0_4), .val (.int i167), .val (.ref b169), .val (.int (p0_2 &&& (2147483647 : Int32))), .val (.ref b176), .val (.int i205), .val (.int i208), .val (.int (own_F9 (p0_4 &&& (3 : Int32)) i208)), .val (.ref b348), .unset] [(.ref b383)])) t
                  refine XS.astore X383.here hx rfl (hb hby at_140) rfl rfl (l' := #[.val (.int p0_0), .val (.int p0_1), .val (.int p0_2), .val (.int p0_3), .val (.int p0_4), .val (.int i167), .val (.ref b169), .val (.int (p0_2 &&& (2147483647 : Int32))), .val (.ref b176), .val (.int i205), .val (.int i208), .val (.int (own_F9 (p0_4 &&& (3 : Int32)) i208)), .val (.ref b383), .unset]) rfl ?_
                  show Steps p.tables e below (T383.setTop (mkF m 142 #[.val (.int p0_0), .val (.int p0_1), .val (.int p0_2), .val (.int p0_3), .val (.int p0_4), .val (.int i167), .val (.ref b169), .val (.int (p0_2 &&& (2147483647 : Int32))), .val (.ref b176), .val (.int i205), .val (.int i208), .val (.int (own_F9 (p0_4 &&& (3 : Int32)) i208)), .val (.ref b383), .unset] [])) t
                  refine XS.aload X383.here hx rfl (hb hby at_142) rfl rfl ?_
                  show Steps p.tables e below (T383.setTop (mkF m 144 #[.val (.int p0_0), .val (.int p0_1), .val (.int p0_2), .val (.int p0_3), .val (.int p0_4), .val (.int i167), .val (.ref b169), .val (.int (p0_2 &&& (2147483647 : Int32))), .val (.ref b176), .val (.int i205), .val (.int i208), .val (.int (own_F9 (p0_4 &&& (3 : Int32)) i208)), .val (.ref b383), .unset] [(.ref b383)])) t
                  exact k
                obtain ⟨cq410, kq410, q410a, q410b, q410c⟩ := isOf hZ rfl f384
                obtain ⟨v410, _, ⟨T410, L410, k410, n410⟩, -, X410, ⟨Lc410, hQ410, l410, y410, z410⟩, st410⟩ := X383.virtualBack hx (y := (⟨"com/example/topping_out/toppingout/game/Player", "out", "()Z"⟩ : MethodName)) (z := (⟨"com/example/topping_out/toppingout/game/Player", "out", "()Z"⟩ : MethodName)) hown (mvT hZ (hw _ (List.mem_of_getElem? (i := 47) rfl))) (mvT hZ (hw _ (List.mem_of_getElem? (i := 48) rfl))) (notFace_of_selects (args := #[]) (mvT hZ (hw _ (List.mem_of_getElem? (i := 50) rfl)))) (mvT hZ (hw _ (List.mem_of_getElem? (i := 50) rfl))) (mvT hZ (hw _ (List.mem_of_getElem? (i := 49) rfl))) (by decide) (backOf (W := 0) (own_rm8 l Z a0 hw [] b383 (((if i167 = (0 : Int32) then (3 : Int32) else (2 : Int32)) - (1 : Int32)) - (1 : Int32)) T383.heap n0 Z408 f387) hZ (hw _ (List.mem_of_getElem? (i := 51) rfl)) (hw _ (List.mem_of_getElem? (i := 29) rfl)) (by decide) (by decide)) q410a q410c (g := (mkF m 144 #[.val (.int p0_0), .val (.int p0_1), .val (.int p0_2), .val (.int p0_3), .val (.int p0_4), .val (.int i167), .val (.ref b169), .val (.int (p0_2 &&& (2147483647 : Int32))), .val (.ref b176), .val (.int i205), .val (.int i208), .val (.int (own_F9 (p0_4 &&& (3 : Int32)) i208)), .val (.ref b383), .unset] [(.ref b383)])) rfl (by rw [hml]; rfl) (Steps.refl _) (argsL := []) (rest := []) (lenOf pd___Z rfl) rfl (by show 2 * 0 + _ ≤ _; exact Nat.le_of_eq rfl) (hb hby at_144) (fun _ _ => ⟨rfl, rfl, (by decide : 6 + 0 ≤ _), (by decide : 21 + 0 ≤ _)⟩)
                dsimp only [Pt.U, Pt.locs, Pt.cells, Pt.slots] at X410 l410 y410 z410 st410 hQ410
                subst l410 y410 z410
                obtain ⟨rfl, M410, e410⟩ := hQ410
                have N411 := Fr.app N409 M410
                refine own_via (T' := T410) (g' := (mkF m 147 #[.val (.int p0_0), .val (.int p0_1), .val (.int p0_2), .val (.int p0_3), .val (.int p0_4), .val (.int i167), .val (.ref b169), .val (.int (p0_2 &&& (2147483647 : Int32))), .val (.ref b176), .val (.int i205), .val (.int i208), .val (.int (own_F9 (p0_4 &&& (3 : Int32)) i208)), .val (.ref b383), .unset] [(.int (own_F8 (((if i167 = (0 : Int32) then (3 : Int32) else (2 : Int32)) - (1 : Int32)) - (1 : Int32))))])) st410 ?_
                refine own_by (T' := T410) (g' := (mkF m 151 #[.val (.int p0_0), .val (.int p0_1), .val (.int p0_2), .val (.int p0_3), .val (.int p0_4), .val (.int i167), .val (.ref b169), .val (.int (p0_2 &&& (2147483647 : Int32))), .val (.ref b176), .val (.int i205), .val (.int i208), .val (.int (own_F9 (p0_4 &&& (3 : Int32)) i208)), .val (.ref b383), .unset] [(.int i208), (.int (own_F9 (p0_4 &&& (3 : Int32)) i208)), (.int (own_F8 (((if i167 = (0 : Int32) then (3 : Int32) else (2 : Int32)) - (1 : Int32)) - (1 : Int32))))])) (fun t k => ?_) ?_
                · show Steps p.tables e below (T410.setTop (mkF m 147 #[.val (.int p0_0), .val (.int p0_1), .val (.int p0_2), .val (.int p0_3), .val (.int p0_4), .val (.int i167), .val (.ref b169), .val (.int (p0_2 &&& (2147483647 : Int32))), .val (.ref b176), .val (.int i205), .val (.int i208), .val (.int (own_F9 (p0_4 &&& (3 : Int32)) i208)), .val (.ref b383), .unset] [(.int (own_F8 (((if i167 = (0 : Int32) then (3 : Int32) else (2 : Int32)) - (1 : Int32)) - (1 : Int32))))])) t
                  refine XS.iload X410.here hx rfl (hb hby at_147) rfl ?_
                  show Steps p.tables e below (T410.setTop (mkF m 149 #[.val (.int p0_0), .val (.int p0_1), .val (.int p0_2), .val (.int p0_3), .val (.int p0_4), .val (.int i167), .val (.ref b169), .val (.int (p0_2 &&& (2147483647 : Int32))), .val (.ref b176), .val (.int i205), .val (.int i208), .val (.int (own_F9 (p0_4 &&& (3 : Int32)) i208)), .val (.ref b383), .unset] [(.int (own_F9 (p0_4 &&& (3 : Int32)) i208)), (.int (own_F8 (((if i167 = (0 : Int32) then (3 : Int32) else (2 : Int32)) - (1 : Int32)) - (1 : Int32))))])) t
                  refine XS.iload X410.here hx rfl (hb hby at_149) rfl ?_
                  show Steps p.tables e below (T410.setTop (mkF m 151 #[.val (.int p0_0), .val (.int p0_1), .val (.int p0_2), .val (.int p0_3), .val (.int p0_4), .val (.int i167), .val (.ref b169), .val (.int (p0_2 &&& (2147483647 : Int32))), .val (.ref b176), .val (.int i205), .val (.int i208), .val (.int (own_F9 (p0_4 &&& (3 : Int32)) i208)), .val (.ref b383), .unset] [(.int i208), (.int (own_F9 (p0_4 &&& (3 : Int32)) i208)), (.int (own_F8 (((if i167 = (0 : Int32) then (3 : Int32) else (2 : Int32)) - (1 : Int32)) - (1 : Int32))))])) t
                  exact k
                have J0_15 : ∀ (T414 : State) (L414 : List Loc) (i413 : Int32), Stand p l e room_1 s m #[(.int p0_0), (.int p0_1), (.int p0_2), (.int p0_3), (.int p0_4)] below meth c T414 L414 6 21 → T414.heap = T383.heap → Fr n0 L414 → own_Go p e below (own_P s below room_1 (own_Q0 (own_F0_159_15 p0_0 p0_1 p0_2 p0_3 p0_4 i167 i202 i205 i208 i413) h0 n0)) T414 (mkF m 159 #[.val (.int p0_0), .val (.int p0_1), .val (.int p0_2), .val (.int p0_3), .val (.int p0_4), .val (.int i167), .val (.ref b169), .val (.int (p0_2 &&& (2147483647 : Int32))), .val (.ref b176), .val (.int i205), .val (.int i208), .val (.int (own_F9 (p0_4 &&& (3 : Int32)) i208)), .val (.ref b383), .unset] [(.int i413), (.int (own_F8 (((if i167 = (0 : Int32) then (3 : Int32) else (2 : Int32)) - (1 : Int32)) - (1 : Int32))))]) := by
                  intro T414 L414 i413 X414 e414 N414
                  have J0_16 : ∀ (T417 : State) (L417 : List Loc) (i416 : Int32), Stand p l e room_1 s m #[(.int p0_0), (.int p0_1), (.int p0_2), (.int p0_3), (.int p0_4)] below meth c T417 L417 6 21 → T417.heap = T383.heap → Fr n0 L417 → own_Go p e below (own_P s below room_1 (own_Q0 (own_F0_167_16 p0_0 p0_1 p0_2 p0_3 p0_4 i167 i202 i205 i208 i413 i416) h0 n0)) T417 (mkF m 167 #[.val (.int p0_0), .val (.int p0_1), .val (.int p0_2), .val (.int p0_3), .val (.int p0_4), .val (.int i167), .val (.ref b169), .val (.int (p0_2 &&& (2147483647 : Int32))), .val (.ref b176), .val (.int i205), .val (.int i208), .val (.int (own_F9 (p0_4 &&& (3 : Int32)) i208)), .val (.ref b383), .unset] [(.int i416)]) := by
                    intro T417 L417 i416 X417 e417 N417
                    refine own_by (T' := T417) (g' := (mkF m 171 #[.val (.int p0_0), .val (.int p0_1), .val (.int p0_2), .val (.int p0_3), .val (.int p0_4), .val (.int i167), .val (.ref b169), .val (.int (p0_2 &&& (2147483647 : Int32))), .val (.ref b176), .val (.int i205), .val (.int i208), .val (.int (own_F9 (p0_4 &&& (3 : Int32)) i208)), .val (.ref b383), .val (.int i416)] [(.int i205)])) (fun t k => ?_) ?_
                    · show Steps p.tables e below (T417.setTop (mkF m 167 #[.val (.int p0_0), .val (.int p0_1), .val (.int p0_2), .val (.int p0_3), .val (.int p0_4), .val (.int i167), .val (.ref b169), .val (.int (p0_2 &&& (2147483647 : Int32))), .val (.ref b176), .val (.int i205), .val (.int i208), .val (.int (own_F9 (p0_4 &&& (3 : Int32)) i208)), .val (.ref b383), .unset] [(.int i416)])) t
                      refine XS.istore X417.here hx rfl (hb hby at_167) rfl (l' := #[.val (.int p0_0), .val (.int p0_1), .val (.int p0_2), .val (.int p0_3), .val (.int p0_4), .val (.int i167), .val (.ref b169), .val (.int (p0_2 &&& (2147483647 : Int32))), .val (.ref b176), .val (.int i205), .val (.int i208), .val (.int (own_F9 (p0_4 &&& (3 : Int32)) i208)), .val (.ref b383), .val (.int i416)]) rfl ?_
                      show Steps p.tables e below (T417.setTop (mkF m 169 #[.val (.int p0_0), .val (.int p0_1), .val (.int p0_2), .val (.int p0_3), .val (.int p0_4), .val (.int i167), .val (.ref b169), .val (.int (p0_2 &&& (2147483647 : Int32))), .val (.ref b176), .val (.int i205), .val (.int i208), .val (.int (own_F9 (p0_4 &&& (3 : Int32)) i208)), .val (.ref b383), .val (.int i416)] [])) t
                      refine XS.iload X417.here hx rfl (hb hby at_169) rfl ?_
                      show Steps p.tables e below (T417.setTop (mkF m 171 #[.val (.int p0_0), .val (.int p0_1), .val (.int p0_2), .val (.int p0_3), .val (.int p0_4), .val (.int i167), .val (.ref b169), .val (.int (p0_2 &&& (2147483647 : Int32))), .val (.ref b176), .val (.int i205), .val (.int i208), .val (.int (own_F9 (p0_4 &&& (3 : Int32)) i208)), .val (.ref b383), .val (.int i416)] [(.int i205)])) t
                      exact k
                    by_cases hc418 : i205 = (0 : Int32)
                    · skip
                      refine own_by (T' := T417) (g' := (mkF m 184 #[.val (.int p0_0), .val (.int p0_1), .val (.int p0_2), .val (.int p0_3), .val (.int p0_4), .val (.int i167), .val (.ref b169), .val (.int (p0_2 &&& (2147483647 : Int32))), .val (.ref b176), .val (.int i205), .val (.int i208), .val (.int (own_F9 (p0_4 &&& (3 : Int32)) i208)), .val (.ref b383), .val (.int i416)] [(.int (0 : Int32))])) (fun t k => ?_) ?_
                      · show Steps p.tables e below (T417.setTop (mkF m 171 #[.val (.int p0_0), .val (.int p0_1), .val (.int p0_2), .val (.int p0_3), .val (.int p0_4), .val (.int i167), .val (.ref b169), .val (.int (p0_2 &&& (2147483647 : Int32))), .val (.ref b176), .val (.int i205), .val (.int i208), .val (.int (own_F9 (p0_4 &&& (3 : Int32)) i208)), .val (.ref b383), .val (.int i416)] [(.int i205)])) t
                        refine XS.ifYes X417.here hx rfl (pc0 := 171) (pc' := 183) rfl (hb hby at_171) rfl ((if0 _ _).trans (teq hc418).1) (by decide) (by decide) ?_
                        show Steps p.tables e below (T417.setTop (mkF m 183 #[.val (.int p0_0), .val (.int p0_1), .val (.int p0_2), .val (.int p0_3), .val (.int p0_4), .val (.int i167), .val (.ref b169), .val (.int (p0_2 &&& (2147483647 : Int32))), .val (.ref b176), .val (.int i205), .val (.int i208), .val (.int (own_F9 (p0_4 &&& (3 : Int32)) i208)), .val (.ref b383), .val (.int i416)] [])) t
                        refine XS.iconst X417.here hx rfl (hb hby at_183) ?_
                        show Steps p.tables e below (T417.setTop (mkF m 184 #[.val (.int p0_0), .val (.int p0_1), .val (.int p0_2), .val (.int p0_3), .val (.int p0_4), .val (.int i167), .val (.ref b169), .val (.int (p0_2 &&& (2147483647 : Int32))), .val (.ref b176), .val (.int i205), .val (.int i208), .val (.int (own_F9 (p0_4 &&& (3 : Int32)) i208)), .val (.ref b383), .val (.int i416)] [(.int (0 : Int32))])) t
                        exact k
                      rw [show own_F0_167_16 p0_0 p0_1 p0_2 p0_3 p0_4 i167 i202 i205 i208 i413 i416 = (0 : Int32) from ((if_pos hc418).trans rfl)]
                      exact own_retN X417 hx (t := .boolean) Bd.returns (by simp) (hb hby at_184) hlk (by decide) (by decide) ⟨rfl, N417⟩
                    · skip
                      refine own_by (T' := T417) (g' := (mkF m 176 #[.val (.int p0_0), .val (.int p0_1), .val (.int p0_2), .val (.int p0_3), .val (.int p0_4), .val (.int i167), .val (.ref b169), .val (.int (p0_2 &&& (2147483647 : Int32))), .val (.ref b176), .val (.int i205), .val (.int i208), .val (.int (own_F9 (p0_4 &&& (3 : Int32)) i208)), .val (.ref b383), .val (.int i416)] [(.int i416)])) (fun t k => ?_) ?_
                      · show Steps p.tables e below (T417.setTop (mkF m 171 #[.val (.int p0_0), .val (.int p0_1), .val (.int p0_2), .val (.int p0_3), .val (.int p0_4), .val (.int i167), .val (.ref b169), .val (.int (p0_2 &&& (2147483647 : Int32))), .val (.ref b176), .val (.int i205), .val (.int i208), .val (.int (own_F9 (p0_4 &&& (3 : Int32)) i208)), .val (.ref b383), .val (.int i416)] [(.int i205)])) t
                        refine XS.ifNo X417.here hx rfl (hb hby at_171) rfl ((if0 _ _).trans (feq hc418).1) ?_
                        show Steps p.tables e below (T417.setTop (mkF m 174 #[.val (.int p0_0), .val (.int p0_1), .val (.int p0_2), .val (.int p0_3), .val (.int p0_4), .val (.int i167), .val (.ref b169), .val (.int (p0_2 &&& (2147483647 : Int32))), .val (.ref b176), .val (.int i205), .val (.int i208), .val (.int (own_F9 (p0_4 &&& (3 : Int32)) i208)), .val (.ref b383), .val (.int i416)] [])) t
                        refine XS.iload X417.here hx rfl (hb hby at_174) rfl ?_
                        show Steps p.tables e below (T417.setTop (mkF m 176 #[.val (.int p0_0), .val (.int p0_1), .val (.int p0_2), .val (.int p0_3), .val (.int p0_4), .val (.int i167), .val (.ref b169), .val (.int (p0_2 &&& (2147483647 : Int32))), .val (.ref b176), .val (.int i205), .val (.int i208), .val (.int (own_F9 (p0_4 &&& (3 : Int32)) i208)), .val (.ref b383), .val (.int i416)] [(.int i416)])) t
                        exact k
                      by_cases hc420 : i416 = (0 : Int32)
                      · skip
                        refine own_by (T' := T417) (g' := (mkF m 184 #[.val (.int p0_0), .val (.int p0_1), .val (.int p0_2), .val (.int p0_3), .val (.int p0_4), .val (.int i167), .val (.ref b169), .val (.int (p0_2 &&& (2147483647 : Int32))), .val (.ref b176), .val (.int i205), .val (.int i208), .val (.int (own_F9 (p0_4 &&& (3 : Int32)) i208)), .val (.ref b383), .val (.int i416)] [(.int (0 : Int32))])) (fun t k => ?_) ?_
                        · show Steps p.tables e below (T417.setTop (mkF m 176 #[.val (.int p0_0), .val (.int p0_1), .val (.int p0_2), .val (.int p0_3), .val (.int p0_4), .val (.int i167), .val (.ref b169), .val (.int (p0_2 &&& (2147483647 : Int32))), .val (.ref b176), .val (.int i205), .val (.int i208), .val (.int (own_F9 (p0_4 &&& (3 : Int32)) i208)), .val (.ref b383), .val (.int i416)] [(.int i416)])) t
                          refine XS.ifYes X417.here hx rfl (pc0 := 176) (pc' := 183) rfl (hb hby at_176) rfl ((if0 _ _).trans (teq hc420).1) (by decide) (by decide) ?_
                          show Steps p.tables e below (T417.setTop (mkF m 183 #[.val (.int p0_0), .val (.int p0_1), .val (.int p0_2), .val (.int p0_3), .val (.int p0_4), .val (.int i167), .val (.ref b169), .val (.int (p0_2 &&& (2147483647 : Int32))), .val (.ref b176), .val (.int i205), .val (.int i208), .val (.int (own_F9 (p0_4 &&& (3 : Int32)) i208)), .val (.ref b383), .val (.int i416)] [])) t
                          refine XS.iconst X417.here hx rfl (hb hby at_183) ?_
                          show Steps p.tables e below (T417.setTop (mkF m 184 #[.val (.int p0_0), .val (.int p0_1), .val (.int p0_2), .val (.int p0_3), .val (.int p0_4), .val (.int i167), .val (.ref b169), .val (.int (p0_2 &&& (2147483647 : Int32))), .val (.ref b176), .val (.int i205), .val (.int i208), .val (.int (own_F9 (p0_4 &&& (3 : Int32)) i208)), .val (.ref b383), .val (.int i416)] [(.int (0 : Int32))])) t
                          exact k
                        rw [show own_F0_167_16 p0_0 p0_1 p0_2 p0_3 p0_4 i167 i202 i205 i208 i413 i416 = (0 : Int32) from ((if_neg hc418).trans ((if_pos hc420).trans rfl))]
                        exact own_retN X417 hx (t := .boolean) Bd.returns (by simp) (hb hby at_184) hlk (by decide) (by decide) ⟨rfl, N417⟩
                      · skip
                        refine own_by (T' := T417) (g' := (mkF m 184 #[.val (.int p0_0), .val (.int p0_1), .val (.int p0_2), .val (.int p0_3), .val (.int p0_4), .val (.int i167), .val (.ref b169), .val (.int (p0_2 &&& (2147483647 : Int32))), .val (.ref b176), .val (.int i205), .val (.int i208), .val (.int (own_F9 (p0_4 &&& (3 : Int32)) i208)), .val (.ref b383), .val (.int i416)] [(.int (1 : Int32))])) (fun t k => ?_) ?_
                        · show Steps p.tables e below (T417.setTop (mkF m 176 #[.val (.int p0_0), .val (.int p0_1), .val (.int p0_2), .val (.int p0_3), .val (.int p0_4), .val (.int i167), .val (.ref b169), .val (.int (p0_2 &&& (2147483647 : Int32))), .val (.ref b176), .val (.int i205), .val (.int i208), .val (.int (own_F9 (p0_4 &&& (3 : Int32)) i208)), .val (.ref b383), .val (.int i416)] [(.int i416)])) t
                          refine XS.ifNo X417.here hx rfl (hb hby at_176) rfl ((if0 _ _).trans (feq hc420).1) ?_
                          show Steps p.tables e below (T417.setTop (mkF m 179 #[.val (.int p0_0), .val (.int p0_1), .val (.int p0_2), .val (.int p0_3), .val (.int p0_4), .val (.int i167), .val (.ref b169), .val (.int (p0_2 &&& (2147483647 : Int32))), .val (.ref b176), .val (.int i205), .val (.int i208), .val (.int (own_F9 (p0_4 &&& (3 : Int32)) i208)), .val (.ref b383), .val (.int i416)] [])) t
                          refine XS.iconst X417.here hx rfl (hb hby at_179) ?_
                          show Steps p.tables e below (T417.setTop (mkF m 180 #[.val (.int p0_0), .val (.int p0_1), .val (.int p0_2), .val (.int p0_3), .val (.int p0_4), .val (.int i167), .val (.ref b169), .val (.int (p0_2 &&& (2147483647 : Int32))), .val (.ref b176), .val (.int i205), .val (.int i208), .val (.int (own_F9 (p0_4 &&& (3 : Int32)) i208)), .val (.ref b383), .val (.int i416)] [(.int (1 : Int32))])) t
                          refine XS.goto X417.here hx rfl (pc0 := 180) (pc' := 184) rfl (hb hby at_180) (by decide) (by decide) ?_
                          show Steps p.tables e below (T417.setTop (mkF m 184 #[.val (.int p0_0), .val (.int p0_1), .val (.int p0_2), .val (.int p0_3), .val (.int p0_4), .val (.int i167), .val (.ref b169), .val (.int (p0_2 &&& (2147483647 : Int32))), .val (.ref b176), .val (.int i205), .val (.int i208), .val (.int (own_F9 (p0_4 &&& (3 : Int32)) i208)), .val (.ref b383), .val (.int i416)] [(.int (1 : Int32))])) t
                          exact k
                        rw [show own_F0_167_16 p0_0 p0_1 p0_2 p0_3 p0_4 i167 i202 i205 i208 i413 i416 = (1 : Int32) from ((if_neg hc418).trans ((if_neg hc420).trans rfl))]
                        exact own_retN X417 hx (t := .boolean) Bd.returns (by simp) (hb hby at_184) hlk (by decide) (by decide) ⟨rfl, N417⟩
                  by_cases hc415 : (own_F8 (((if i167 = (0 : Int32) then (3 : Int32) else (2 : Int32)) - (1 : Int32)) - (1 : Int32))) = i413
                  · skip
                    refine own_by (T' := T414) (g' := (mkF m 167 #[.val (.int p0_0), .val (.int p0_1), .val (.int p0_2), .val (.int p0_3), .val (.int p0_4), .val (.int i167), .val (.ref b169), .val (.int (p0_2 &&& (2147483647 : Int32))), .val (.ref b176), .val (.int i205), .val (.int i208), .val (.int (own_F9 (p0_4 &&& (3 : Int32)) i208)), .val (.ref b383), .unset] [(.int (1 : Int32))])) (fun t k => ?_) ?_
                    · show Steps p.tables e below (T414.setTop (mkF m 159 #[.val (.int p0_0), .val (.int p0_1), .val (.int p0_2), .val (.int p0_3), .val (.int p0_4), .val (.int i167), .val (.ref b169), .val (.int (p0_2 &&& (2147483647 : Int32))), .val (.ref b176), .val (.int i205), .val (.int i208), .val (.int (own_F9 (p0_4 &&& (3 : Int32)) i208)), .val (.ref b383), .unset] [(.int i413), (.int (own_F8 (((if i167 = (0 : Int32) then (3 : Int32) else (2 : Int32)) - (1 : Int32)) - (1 : Int32))))])) t
                      refine XS.icmpNo X414.here hx rfl (hb hby at_159) rfl (teq hc415).2 ?_
                      show Steps p.tables e below (T414.setTop (mkF m 162 #[.val (.int p0_0), .val (.int p0_1), .val (.int p0_2), .val (.int p0_3), .val (.int p0_4), .val (.int i167), .val (.ref b169), .val (.int (p0_2 &&& (2147483647 : Int32))), .val (.ref b176), .val (.int i205), .val (.int i208), .val (.int (own_F9 (p0_4 &&& (3 : Int32)) i208)), .val (.ref b383), .unset] [])) t
                      refine XS.iconst X414.here hx rfl (hb hby at_162) ?_
                      show Steps p.tables e below (T414.setTop (mkF m 163 #[.val (.int p0_0), .val (.int p0_1), .val (.int p0_2), .val (.int p0_3), .val (.int p0_4), .val (.int i167), .val (.ref b169), .val (.int (p0_2 &&& (2147483647 : Int32))), .val (.ref b176), .val (.int i205), .val (.int i208), .val (.int (own_F9 (p0_4 &&& (3 : Int32)) i208)), .val (.ref b383), .unset] [(.int (1 : Int32))])) t
                      refine XS.goto X414.here hx rfl (pc0 := 163) (pc' := 167) rfl (hb hby at_163) (by decide) (by decide) ?_
                      show Steps p.tables e below (T414.setTop (mkF m 167 #[.val (.int p0_0), .val (.int p0_1), .val (.int p0_2), .val (.int p0_3), .val (.int p0_4), .val (.int i167), .val (.ref b169), .val (.int (p0_2 &&& (2147483647 : Int32))), .val (.ref b176), .val (.int i205), .val (.int i208), .val (.int (own_F9 (p0_4 &&& (3 : Int32)) i208)), .val (.ref b383), .unset] [(.int (1 : Int32))])) t
                      exact k
                    rw [show own_F0_159_15 p0_0 p0_1 p0_2 p0_3 p0_4 i167 i202 i205 i208 i413 = (own_F0_167_16 p0_0 p0_1 p0_2 p0_3 p0_4 i167 i202 i205 i208 i413 (1 : Int32)) from ((if_pos hc415).trans rfl)]
                    exact J0_16 _ _ (1 : Int32) X414 e414 N414
                  · skip
                    refine own_by (T' := T414) (g' := (mkF m 167 #[.val (.int p0_0), .val (.int p0_1), .val (.int p0_2), .val (.int p0_3), .val (.int p0_4), .val (.int i167), .val (.ref b169), .val (.int (p0_2 &&& (2147483647 : Int32))), .val (.ref b176), .val (.int i205), .val (.int i208), .val (.int (own_F9 (p0_4 &&& (3 : Int32)) i208)), .val (.ref b383), .unset] [(.int (0 : Int32))])) (fun t k => ?_) ?_
                    · show Steps p.tables e below (T414.setTop (mkF m 159 #[.val (.int p0_0), .val (.int p0_1), .val (.int p0_2), .val (.int p0_3), .val (.int p0_4), .val (.int i167), .val (.ref b169), .val (.int (p0_2 &&& (2147483647 : Int32))), .val (.ref b176), .val (.int i205), .val (.int i208), .val (.int (own_F9 (p0_4 &&& (3 : Int32)) i208)), .val (.ref b383), .unset] [(.int i413), (.int (own_F8 (((if i167 = (0 : Int32) then (3 : Int32) else (2 : Int32)) - (1 : Int32)) - (1 : Int32))))])) t
                      refine XS.icmpYes X414.here hx rfl (pc0 := 159) (pc' := 166) rfl (hb hby at_159) rfl (feq hc415).2 (by decide) (by decide) ?_
                      show Steps p.tables e below (T414.setTop (mkF m 166 #[.val (.int p0_0), .val (.int p0_1), .val (.int p0_2), .val (.int p0_3), .val (.int p0_4), .val (.int i167), .val (.ref b169), .val (.int (p0_2 &&& (2147483647 : Int32))), .val (.ref b176), .val (.int i205), .val (.int i208), .val (.int (own_F9 (p0_4 &&& (3 : Int32)) i208)), .val (.ref b383), .unset] [])) t
                      refine XS.iconst X414.here hx rfl (hb hby at_166) ?_
                      show Steps p.tables e below (T414.setTop (mkF m 167 #[.val (.int p0_0), .val (.int p0_1), .val (.int p0_2), .val (.int p0_3), .val (.int p0_4), .val (.int i167), .val (.ref b169), .val (.int (p0_2 &&& (2147483647 : Int32))), .val (.ref b176), .val (.int i205), .val (.int i208), .val (.int (own_F9 (p0_4 &&& (3 : Int32)) i208)), .val (.ref b383), .unset] [(.int (0 : Int32))])) t
                      exact k
                    rw [show own_F0_159_15 p0_0 p0_1 p0_2 p0_3 p0_4 i167 i202 i205 i208 i413 = (own_F0_167_16 p0_0 p0_1 p0_2 p0_3 p0_4 i167 i202 i205 i208 i413 (0 : Int32)) from ((if_neg hc415).trans rfl)]
                    exact J0_16 _ _ (0 : Int32) X414 e414 N414
                by_cases hc412 : (own_F9 (p0_4 &&& (3 : Int32)) i208) = i208
                · skip
                  refine own_by (T' := T410) (g' := (mkF m 159 #[.val (.int p0_0), .val (.int p0_1), .val (.int p0_2), .val (.int p0_3), .val (.int p0_4), .val (.int i167), .val (.ref b169), .val (.int (p0_2 &&& (2147483647 : Int32))), .val (.ref b176), .val (.int i205), .val (.int i208), .val (.int (own_F9 (p0_4 &&& (3 : Int32)) i208)), .val (.ref b383), .unset] [(.int (1 : Int32)), (.int (own_F8 (((if i167 = (0 : Int32) then (3 : Int32) else (2 : Int32)) - (1 : Int32)) - (1 : Int32))))])) (fun t k => ?_) ?_
                  · show Steps p.tables e below (T410.setTop (mkF m 151 #[.val (.int p0_0), .val (.int p0_1), .val (.int p0_2), .val (.int p0_3), .val (.int p0_4), .val (.int i167), .val (.ref b169), .val (.int (p0_2 &&& (2147483647 : Int32))), .val (.ref b176), .val (.int i205), .val (.int i208), .val (.int (own_F9 (p0_4 &&& (3 : Int32)) i208)), .val (.ref b383), .unset] [(.int i208), (.int (own_F9 (p0_4 &&& (3 : Int32)) i208)), (.int (own_F8 (((if i167 = (0 : Int32) then (3 : Int32) else (2 : Int32)) - (1 : Int32)) - (1 : Int32))))])) t
                    refine XS.icmpNo X410.here hx rfl (hb hby at_151) rfl (teq hc412).2 ?_
                    show Steps p.tables e below (T410.setTop (mkF m 154 #[.val (.int p0_0), .val (.int p0_1), .val (.int p0_2), .val (.int p0_3), .val (.int p0_4), .val (.int i167), .val (.ref b169), .val (.int (p0_2 &&& (2147483647 : Int32))), .val (.ref b176), .val (.int i205), .val (.int i208), .val (.int (own_F9 (p0_4 &&& (3 : Int32)) i208)), .val (.ref b383), .unset] [(.int (own_F8 (((if i167 = (0 : Int32) then (3 : Int32) else (2 : Int32)) - (1 : Int32)) - (1 : Int32))))])) t
                    refine XS.iconst X410.here hx rfl (hb hby at_154) ?_
                    show Steps p.tables e below (T410.setTop (mkF m 155 #[.val (.int p0_0), .val (.int p0_1), .val (.int p0_2), .val (.int p0_3), .val (.int p0_4), .val (.int i167), .val (.ref b169), .val (.int (p0_2 &&& (2147483647 : Int32))), .val (.ref b176), .val (.int i205), .val (.int i208), .val (.int (own_F9 (p0_4 &&& (3 : Int32)) i208)), .val (.ref b383), .unset] [(.int (1 : Int32)), (.int (own_F8 (((if i167 = (0 : Int32) then (3 : Int32) else (2 : Int32)) - (1 : Int32)) - (1 : Int32))))])) t
                    refine XS.goto X410.here hx rfl (pc0 := 155) (pc' := 159) rfl (hb hby at_155) (by decide) (by decide) ?_
                    show Steps p.tables e below (T410.setTop (mkF m 159 #[.val (.int p0_0), .val (.int p0_1), .val (.int p0_2), .val (.int p0_3), .val (.int p0_4), .val (.int i167), .val (.ref b169), .val (.int (p0_2 &&& (2147483647 : Int32))), .val (.ref b176), .val (.int i205), .val (.int i208), .val (.int (own_F9 (p0_4 &&& (3 : Int32)) i208)), .val (.ref b383), .unset] [(.int (1 : Int32)), (.int (own_F8 (((if i167 = (0 : Int32) then (3 : Int32) else (2 : Int32)) - (1 : Int32)) - (1 : Int32))))])) t
                    exact k
                  rw [show own_F0_81_4 p0_0 p0_1 p0_2 p0_3 p0_4 i167 i202 i205 i208 = (own_F0_159_15 p0_0 p0_1 p0_2 p0_3 p0_4 i167 i202 i205 i208 (1 : Int32)) from ((if_neg hc229).trans ((if_pos hc370).trans ((if_neg hc371).trans ((if_pos hc412).trans rfl))))]
                  exact J0_15 _ _ (1 : Int32) X410 e410 N411
                · skip
                  refine own_by (T' := T410) (g' := (mkF m 159 #[.val (.int p0_0), .val (.int p0_1), .val (.int p0_2), .val (.int p0_3), .val (.int p0_4), .val (.int i167), .val (.ref b169), .val (.int (p0_2 &&& (2147483647 : Int32))), .val (.ref b176), .val (.int i205), .val (.int i208), .val (.int (own_F9 (p0_4 &&& (3 : Int32)) i208)), .val (.ref b383), .unset] [(.int (0 : Int32)), (.int (own_F8 (((if i167 = (0 : Int32) then (3 : Int32) else (2 : Int32)) - (1 : Int32)) - (1 : Int32))))])) (fun t k => ?_) ?_
                  · show Steps p.tables e below (T410.setTop (mkF m 151 #[.val (.int p0_0), .val (.int p0_1), .val (.int p0_2), .val (.int p0_3), .val (.int p0_4), .val (.int i167), .val (.ref b169), .val (.int (p0_2 &&& (2147483647 : Int32))), .val (.ref b176), .val (.int i205), .val (.int i208), .val (.int (own_F9 (p0_4 &&& (3 : Int32)) i208)), .val (.ref b383), .unset] [(.int i208), (.int (own_F9 (p0_4 &&& (3 : Int32)) i208)), (.int (own_F8 (((if i167 = (0 : Int32) then (3 : Int32) else (2 : Int32)) - (1 : Int32)) - (1 : Int32))))])) t
                    refine XS.icmpYes X410.here hx rfl (pc0 := 151) (pc' := 158) rfl (hb hby at_151) rfl (feq hc412).2 (by decide) (by decide) ?_
                    show Steps p.tables e below (T410.setTop (mkF m 158 #[.val (.int p0_0), .val (.int p0_1), .val (.int p0_2), .val (.int p0_3), .val (.int p0_4), .val (.int i167), .val (.ref b169), .val (.int (p0_2 &&& (2147483647 : Int32))), .val (.ref b176), .val (.int i205), .val (.int i208), .val (.int (own_F9 (p0_4 &&& (3 : Int32)) i208)), .val (.ref b383), .unset] [(.int (own_F8 (((if i167 = (0 : Int32) then (3 : Int32) else (2 : Int32)) - (1 : Int32)) - (1 : Int32))))])) t
                    refine XS.iconst X410.here hx rfl (hb hby at_158) ?_
                    show Steps p.tables e below (T410.setTop (mkF m 159 #[.val (.int p0_0), .val (.int p0_1), .val (.int p0_2), .val (.int p0_3), .val (.int p0_4), .val (.int i167), .val (.ref b169), .val (.int (p0_2 &&& (2147483647 : Int32))), .val (.ref b176), .val (.int i205), .val (.int i208), .val (.int (own_F9 (p0_4 &&& (3 : Int32)) i208)), .val (.ref b383), .unset] [(.int (0 : Int32)), (.int (own_F8 (((if i167 = (0 : Int32) then (3 : Int32) else (2 : Int32)) - (1 : Int32)) - (1 : Int32))))])) t
                    exact k
                  rw [show own_F0_81_4 p0_0 p0_1 p0_2 p0_3 p0_4 i167 i202 i205 i208 = (own_F0_159_15 p0_0 p0_1 p0_2 p0_3 p0_4 i167 i202 i205 i208 (0 : Int32)) from ((if_neg hc229).trans ((if_pos hc370).trans ((if_neg hc371).trans ((if_neg hc412).trans rfl))))]
                  exact J0_15 _ _ (0 : Int32) X410 e410 N411
            · skip
              refine own_by (T' := T348) (g' := (mkF m 124 #[.val (.int p0_0), .val (.int p0_1), .val (.int p0_2), .val (.int p0_3), .val (.int p0_4), .val (.int i167), .val (.ref b169), .val (.int (p0_2 &&& (2147483647 : Int32))), .val (.ref b176), .val (.int i205), .val (.int i208), .val (.int (own_F9 (p0_4 &&& (3 : Int32)) i208)), .val (.ref b348), .unset] [(.ref b348)])) (fun t k => ?_) ?_
              · show Steps p.tables e below (T348.setTop (mkF m 119 #[.val (.int p0_0), .val (.int p0_1), .val (.int p0_2), .val (.int p0_3), .val (.int p0_4), .val (.int i167), .val (.ref b169), .val (.int (p0_2 &&& (2147483647 : Int32))), .val (.ref b176), .val (.int i205), .val (.int i208), .val (.int (own_F9 (p0_4 &&& (3 : Int32)) i208)), .val (.ref b348), .unset] [(.int (2 : Int32)), (.int (own_F9 (p0_4 &&& (3 : Int32)) i208))])) t
                refine XS.icmpNo X348.here hx rfl (hb hby at_119) rfl (flt hc370).1 ?_
                show Steps p.tables e below (T348.setTop (mkF m 122 #[.val (.int p0_0), .val (.int p0_1), .val (.int p0_2), .val (.int p0_3), .val (.int p0_4), .val (.int i167), .val (.ref b169), .val (.int (p0_2 &&& (2147483647 : Int32))), .val (.ref b176), .val (.int i205), .val (.int i208), .val (.int (own_F9 (p0_4 &&& (3 : Int32)) i208)), .val (.ref b348), .unset] [])) t
                refine XS.aload X348.here hx rfl (hb hby at_122) rfl rfl ?_
                show Steps p.tables e below (T348.setTop (mkF m 124 #[.val (.int p0_0), .val (.int p0_1), .val (.int p0_2), .val (.int p0_3), .val (.int p0_4), .val (.int i167), .val (.ref b169), .val (.int (p0_2 &&& (2147483647 : Int32))), .val (.ref b176), .val (.int i205), .val (.int i208), .val (.int (own_F9 (p0_4 &&& (3 : Int32)) i208)), .val (.ref b348), .unset] [(.ref b348)])) t
                exact k
              obtain ⟨cq421, kq421, q421a, q421b, q421c⟩ := isOf hZ rfl f349
              obtain ⟨v421, _, ⟨T421, L421, k421, n421⟩, -, X421, ⟨Lc421, hQ421, l421, y421, z421⟩, st421⟩ := X348.virtualBack hx (y := (⟨"com/example/topping_out/toppingout/game/Player", "lessACertificate", "()Lcom/example/topping_out/toppingout/game/Player;"⟩ : MethodName)) (z := (⟨"com/example/topping_out/toppingout/game/Player", "lessACertificate", "()Lcom/example/topping_out/toppingout/game/Player;"⟩ : MethodName)) hown (mvT hZ (hw _ (List.mem_of_getElem? (i := 61) rfl))) (mvT hZ (hw _ (List.mem_of_getElem? (i := 62) rfl))) (notFace_of_selects (args := #[]) (mvT hZ (hw _ (List.mem_of_getElem? (i := 64) rfl)))) (mvT hZ (hw _ (List.mem_of_getElem? (i := 64) rfl))) (mvT hZ (hw _ (List.mem_of_getElem? (i := 63) rfl))) (by decide) (backOf (W := 0) (own_rm11 l Z a0 hw [] b348 b169 (nar .boolean (nar .boolean i167)) ((if i167 = (0 : Int32) then (3 : Int32) else (2 : Int32)) - (1 : Int32)) (0 : Int32) T348.heap n0 Z368 f350 f351 f352 f353) hZ (hw _ (List.mem_of_getElem? (i := 65) rfl)) (hw _ (List.mem_of_getElem? (i := 29) rfl)) (by decide) (by decide)) q421a q421c (g := (mkF m 124 #[.val (.int p0_0), .val (.int p0_1), .val (.int p0_2), .val (.int p0_3), .val (.int p0_4), .val (.int i167), .val (.ref b169), .val (.int (p0_2 &&& (2147483647 : Int32))), .val (.ref b176), .val (.int i205), .val (.int i208), .val (.int (own_F9 (p0_4 &&& (3 : Int32)) i208)), .val (.ref b348), .unset] [(.ref b348)])) rfl (by rw [hml]; rfl) (Steps.refl _) (argsL := []) (rest := []) (lenOf pd___Lcom_example_topping_out_toppingout_game_Player_ rfl) rfl (by show 2 * 0 + _ ≤ _; exact Nat.le_of_eq rfl) (hb hby at_124) (fun _ _ => ⟨rfl, rfl, (by decide : 5 + 1 ≤ _), (by decide : 17 + 4 ≤ _)⟩)
              dsimp only [Pt.U, Pt.locs, Pt.cells, Pt.slots] at X421 l421 y421 z421 st421 hQ421
              subst l421 y421 z421
              obtain ⟨b421, rfl, M421, K421, sz421, gn421, f422, f423, f424, f425, f426⟩ := hQ421
              have f427 := f354.keep K421
              have f428 := f355.keep K421 nin0
              have f429 := f356.keep K421
              have f430 := f357.keep K421 nin0
              have f431 := f358.keep K421 nin0
              have f432 := f359.keep K421 nin0
              have f433 := f360.keep K421 nin0
              have f434 := f361.keep K421
              have f435 := f362.keep K421 nin0
              have f436 := f363.keep K421 nin0
              have f437 := f364.keep K421 nin0
              have f438 := f365.keep K421 nin0
              have f439 := f349.keep K421
              have f440 := f350.keep K421 nin0
              have f441 := f351.keep K421 nin0
              have f442 := f352.keep K421 nin0
              have f443 := f353.keep K421 nin0
              have K444 : Keep h0 T421.heap [] := K366.trans K421 all0
              have O445 := O367.keep K421 all0
              have Z446 := Nat.le_trans Z368 K421.1
              have sz_b421 : h0.size ≤ b421 := Nat.le_trans K366.1 sz421
              have ne_b169_b421 : b169 ≠ b421 := Nat.ne_of_lt (Nat.lt_of_lt_of_le f355.lt sz421)
              have ne_b176_b421 : b176 ≠ b421 := Nat.ne_of_lt (Nat.lt_of_lt_of_le f360.lt sz421)
              have ne_b212_b421 : b212 ≠ b421 := Nat.ne_of_lt (Nat.lt_of_lt_of_le f365.lt sz421)
              have ne_b348_b421 : b348 ≠ b421 := Nat.ne_of_lt (Nat.lt_of_lt_of_le f353.lt sz421)
              have N447 := Fr.app N369 M421
              refine own_via (T' := T421) (g' := (mkF m 127 #[.val (.int p0_0), .val (.int p0_1), .val (.int p0_2), .val (.int p0_3), .val (.int p0_4), .val (.int i167), .val (.ref b169), .val (.int (p0_2 &&& (2147483647 : Int32))), .val (.ref b176), .val (.int i205), .val (.int i208), .val (.int (own_F9 (p0_4 &&& (3 : Int32)) i208)), .val (.ref b348), .unset] [(.ref b421)])) st421 ?_
              refine own_by (T' := T421) (g' := (mkF m 132 #[.val (.int p0_0), .val (.int p0_1), .val (.int p0_2), .val (.int p0_3), .val (.int p0_4), .val (.int i167), .val (.ref b169), .val (.int (p0_2 &&& (2147483647 : Int32))), .val (.ref b176), .val (.int i205), .val (.int i208), .val (.int (own_F9 (p0_4 &&& (3 : Int32)) i208)), .val (.ref b421), .unset] [(.int (3 : Int32)), (.int (own_F9 (p0_4 &&& (3 : Int32)) i208))])) (fun t k => ?_) ?_
              · show Steps p.tables e below (T421.setTop (mkF m 127 #[.val (.int p0_0), .val (.int p0_1), .val (.int p0_2), .val (.int p0_3), .val (.int p0_4), .val (.int i167), .val (.ref b169), .val (.int (p0_2 &&& (2147483647 : Int32))), .val (.ref b176), .val (.int i205), .val (.int i208), .val (.int (own_F9 (p0_4 &&& (3 : Int32)) i208)), .val (.ref b348), .unset] [(.ref b421)])) t
                refine XS.astore X421.here hx rfl (hb hby at_127) rfl rfl (l' := #[.val (.int p0_0), .val (.int p0_1), .val (.int p0_2), .val (.int p0_3), .val (.int p0_4), .val (.int i167), .val (.ref b169), .val (.int (p0_2 &&& (2147483647 : Int32))), .val (.ref b176), .val (.int i205), .val (.int i208), .val (.int (own_F9 (p0_4 &&& (3 : Int32)) i208)), .val (.ref b421), .unset]) rfl ?_
                show Steps p.tables e below (T421.setTop (mkF m 129 #[.val (.int p0_0), .val (.int p0_1), .val (.int p0_2), .val (.int p0_3), .val (.int p0_4), .val (.int i167), .val (.ref b169), .val (.int (p0_2 &&& (2147483647 : Int32))), .val (.ref b176), .val (.int i205), .val (.int i208), .val (.int (own_F9 (p0_4 &&& (3 : Int32)) i208)), .val (.ref b421), .unset] [])) t
                refine XS.iload X421.here hx rfl (hb hby at_129) rfl ?_
                show Steps p.tables e below (T421.setTop (mkF m 131 #[.val (.int p0_0), .val (.int p0_1), .val (.int p0_2), .val (.int p0_3), .val (.int p0_4), .val (.int i167), .val (.ref b169), .val (.int (p0_2 &&& (2147483647 : Int32))), .val (.ref b176), .val (.int i205), .val (.int i208), .val (.int (own_F9 (p0_4 &&& (3 : Int32)) i208)), .val (.ref b421), .unset] [(.int (own_F9 (p0_4 &&& (3 : Int32)) i208))])) t
                refine XS.iconst X421.here hx rfl (hb hby at_131) ?_
                show Steps p.tables e below (T421.setTop (mkF m 132 #[.val (.int p0_0), .val (.int p0_1), .val (.int p0_2), .val (.int p0_3), .val (.int p0_4), .val (.int i167), .val (.ref b169), .val (.int (p0_2 &&& (2147483647 : Int32))), .val (.ref b176), .val (.int i205), .val (.int i208), .val (.int (own_F9 (p0_4 &&& (3 : Int32)) i208)), .val (.ref b421), .unset] [(.int (3 : Int32)), (.int (own_F9 (p0_4 &&& (3 : Int32)) i208))])) t
                exact k
              by_cases hc448 : (own_F9 (p0_4 &&& (3 : Int32)) i208) < (3 : Int32)
              · skip
                refine own_by (T' := T421) (g' := (mkF m 144 #[.val (.int p0_0), .val (.int p0_1), .val (.int p0_2), .val (.int p0_3), .val (.int p0_4), .val (.int i167), .val (.ref b169), .val (.int (p0_2 &&& (2147483647 : Int32))), .val (.ref b176), .val (.int i205), .val (.int i208), .val (.int (own_F9 (p0_4 &&& (3 : Int32)) i208)), .val (.ref b421), .unset] [(.ref b421)])) (fun t k => ?_) ?_
                · show Steps p.tables e below (T421.setTop (mkF m 132 #[.val (.int p0_0), .val (.int p0_1), .val (.int p0_2), .val (.int p0_3), .val (.int p0_4), .val (.int i167), .val (.ref b169), .val (.int (p0_2 &&& (2147483647 : Int32))), .val (.ref b176), .val (.int i205), .val (.int i208), .val (.int (own_F9 (p0_4 &&& (3 : Int32)) i208)), .val (.ref b421), .unset] [(.int (3 : Int32)), (.int (own_F9 (p0_4 &&& (3 : Int32)) i208))])) t
                  refine XS.icmpYes X421.here hx rfl (pc0 := 132) (pc' := 142) rfl (hb hby at_132) rfl (tlt hc448).1 (by decide) (by decide) ?_
                  show Steps p.tables e below (T421.setTop (mkF m 142 #[.val (.int p0_0), .val (.int p0_1), .val (.int p0_2), .val (.int p0_3), .val (.int p0_4), .val (.int i167), .val (.ref b169), .val (.int (p0_2 &&& (2147483647 : Int32))), .val (.ref b176), .val (.int i205), .val (.int i208), .val (.int (own_F9 (p0_4 &&& (3 : Int32)) i208)), .val (.ref b421), .unset] [])) t
                  refine XS.aload X421.here hx rfl (hb hby at_142) rfl rfl ?_
                  show Steps p.tables e below (T421.setTop (mkF m 144 #[.val (.int p0_0), .val (.int p0_1), .val (.int p0_2), .val (.int p0_3), .val (.int p0_4), .val (.int i167), .val (.ref b169), .val (.int (p0_2 &&& (2147483647 : Int32))), .val (.ref b176), .val (.int i205), .val (.int i208), .val (.int (own_F9 (p0_4 &&& (3 : Int32)) i208)), .val (.ref b421), .unset] [(.ref b421)])) t
                  exact k
                obtain ⟨cq449, kq449, q449a, q449b, q449c⟩ := isOf hZ rfl f422
                obtain ⟨v449, _, ⟨T449, L449, k449, n449⟩, -, X449, ⟨Lc449, hQ449, l449, y449, z449⟩, st449⟩ := X421.virtualBack hx (y := (⟨"com/example/topping_out/toppingout/game/Player", "out", "()Z"⟩ : MethodName)) (z := (⟨"com/example/topping_out/toppingout/game/Player", "out", "()Z"⟩ : MethodName)) hown (mvT hZ (hw _ (List.mem_of_getElem? (i := 47) rfl))) (mvT hZ (hw _ (List.mem_of_getElem? (i := 48) rfl))) (notFace_of_selects (args := #[]) (mvT hZ (hw _ (List.mem_of_getElem? (i := 50) rfl)))) (mvT hZ (hw _ (List.mem_of_getElem? (i := 50) rfl))) (mvT hZ (hw _ (List.mem_of_getElem? (i := 49) rfl))) (by decide) (backOf (W := 0) (own_rm8 l Z a0 hw [] b421 (((if i167 = (0 : Int32) then (3 : Int32) else (2 : Int32)) - (1 : Int32)) - (1 : Int32)) T421.heap n0 Z446 f425) hZ (hw _ (List.mem_of_getElem? (i := 51) rfl)) (hw _ (List.mem_of_getElem? (i := 29) rfl)) (by decide) (by decide)) q449a q449c (g := (mkF m 144 #[.val (.int p0_0), .val (.int p0_1), .val (.int p0_2), .val (.int p0_3), .val (.int p0_4), .val (.int i167), .val (.ref b169), .val (.int (p0_2 &&& (2147483647 : Int32))), .val (.ref b176), .val (.int i205), .val (.int i208), .val (.int (own_F9 (p0_4 &&& (3 : Int32)) i208)), .val (.ref b421), .unset] [(.ref b421)])) rfl (by rw [hml]; rfl) (Steps.refl _) (argsL := []) (rest := []) (lenOf pd___Z rfl) rfl (by show 2 * 0 + _ ≤ _; exact Nat.le_of_eq rfl) (hb hby at_144) (fun _ _ => ⟨rfl, rfl, (by decide : 6 + 0 ≤ _), (by decide : 21 + 0 ≤ _)⟩)
                dsimp only [Pt.U, Pt.locs, Pt.cells, Pt.slots] at X449 l449 y449 z449 st449 hQ449
                subst l449 y449 z449
                obtain ⟨rfl, M449, e449⟩ := hQ449
                have N450 := Fr.app N447 M449
                refine own_via (T' := T449) (g' := (mkF m 147 #[.val (.int p0_0), .val (.int p0_1), .val (.int p0_2), .val (.int p0_3), .val (.int p0_4), .val (.int i167), .val (.ref b169), .val (.int (p0_2 &&& (2147483647 : Int32))), .val (.ref b176), .val (.int i205), .val (.int i208), .val (.int (own_F9 (p0_4 &&& (3 : Int32)) i208)), .val (.ref b421), .unset] [(.int (own_F8 (((if i167 = (0 : Int32) then (3 : Int32) else (2 : Int32)) - (1 : Int32)) - (1 : Int32))))])) st449 ?_
                refine own_by (T' := T449) (g' := (mkF m 151 #[.val (.int p0_0), .val (.int p0_1), .val (.int p0_2), .val (.int p0_3), .val (.int p0_4), .val (.int i167), .val (.ref b169), .val (.int (p0_2 &&& (2147483647 : Int32))), .val (.ref b176), .val (.int i205), .val (.int i208), .val (.int (own_F9 (p0_4 &&& (3 : Int32)) i208)), .val (.ref b421), .unset] [(.int i208), (.int (own_F9 (p0_4 &&& (3 : Int32)) i208)), (.int (own_F8 (((if i167 = (0 : Int32) then (3 : Int32) else (2 : Int32)) - (1 : Int32)) - (1 : Int32))))])) (fun t k => ?_) ?_
                · show Steps p.tables e below (T449.setTop (mkF m 147 #[.val (.int p0_0), .val (.int p0_1), .val (.int p0_2), .val (.int p0_3), .val (.int p0_4), .val (.int i167), .val (.ref b169), .val (.int (p0_2 &&& (2147483647 : Int32))), .val (.ref b176), .val (.int i205), .val (.int i208), .val (.int (own_F9 (p0_4 &&& (3 : Int32)) i208)), .val (.ref b421), .unset] [(.int (own_F8 (((if i167 = (0 : Int32) then (3 : Int32) else (2 : Int32)) - (1 : Int32)) - (1 : Int32))))])) t
                  refine XS.iload X449.here hx rfl (hb hby at_147) rfl ?_
                  show Steps p.tables e below (T449.setTop (mkF m 149 #[.val (.int p0_0), .val (.int p0_1), .val (.int p0_2), .val (.int p0_3), .val (.int p0_4), .val (.int i167), .val (.ref b169), .val (.int (p0_2 &&& (2147483647 : Int32))), .val (.ref b176), .val (.int i205), .val (.int i208), .val (.int (own_F9 (p0_4 &&& (3 : Int32)) i208)), .val (.ref b421), .unset] [(.int (own_F9 (p0_4 &&& (3 : Int32)) i208)), (.int (own_F8 (((if i167 = (0 : Int32) then (3 : Int32) else (2 : Int32)) - (1 : Int32)) - (1 : Int32))))])) t
                  refine XS.iload X449.here hx rfl (hb hby at_149) rfl ?_
                  show Steps p.tables e below (T449.setTop (mkF m 151 #[.val (.int p0_0), .val (.int p0_1), .val (.int p0_2), .val (.int p0_3), .val (.int p0_4), .val (.int i167), .val (.ref b169), .val (.int (p0_2 &&& (2147483647 : Int32))), .val (.ref b176), .val (.int i205), .val (.int i208), .val (.int (own_F9 (p0_4 &&& (3 : Int32)) i208)), .val (.ref b421), .unset] [(.int i208), (.int (own_F9 (p0_4 &&& (3 : Int32)) i208)), (.int (own_F8 (((if i167 = (0 : Int32) then (3 : Int32) else (2 : Int32)) - (1 : Int32)) - (1 : Int32))))])) t
                  exact k
                have J0_17 : ∀ (T453 : State) (L453 : List Loc) (i452 : Int32), Stand p l e room_1 s m #[(.int p0_0), (.int p0_1), (.int p0_2), (.int p0_3), (.int p0_4)] below meth c T453 L453 6 21 → T453.heap = T421.heap → Fr n0 L453 → own_Go p e below (own_P s below room_1 (own_Q0 (own_F0_159_17 p0_0 p0_1 p0_2 p0_3 p0_4 i167 i202 i205 i208 i452) h0 n0)) T453 (mkF m 159 #[.val (.int p0_0), .val (.int p0_1), .val (.int p0_2), .val (.int p0_3), .val (.int p0_4), .val (.int i167), .val (.ref b169), .val (.int (p0_2 &&& (2147483647 : Int32))), .val (.ref b176), .val (.int i205), .val (.int i208), .val (.int (own_F9 (p0_4 &&& (3 : Int32)) i208)), .val (.ref b421), .unset] [(.int i452), (.int (own_F8 (((if i167 = (0 : Int32) then (3 : Int32) else (2 : Int32)) - (1 : Int32)) - (1 : Int32))))]) := by
                  intro T453 L453 i452 X453 e453 N453
                  have J0_18 : ∀ (T456 : State) (L456 : List Loc) (i455 : Int32), Stand p l e room_1 s m #[(.int p0_0), (.int p0_1), (.int p0_2), (.int p0_3), (.int p0_4)] below meth c T456 L456 6 21 → T456.heap = T421.heap → Fr n0 L456 → own_Go p e below (own_P s below room_1 (own_Q0 (own_F0_167_18 p0_0 p0_1 p0_2 p0_3 p0_4 i167 i202 i205 i208 i452 i455) h0 n0)) T456 (mkF m 167 #[.val (.int p0_0), .val (.int p0_1), .val (.int p0_2), .val (.int p0_3), .val (.int p0_4), .val (.int i167), .val (.ref b169), .val (.int (p0_2 &&& (2147483647 : Int32))), .val (.ref b176), .val (.int i205), .val (.int i208), .val (.int (own_F9 (p0_4 &&& (3 : Int32)) i208)), .val (.ref b421), .unset] [(.int i455)]) := by
                    intro T456 L456 i455 X456 e456 N456
                    refine own_by (T' := T456) (g' := (mkF m 171 #[.val (.int p0_0), .val (.int p0_1), .val (.int p0_2), .val (.int p0_3), .val (.int p0_4), .val (.int i167), .val (.ref b169), .val (.int (p0_2 &&& (2147483647 : Int32))), .val (.ref b176), .val (.int i205), .val (.int i208), .val (.int (own_F9 (p0_4 &&& (3 : Int32)) i208)), .val (.ref b421), .val (.int i455)] [(.int i205)])) (fun t k => ?_) ?_
                    · show Steps p.tables e below (T456.setTop (mkF m 167 #[.val (.int p0_0), .val (.int p0_1), .val (.int p0_2), .val (.int p0_3), .val (.int p0_4), .val (.int i167), .val (.ref b169), .val (.int (p0_2 &&& (2147483647 : Int32))), .val (.ref b176), .val (.int i205), .val (.int i208), .val (.int (own_F9 (p0_4 &&& (3 : Int32)) i208)), .val (.ref b421), .unset] [(.int i455)])) t
                      refine XS.istore X456.here hx rfl (hb hby at_167) rfl (l' := #[.val (.int p0_0), .val (.int p0_1), .val (.int p0_2), .val (.int p0_3), .val (.int p0_4), .val (.int i167), .val (.ref b169), .val (.int (p0_2 &&& (2147483647 : Int32))), .val (.ref b176), .val (.int i205), .val (.int i208), .val (.int (own_F9 (p0_4 &&& (3 : Int32)) i208)), .val (.ref b421), .val (.int i455)]) rfl ?_
                      show Steps p.tables e below (T456.setTop (mkF m 169 #[.val (.int p0_0), .val (.int p0_1), .val (.int p0_2), .val (.int p0_3), .val (.int p0_4), .val (.int i167), .val (.ref b169), .val (.int (p0_2 &&& (2147483647 : Int32))), .val (.ref b176), .val (.int i205), .val (.int i208), .val (.int (own_F9 (p0_4 &&& (3 : Int32)) i208)), .val (.ref b421), .val (.int i455)] [])) t
                      refine XS.iload X456.here hx rfl (hb hby at_169) rfl ?_
                      show Steps p.tables e below (T456.setTop (mkF m 171 #[.val (.int p0_0), .val (.int p0_1), .val (.int p0_2), .val (.int p0_3), .val (.int p0_4), .val (.int i167), .val (.ref b169), .val (.int (p0_2 &&& (2147483647 : Int32))), .val (.ref b176), .val (.int i205), .val (.int i208), .val (.int (own_F9 (p0_4 &&& (3 : Int32)) i208)), .val (.ref b421), .val (.int i455)] [(.int i205)])) t
                      exact k
                    by_cases hc457 : i205 = (0 : Int32)
                    · skip
                      refine own_by (T' := T456) (g' := (mkF m 184 #[.val (.int p0_0), .val (.int p0_1), .val (.int p0_2), .val (.int p0_3), .val (.int p0_4), .val (.int i167), .val (.ref b169), .val (.int (p0_2 &&& (2147483647 : Int32))), .val (.ref b176), .val (.int i205), .val (.int i208), .val (.int (own_F9 (p0_4 &&& (3 : Int32)) i208)), .val (.ref b421), .val (.int i455)] [(.int (0 : Int32))])) (fun t k => ?_) ?_
                      · show Steps p.tables e below (T456.setTop (mkF m 171 #[.val (.int p0_0), .val (.int p0_1), .val (.int p0_2), .val (.int p0_3), .val (.int p0_4), .val (.int i167), .val (.ref b169), .val (.int (p0_2 &&& (2147483647 : Int32))), .val (.ref b176), .val (.int i205), .val (.int i208), .val (.int (own_F9 (p0_4 &&& (3 : Int32)) i208)), .val (.ref b421), .val (.int i455)] [(.int i205)])) t
                        refine XS.ifYes X456.here hx rfl (pc0 := 171) (pc' := 183) rfl (hb hby at_171) rfl ((if0 _ _).trans (teq hc457).1) (by decide) (by decide) ?_
                        show Steps p.tables e below (T456.setTop (mkF m 183 #[.val (.int p0_0), .val (.int p0_1), .val (.int p0_2), .val (.int p0_3), .val (.int p0_4), .val (.int i167), .val (.ref b169), .val (.int (p0_2 &&& (2147483647 : Int32))), .val (.ref b176), .val (.int i205), .val (.int i208), .val (.int (own_F9 (p0_4 &&& (3 : Int32)) i208)), .val (.ref b421), .val (.int i455)] [])) t
                        refine XS.iconst X456.here hx rfl (hb hby at_183) ?_
                        show Steps p.tables e below (T456.setTop (mkF m 184 #[.val (.int p0_0), .val (.int p0_1), .val (.int p0_2), .val (.int p0_3), .val (.int p0_4), .val (.int i167), .val (.ref b169), .val (.int (p0_2 &&& (2147483647 : Int32))), .val (.ref b176), .val (.int i205), .val (.int i208), .val (.int (own_F9 (p0_4 &&& (3 : Int32)) i208)), .val (.ref b421), .val (.int i455)] [(.int (0 : Int32))])) t
                        exact k
                      rw [show own_F0_167_18 p0_0 p0_1 p0_2 p0_3 p0_4 i167 i202 i205 i208 i452 i455 = (0 : Int32) from ((if_pos hc457).trans rfl)]
                      exact own_retN X456 hx (t := .boolean) Bd.returns (by simp) (hb hby at_184) hlk (by decide) (by decide) ⟨rfl, N456⟩
                    · skip
                      refine own_by (T' := T456) (g' := (mkF m 176 #[.val (.int p0_0), .val (.int p0_1), .val (.int p0_2), .val (.int p0_3), .val (.int p0_4), .val (.int i167), .val (.ref b169), .val (.int (p0_2 &&& (2147483647 : Int32))), .val (.ref b176), .val (.int i205), .val (.int i208), .val (.int (own_F9 (p0_4 &&& (3 : Int32)) i208)), .val (.ref b421), .val (.int i455)] [(.int i455)])) (fun t k => ?_) ?_
                      · show Steps p.tables e below (T456.setTop (mkF m 171 #[.val (.int p0_0), .val (.int p0_1), .val (.int p0_2), .val (.int p0_3), .val (.int p0_4), .val (.int i167), .val (.ref b169), .val (.int (p0_2 &&& (2147483647 : Int32))), .val (.ref b176), .val (.int i205), .val (.int i208), .val (.int (own_F9 (p0_4 &&& (3 : Int32)) i208)), .val (.ref b421), .val (.int i455)] [(.int i205)])) t
                        refine XS.ifNo X456.here hx rfl (hb hby at_171) rfl ((if0 _ _).trans (feq hc457).1) ?_
                        show Steps p.tables e below (T456.setTop (mkF m 174 #[.val (.int p0_0), .val (.int p0_1), .val (.int p0_2), .val (.int p0_3), .val (.int p0_4), .val (.int i167), .val (.ref b169), .val (.int (p0_2 &&& (2147483647 : Int32))), .val (.ref b176), .val (.int i205), .val (.int i208), .val (.int (own_F9 (p0_4 &&& (3 : Int32)) i208)), .val (.ref b421), .val (.int i455)] [])) t
                        refine XS.iload X456.here hx rfl (hb hby at_174) rfl ?_
                        show Steps p.tables e below (T456.setTop (mkF m 176 #[.val (.int p0_0), .val (.int p0_1), .val (.int p0_2), .val (.int p0_3), .val (.int p0_4), .val (.int i167), .val (.ref b169), .val (.int (p0_2 &&& (2147483647 : Int32))), .val (.ref b176), .val (.int i205), .val (.int i208), .val (.int (own_F9 (p0_4 &&& (3 : Int32)) i208)), .val (.ref b421), .val (.int i455)] [(.int i455)])) t
                        exact k
                      by_cases hc459 : i455 = (0 : Int32)
                      · skip
                        refine own_by (T' := T456) (g' := (mkF m 184 #[.val (.int p0_0), .val (.int p0_1), .val (.int p0_2), .val (.int p0_3), .val (.int p0_4), .val (.int i167), .val (.ref b169), .val (.int (p0_2 &&& (2147483647 : Int32))), .val (.ref b176), .val (.int i205), .val (.int i208), .val (.int (own_F9 (p0_4 &&& (3 : Int32)) i208)), .val (.ref b421), .val (.int i455)] [(.int (0 : Int32))])) (fun t k => ?_) ?_
                        · show Steps p.tables e below (T456.setTop (mkF m 176 #[.val (.int p0_0), .val (.int p0_1), .val (.int p0_2), .val (.int p0_3), .val (.int p0_4), .val (.int i167), .val (.ref b169), .val (.int (p0_2 &&& (2147483647 : Int32))), .val (.ref b176), .val (.int i205), .val (.int i208), .val (.int (own_F9 (p0_4 &&& (3 : Int32)) i208)), .val (.ref b421), .val (.int i455)] [(.int i455)])) t
                          refine XS.ifYes X456.here hx rfl (pc0 := 176) (pc' := 183) rfl (hb hby at_176) rfl ((if0 _ _).trans (teq hc459).1) (by decide) (by decide) ?_
                          show Steps p.tables e below (T456.setTop (mkF m 183 #[.val (.int p0_0), .val (.int p0_1), .val (.int p0_2), .val (.int p0_3), .val (.int p0_4), .val (.int i167), .val (.ref b169), .val (.int (p0_2 &&& (2147483647 : Int32))), .val (.ref b176), .val (.int i205), .val (.int i208), .val (.int (own_F9 (p0_4 &&& (3 : Int32)) i208)), .val (.ref b421), .val (.int i455)] [])) t
                          refine XS.iconst X456.here hx rfl (hb hby at_183) ?_
                          show Steps p.tables e below (T456.setTop (mkF m 184 #[.val (.int p0_0), .val (.int p0_1), .val (.int p0_2), .val (.int p0_3), .val (.int p0_4), .val (.int i167), .val (.ref b169), .val (.int (p0_2 &&& (2147483647 : Int32))), .val (.ref b176), .val (.int i205), .val (.int i208), .val (.int (own_F9 (p0_4 &&& (3 : Int32)) i208)), .val (.ref b421), .val (.int i455)] [(.int (0 : Int32))])) t
                          exact k
                        rw [show own_F0_167_18 p0_0 p0_1 p0_2 p0_3 p0_4 i167 i202 i205 i208 i452 i455 = (0 : Int32) from ((if_neg hc457).trans ((if_pos hc459).trans rfl))]
                        exact own_retN X456 hx (t := .boolean) Bd.returns (by simp) (hb hby at_184) hlk (by decide) (by decide) ⟨rfl, N456⟩
                      · skip
                        refine own_by (T' := T456) (g' := (mkF m 184 #[.val (.int p0_0), .val (.int p0_1), .val (.int p0_2), .val (.int p0_3), .val (.int p0_4), .val (.int i167), .val (.ref b169), .val (.int (p0_2 &&& (2147483647 : Int32))), .val (.ref b176), .val (.int i205), .val (.int i208), .val (.int (own_F9 (p0_4 &&& (3 : Int32)) i208)), .val (.ref b421), .val (.int i455)] [(.int (1 : Int32))])) (fun t k => ?_) ?_
                        · show Steps p.tables e below (T456.setTop (mkF m 176 #[.val (.int p0_0), .val (.int p0_1), .val (.int p0_2), .val (.int p0_3), .val (.int p0_4), .val (.int i167), .val (.ref b169), .val (.int (p0_2 &&& (2147483647 : Int32))), .val (.ref b176), .val (.int i205), .val (.int i208), .val (.int (own_F9 (p0_4 &&& (3 : Int32)) i208)), .val (.ref b421), .val (.int i455)] [(.int i455)])) t
                          refine XS.ifNo X456.here hx rfl (hb hby at_176) rfl ((if0 _ _).trans (feq hc459).1) ?_
                          show Steps p.tables e below (T456.setTop (mkF m 179 #[.val (.int p0_0), .val (.int p0_1), .val (.int p0_2), .val (.int p0_3), .val (.int p0_4), .val (.int i167), .val (.ref b169), .val (.int (p0_2 &&& (2147483647 : Int32))), .val (.ref b176), .val (.int i205), .val (.int i208), .val (.int (own_F9 (p0_4 &&& (3 : Int32)) i208)), .val (.ref b421), .val (.int i455)] [])) t
                          refine XS.iconst X456.here hx rfl (hb hby at_179) ?_
                          show Steps p.tables e below (T456.setTop (mkF m 180 #[.val (.int p0_0), .val (.int p0_1), .val (.int p0_2), .val (.int p0_3), .val (.int p0_4), .val (.int i167), .val (.ref b169), .val (.int (p0_2 &&& (2147483647 : Int32))), .val (.ref b176), .val (.int i205), .val (.int i208), .val (.int (own_F9 (p0_4 &&& (3 : Int32)) i208)), .val (.ref b421), .val (.int i455)] [(.int (1 : Int32))])) t
                          refine XS.goto X456.here hx rfl (pc0 := 180) (pc' := 184) rfl (hb hby at_180) (by decide) (by decide) ?_
                          show Steps p.tables e below (T456.setTop (mkF m 184 #[.val (.int p0_0), .val (.int p0_1), .val (.int p0_2), .val (.int p0_3), .val (.int p0_4), .val (.int i167), .val (.ref b169), .val (.int (p0_2 &&& (2147483647 : Int32))), .val (.ref b176), .val (.int i205), .val (.int i208), .val (.int (own_F9 (p0_4 &&& (3 : Int32)) i208)), .val (.ref b421), .val (.int i455)] [(.int (1 : Int32))])) t
                          exact k
                        rw [show own_F0_167_18 p0_0 p0_1 p0_2 p0_3 p0_4 i167 i202 i205 i208 i452 i455 = (1 : Int32) from ((if_neg hc457).trans ((if_neg hc459).trans rfl))]
                        exact own_retN X456 hx (t := .boolean) Bd.returns (by simp) (hb hby at_184) hlk (by decide) (by decide) ⟨rfl, N456⟩
                  by_cases hc454 : (own_F8 (((if i167 = (0 : Int32) then (3 : Int32) else (2 : Int32)) - (1 : Int32)) - (1 : Int32))) = i452
                  · skip
                    refine own_by (T' := T453) (g' := (mkF m 167 #[.val (.int p0_0), .val (.int p0_1), .val (.int p0_2), .val (.int p0_3), .val (.int p0_4), .val (.int i167), .val (.ref b169), .val (.int (p0_2 &&& (2147483647 : Int32))), .val (.ref b176), .val (.int i205), .val (.int i208), .val (.int (own_F9 (p0_4 &&& (3 : Int32)) i208)), .val (.ref b421), .unset] [(.int (1 : Int32))])) (fun t k => ?_) ?_
                    · show Steps p.tables e below (T453.setTop (mkF m 159 #[.val (.int p0_0), .val (.int p0_1), .val (.int p0_2), .val (.int p0_3), .val (.int p0_4), .val (.int i167), .val (.ref b169), .val (.int (p0_2 &&& (2147483647 : Int32))), .val (.ref b176), .val (.int i205), .val (.int i208), .val (.int (own_F9 (p0_4 &&& (3 : Int32)) i208)), .val (.ref b421), .unset] [(.int i452), (.int (own_F8 (((if i167 = (0 : Int32) then (3 : Int32) else (2 : Int32)) - (1 : Int32)) - (1 : Int32))))])) t
                      refine XS.icmpNo X453.here hx rfl (hb hby at_159) rfl (teq hc454).2 ?_
                      show Steps p.tables e below (T453.setTop (mkF m 162 #[.val (.int p0_0), .val (.int p0_1), .val (.int p0_2), .val (.int p0_3), .val (.int p0_4), .val (.int i167), .val (.ref b169), .val (.int (p0_2 &&& (2147483647 : Int32))), .val (.ref b176), .val (.int i205), .val (.int i208), .val (.int (own_F9 (p0_4 &&& (3 : Int32)) i208)), .val (.ref b421), .unset] [])) t
                      refine XS.iconst X453.here hx rfl (hb hby at_162) ?_
                      show Steps p.tables e below (T453.setTop (mkF m 163 #[.val (.int p0_0), .val (.int p0_1), .val (.int p0_2), .val (.int p0_3), .val (.int p0_4), .val (.int i167), .val (.ref b169), .val (.int (p0_2 &&& (2147483647 : Int32))), .val (.ref b176), .val (.int i205), .val (.int i208), .val (.int (own_F9 (p0_4 &&& (3 : Int32)) i208)), .val (.ref b421), .unset] [(.int (1 : Int32))])) t
                      refine XS.goto X453.here hx rfl (pc0 := 163) (pc' := 167) rfl (hb hby at_163) (by decide) (by decide) ?_
                      show Steps p.tables e below (T453.setTop (mkF m 167 #[.val (.int p0_0), .val (.int p0_1), .val (.int p0_2), .val (.int p0_3), .val (.int p0_4), .val (.int i167), .val (.ref b169), .val (.int (p0_2 &&& (2147483647 : Int32))), .val (.ref b176), .val (.int i205), .val (.int i208), .val (.int (own_F9 (p0_4 &&& (3 : Int32)) i208)), .val (.ref b421), .unset] [(.int (1 : Int32))])) t
                      exact k
                    rw [show own_F0_159_17 p0_0 p0_1 p0_2 p0_3 p0_4 i167 i202 i205 i208 i452 = (own_F0_167_18 p0_0 p0_1 p0_2 p0_3 p0_4 i167 i202 i205 i208 i452 (1 : Int32)) from ((if_pos hc454).trans rfl)]
                    exact J0_18 _ _ (1 : Int32) X453 e453 N453
                  · skip
                    refine own_by (T' := T453) (g' := (mkF m 167 #[.val (.int p0_0), .val (.int p0_1), .val (.int p0_2), .val (.int p0_3), .val (.int p0_4), .val (.int i167), .val (.ref b169), .val (.int (p0_2 &&& (2147483647 : Int32))), .val (.ref b176), .val (.int i205), .val (.int i208), .val (.int (own_F9 (p0_4 &&& (3 : Int32)) i208)), .val (.ref b421), .unset] [(.int (0 : Int32))])) (fun t k => ?_) ?_
                    · show Steps p.tables e below (T453.setTop (mkF m 159 #[.val (.int p0_0), .val (.int p0_1), .val (.int p0_2), .val (.int p0_3), .val (.int p0_4), .val (.int i167), .val (.ref b169), .val (.int (p0_2 &&& (2147483647 : Int32))), .val (.ref b176), .val (.int i205), .val (.int i208), .val (.int (own_F9 (p0_4 &&& (3 : Int32)) i208)), .val (.ref b421), .unset] [(.int i452), (.int (own_F8 (((if i167 = (0 : Int32) then (3 : Int32) else (2 : Int32)) - (1 : Int32)) - (1 : Int32))))])) t
                      refine XS.icmpYes X453.here hx rfl (pc0 := 159) (pc' := 166) rfl (hb hby at_159) rfl (feq hc454).2 (by decide) (by decide) ?_
                      show Steps p.tables e below (T453.setTop (mkF m 166 #[.val (.int p0_0), .val (.int p0_1), .val (.int p0_2), .val (.int p0_3), .val (.int p0_4), .val (.int i167), .val (.ref b169), .val (.int (p0_2 &&& (2147483647 : Int32))), .val (.ref b176), .val (.int i205), .val (.int i208), .val (.int (own_F9 (p0_4 &&& (3 : Int32)) i208)), .val (.ref b421), .unset] [])) t
                      refine XS.iconst X453.here hx rfl (hb hby at_166) ?_
                      show Steps p.tables e below (T453.setTop (mkF m 167 #[.val (.int p0_0), .val (.int p0_1), .val (.int p0_2), .val (.int p0_3), .val (.int p0_4), .val (.int i167), .val (.ref b169), .val (.int (p0_2 &&& (2147483647 : Int32))), .val (.ref b176), .val (.int i205), .val (.int i208), .val (.int (own_F9 (p0_4 &&& (3 : Int32)) i208)), .val (.ref b421), .unset] [(.int (0 : Int32))])) t
                      exact k
                    rw [show own_F0_159_17 p0_0 p0_1 p0_2 p0_3 p0_4 i167 i202 i205 i208 i452 = (own_F0_167_18 p0_0 p0_1 p0_2 p0_3 p0_4 i167 i202 i205 i208 i452 (0 : Int32)) from ((if_neg hc454).trans rfl)]
                    exact J0_18 _ _ (0 : Int32) X453 e453 N453
                by_cases hc451 : (own_F9 (p0_4 &&& (3 : Int32)) i208) = i208
                · skip
                  refine own_by (T' := T449) (g' := (mkF m 159 #[.val (.int p0_0), .val (.int p0_1), .val (.int p0_2), .val (.int p0_3), .val (.int p0_4), .val (.int i167), .val (.ref b169), .val (.int (p0_2 &&& (2147483647 : Int32))), .val (.ref b176), .val (.int i205), .val (.int i208), .val (.int (own_F9 (p0_4 &&& (3 : Int32)) i208)), .val (.ref b421), .unset] [(.int (1 : Int32)), (.int (own_F8 (((if i167 = (0 : Int32) then (3 : Int32) else (2 : Int32)) - (1 : Int32)) - (1 : Int32))))])) (fun t k => ?_) ?_
                  · show Steps p.tables e below (T449.setTop (mkF m 151 #[.val (.int p0_0), .val (.int p0_1), .val (.int p0_2), .val (.int p0_3), .val (.int p0_4), .val (.int i167), .val (.ref b169), .val (.int (p0_2 &&& (2147483647 : Int32))), .val (.ref b176), .val (.int i205), .val (.int i208), .val (.int (own_F9 (p0_4 &&& (3 : Int32)) i208)), .val (.ref b421), .unset] [(.int i208), (.int (own_F9 (p0_4 &&& (3 : Int32)) i208)), (.int (own_F8 (((if i167 = (0 : Int32) then (3 : Int32) else (2 : Int32)) - (1 : Int32)) - (1 : Int32))))])) t
                    refine XS.icmpNo X449.here hx rfl (hb hby at_151) rfl (teq hc451).2 ?_
                    show Steps p.tables e below (T449.setTop (mkF m 154 #[.val (.int p0_0), .val (.int p0_1), .val (.int p0_2), .val (.int p0_3), .val (.int p0_4), .val (.int i167), .val (.ref b169), .val (.int (p0_2 &&& (2147483647 : Int32))), .val (.ref b176), .val (.int i205), .val (.int i208), .val (.int (own_F9 (p0_4 &&& (3 : Int32)) i208)), .val (.ref b421), .unset] [(.int (own_F8 (((if i167 = (0 : Int32) then (3 : Int32) else (2 : Int32)) - (1 : Int32)) - (1 : Int32))))])) t
                    refine XS.iconst X449.here hx rfl (hb hby at_154) ?_
                    show Steps p.tables e below (T449.setTop (mkF m 155 #[.val (.int p0_0), .val (.int p0_1), .val (.int p0_2), .val (.int p0_3), .val (.int p0_4), .val (.int i167), .val (.ref b169), .val (.int (p0_2 &&& (2147483647 : Int32))), .val (.ref b176), .val (.int i205), .val (.int i208), .val (.int (own_F9 (p0_4 &&& (3 : Int32)) i208)), .val (.ref b421), .unset] [(.int (1 : Int32)), (.int (own_F8 (((if i167 = (0 : Int32) then (3 : Int32) else (2 : Int32)) - (1 : Int32)) - (1 : Int32))))])) t
                    refine XS.goto X449.here hx rfl (pc0 := 155) (pc' := 159) rfl (hb hby at_155) (by decide) (by decide) ?_
                    show Steps p.tables e below (T449.setTop (mkF m 159 #[.val (.int p0_0), .val (.int p0_1), .val (.int p0_2), .val (.int p0_3), .val (.int p0_4), .val (.int i167), .val (.ref b169), .val (.int (p0_2 &&& (2147483647 : Int32))), .val (.ref b176), .val (.int i205), .val (.int i208), .val (.int (own_F9 (p0_4 &&& (3 : Int32)) i208)), .val (.ref b421), .unset] [(.int (1 : Int32)), (.int (own_F8 (((if i167 = (0 : Int32) then (3 : Int32) else (2 : Int32)) - (1 : Int32)) - (1 : Int32))))])) t
                    exact k
                  rw [show own_F0_81_4 p0_0 p0_1 p0_2 p0_3 p0_4 i167 i202 i205 i208 = (own_F0_159_17 p0_0 p0_1 p0_2 p0_3 p0_4 i167 i202 i205 i208 (1 : Int32)) from ((if_neg hc229).trans ((if_neg hc370).trans ((if_pos hc448).trans ((if_pos hc451).trans rfl))))]
                  exact J0_17 _ _ (1 : Int32) X449 e449 N450
                · skip
                  refine own_by (T' := T449) (g' := (mkF m 159 #[.val (.int p0_0), .val (.int p0_1), .val (.int p0_2), .val (.int p0_3), .val (.int p0_4), .val (.int i167), .val (.ref b169), .val (.int (p0_2 &&& (2147483647 : Int32))), .val (.ref b176), .val (.int i205), .val (.int i208), .val (.int (own_F9 (p0_4 &&& (3 : Int32)) i208)), .val (.ref b421), .unset] [(.int (0 : Int32)), (.int (own_F8 (((if i167 = (0 : Int32) then (3 : Int32) else (2 : Int32)) - (1 : Int32)) - (1 : Int32))))])) (fun t k => ?_) ?_
                  · show Steps p.tables e below (T449.setTop (mkF m 151 #[.val (.int p0_0), .val (.int p0_1), .val (.int p0_2), .val (.int p0_3), .val (.int p0_4), .val (.int i167), .val (.ref b169), .val (.int (p0_2 &&& (2147483647 : Int32))), .val (.ref b176), .val (.int i205), .val (.int i208), .val (.int (own_F9 (p0_4 &&& (3 : Int32)) i208)), .val (.ref b421), .unset] [(.int i208), (.int (own_F9 (p0_4 &&& (3 : Int32)) i208)), (.int (own_F8 (((if i167 = (0 : Int32) then (3 : Int32) else (2 : Int32)) - (1 : Int32)) - (1 : Int32))))])) t
                    refine XS.icmpYes X449.here hx rfl (pc0 := 151) (pc' := 158) rfl (hb hby at_151) rfl (feq hc451).2 (by decide) (by decide) ?_
                    show Steps p.tables e below (T449.setTop (mkF m 158 #[.val (.int p0_0), .val (.int p0_1), .val (.int p0_2), .val (.int p0_3), .val (.int p0_4), .val (.int i167), .val (.ref b169), .val (.int (p0_2 &&& (2147483647 : Int32))), .val (.ref b176), .val (.int i205), .val (.int i208), .val (.int (own_F9 (p0_4 &&& (3 : Int32)) i208)), .val (.ref b421), .unset] [(.int (own_F8 (((if i167 = (0 : Int32) then (3 : Int32) else (2 : Int32)) - (1 : Int32)) - (1 : Int32))))])) t
                    refine XS.iconst X449.here hx rfl (hb hby at_158) ?_
                    show Steps p.tables e below (T449.setTop (mkF m 159 #[.val (.int p0_0), .val (.int p0_1), .val (.int p0_2), .val (.int p0_3), .val (.int p0_4), .val (.int i167), .val (.ref b169), .val (.int (p0_2 &&& (2147483647 : Int32))), .val (.ref b176), .val (.int i205), .val (.int i208), .val (.int (own_F9 (p0_4 &&& (3 : Int32)) i208)), .val (.ref b421), .unset] [(.int (0 : Int32)), (.int (own_F8 (((if i167 = (0 : Int32) then (3 : Int32) else (2 : Int32)) - (1 : Int32)) - (1 : Int32))))])) t
                    exact k
                  rw [show own_F0_81_4 p0_0 p0_1 p0_2 p0_3 p0_4 i167 i202 i205 i208 = (own_F0_159_17 p0_0 p0_1 p0_2 p0_3 p0_4 i167 i202 i205 i208 (0 : Int32)) from ((if_neg hc229).trans ((if_neg hc370).trans ((if_pos hc448).trans ((if_neg hc451).trans rfl))))]
                  exact J0_17 _ _ (0 : Int32) X449 e449 N450
              · skip
                refine own_by (T' := T421) (g' := (mkF m 137 #[.val (.int p0_0), .val (.int p0_1), .val (.int p0_2), .val (.int p0_3), .val (.int p0_4), .val (.int i167), .val (.ref b169), .val (.int (p0_2 &&& (2147483647 : Int32))), .val (.ref b176), .val (.int i205), .val (.int i208), .val (.int (own_F9 (p0_4 &&& (3 : Int32)) i208)), .val (.ref b421), .unset] [(.ref b421)])) (fun t k => ?_) ?_
                · show Steps p.tables e below (T421.setTop (mkF m 132 #[.val (.int p0_0), .val (.int p0_1), .val (.int p0_2), .val (.int p0_3), .val (.int p0_4), .val (.int i167), .val (.ref b169), .val (.int (p0_2 &&& (2147483647 : Int32))), .val (.ref b176), .val (.int i205), .val (.int i208), .val (.int (own_F9 (p0_4 &&& (3 : Int32)) i208)), .val (.ref b421), .unset] [(.int (3 : Int32)), (.int (own_F9 (p0_4 &&& (3 : Int32)) i208))])) t
                  refine XS.icmpNo X421.here hx rfl (hb hby at_132) rfl (flt hc448).1 ?_
                  show Steps p.tables e below (T421.setTop (mkF m 135 #[.val (.int p0_0), .val (.int p0_1), .val (.int p0_2), .val (.int p0_3), .val (.int p0_4), .val (.int i167), .val (.ref b169), .val (.int (p0_2 &&& (2147483647 : Int32))), .val (.ref b176), .val (.int i205), .val (.int i208), .val (.int (own_F9 (p0_4 &&& (3 : Int32)) i208)), .val (.ref b421), .unset] [])) t
                  refine XS.aload X421.here hx rfl (hb hby at_135) rfl rfl ?_
                  show Steps p.tables e below (T421.setTop (mkF m 137 #[.val (.int p0_0), .val (.int p0_1), .val (.int p0_2), .val (.int p0_3), .val (.int p0_4), .val (.int i167), .val (.ref b169), .val (.int (p0_2 &&& (2147483647 : Int32))), .val (.ref b176), .val (.int i205), .val (.int i208), .val (.int (own_F9 (p0_4 &&& (3 : Int32)) i208)), .val (.ref b421), .unset] [(.ref b421)])) t
                  exact k
                obtain ⟨cq460, kq460, q460a, q460b, q460c⟩ := isOf hZ rfl f422
                obtain ⟨v460, _, ⟨T460, L460, k460, n460⟩, -, X460, ⟨Lc460, hQ460, l460, y460, z460⟩, st460⟩ := X421.virtualBack hx (y := (⟨"com/example/topping_out/toppingout/game/Player", "lessACertificate", "()Lcom/example/topping_out/toppingout/game/Player;"⟩ : MethodName)) (z := (⟨"com/example/topping_out/toppingout/game/Player", "lessACertificate", "()Lcom/example/topping_out/toppingout/game/Player;"⟩ : MethodName)) hown (mvT hZ (hw _ (List.mem_of_getElem? (i := 61) rfl))) (mvT hZ (hw _ (List.mem_of_getElem? (i := 62) rfl))) (notFace_of_selects (args := #[]) (mvT hZ (hw _ (List.mem_of_getElem? (i := 64) rfl)))) (mvT hZ (hw _ (List.mem_of_getElem? (i := 64) rfl))) (mvT hZ (hw _ (List.mem_of_getElem? (i := 63) rfl))) (by decide) (backOf (W := 0) (own_rm11 l Z a0 hw [] b421 b169 (nar .boolean (nar .boolean (nar .boolean i167))) (((if i167 = (0 : Int32) then (3 : Int32) else (2 : Int32)) - (1 : Int32)) - (1 : Int32)) (0 : Int32) T421.heap n0 Z446 f423 f424 f425 f426) hZ (hw _ (List.mem_of_getElem? (i := 65) rfl)) (hw _ (List.mem_of_getElem? (i := 29) rfl)) (by decide) (by decide)) q460a q460c (g := (mkF m 137 #[.val (.int p0_0), .val (.int p0_1), .val (.int p0_2), .val (.int p0_3), .val (.int p0_4), .val (.int i167), .val (.ref b169), .val (.int (p0_2 &&& (2147483647 : Int32))), .val (.ref b176), .val (.int i205), .val (.int i208), .val (.int (own_F9 (p0_4 &&& (3 : Int32)) i208)), .val (.ref b421), .unset] [(.ref b421)])) rfl (by rw [hml]; rfl) (Steps.refl _) (argsL := []) (rest := []) (lenOf pd___Lcom_example_topping_out_toppingout_game_Player_ rfl) rfl (by show 2 * 0 + _ ≤ _; exact Nat.le_of_eq rfl) (hb hby at_137) (fun _ _ => ⟨rfl, rfl, (by decide : 6 + 1 ≤ _), (by decide : 21 + 4 ≤ _)⟩)
                dsimp only [Pt.U, Pt.locs, Pt.cells, Pt.slots] at X460 l460 y460 z460 st460 hQ460
                subst l460 y460 z460
                obtain ⟨b460, rfl, M460, K460, sz460, gn460, f461, f462, f463, f464, f465⟩ := hQ460
                have f466 := f427.keep K460
                have f467 := f428.keep K460 nin0
                have f468 := f429.keep K460
                have f469 := f430.keep K460 nin0
                have f470 := f431.keep K460 nin0
                have f471 := f432.keep K460 nin0
                have f472 := f433.keep K460 nin0
                have f473 := f434.keep K460
                have f474 := f435.keep K460 nin0
                have f475 := f436.keep K460 nin0
                have f476 := f437.keep K460 nin0
                have f477 := f438.keep K460 nin0
                have f478 := f439.keep K460
                have f479 := f440.keep K460 nin0
                have f480 := f441.keep K460 nin0
                have f481 := f442.keep K460 nin0
                have f482 := f443.keep K460 nin0
                have f483 := f422.keep K460
                have f484 := f423.keep K460 nin0
                have f485 := f424.keep K460 nin0
                have f486 := f425.keep K460 nin0
                have f487 := f426.keep K460 nin0
                have K488 : Keep h0 T460.heap [] := K444.trans K460 all0
                have O489 := O445.keep K460 all0
                have Z490 := Nat.le_trans Z446 K460.1
                have sz_b460 : h0.size ≤ b460 := Nat.le_trans K444.1 sz460
                have ne_b169_b460 : b169 ≠ b460 := Nat.ne_of_lt (Nat.lt_of_lt_of_le f428.lt sz460)
                have ne_b176_b460 : b176 ≠ b460 := Nat.ne_of_lt (Nat.lt_of_lt_of_le f433.lt sz460)
                have ne_b212_b460 : b212 ≠ b460 := Nat.ne_of_lt (Nat.lt_of_lt_of_le f438.lt sz460)
                have ne_b348_b460 : b348 ≠ b460 := Nat.ne_of_lt (Nat.lt_of_lt_of_le f443.lt sz460)
                have ne_b421_b460 : b421 ≠ b460 := Nat.ne_of_lt (Nat.lt_of_lt_of_le f426.lt sz460)
                have N491 := Fr.app N447 M460
                refine own_via (T' := T460) (g' := (mkF m 140 #[.val (.int p0_0), .val (.int p0_1), .val (.int p0_2), .val (.int p0_3), .val (.int p0_4), .val (.int i167), .val (.ref b169), .val (.int (p0_2 &&& (2147483647 : Int32))), .val (.ref b176), .val (.int i205), .val (.int i208), .val (.int (own_F9 (p0_4 &&& (3 : Int32)) i208)), .val (.ref b421), .unset] [(.ref b460)])) st460 ?_
                refine own_by (T' := T460) (g' := (mkF m 144 #[.val (.int p0_0), .val (.int p0_1), .val (.int p0_2), .val (.int p0_3), .val (.int p0_4), .val (.int i167), .val (.ref b169), .val (.int (p0_2 &&& (2147483647 : Int32))), .val (.ref b176), .val (.int i205), .val (.int i208), .val (.int (own_F9 (p0_4 &&& (3 : Int32)) i208)), .val (.ref b460), .unset] [(.ref b460)])) (fun t k => ?_) ?_
                · show Steps p.tables e below (T460.setTop (mkF m 140 #[.val (.int p0_0), .val (.int p0_1), .val (.int p0_2), .val (.int p0_3), .val (.int p0_4), .val (.int i167), .val (.ref b169), .val (.int (p0_2 &&& (2147483647 : Int32))), .val (.ref b176), .val (.int i205), .val (.int i208), .val (.int (own_F9 (p0_4 &&& (3 : Int32)) i208)), .val (.ref b421), .unset] [(.ref b460)])) t
                  refine XS.astore X460.here hx rfl (hb hby at_140) rfl rfl (l' := #[.val (.int p0_0), .val (.int p0_1), .val (.int p0_2), .val (.int p0_3), .val (.int p0_4), .val (.int i167), .val (.ref b169), .val (.int (p0_2 &&& (2147483647 : Int32))), .val (.ref b176), .val (.int i205), .val (.int i208), .val (.int (own_F9 (p0_4 &&& (3 : Int32)) i208)), .val (.ref b460), .unset]) rfl ?_
                  show Steps p.tables e below (T460.setTop (mkF m 142 #[.val (.int p0_0), .val (.int p0_1), .val (.int p0_2), .val (.int p0_3), .val (.int p0_4), .val (.int i167), .val (.ref b169), .val (.int (p0_2 &&& (2147483647 : Int32))), .val (.ref b176), .val (.int i205), .val (.int i208), .val (.int (own_F9 (p0_4 &&& (3 : Int32)) i208)), .val (.ref b460), .unset] [])) t
                  refine XS.aload X460.here hx rfl (hb hby at_142) rfl rfl ?_
                  show Steps p.tables e below (T460.setTop (mkF m 144 #[.val (.int p0_0), .val (.int p0_1), .val (.int p0_2), .val (.int p0_3), .val (.int p0_4), .val (.int i167), .val (.ref b169), .val (.int (p0_2 &&& (2147483647 : Int32))), .val (.ref b176), .val (.int i205), .val (.int i208), .val (.int (own_F9 (p0_4 &&& (3 : Int32)) i208)), .val (.ref b460), .unset] [(.ref b460)])) t
                  exact k
                obtain ⟨cq492, kq492, q492a, q492b, q492c⟩ := isOf hZ rfl f461
                obtain ⟨v492, _, ⟨T492, L492, k492, n492⟩, -, X492, ⟨Lc492, hQ492, l492, y492, z492⟩, st492⟩ := X460.virtualBack hx (y := (⟨"com/example/topping_out/toppingout/game/Player", "out", "()Z"⟩ : MethodName)) (z := (⟨"com/example/topping_out/toppingout/game/Player", "out", "()Z"⟩ : MethodName)) hown (mvT hZ (hw _ (List.mem_of_getElem? (i := 47) rfl))) (mvT hZ (hw _ (List.mem_of_getElem? (i := 48) rfl))) (notFace_of_selects (args := #[]) (mvT hZ (hw _ (List.mem_of_getElem? (i := 50) rfl)))) (mvT hZ (hw _ (List.mem_of_getElem? (i := 50) rfl))) (mvT hZ (hw _ (List.mem_of_getElem? (i := 49) rfl))) (by decide) (backOf (W := 0) (own_rm8 l Z a0 hw [] b460 ((((if i167 = (0 : Int32) then (3 : Int32) else (2 : Int32)) - (1 : Int32)) - (1 : Int32)) - (1 : Int32)) T460.heap n0 Z490 f464) hZ (hw _ (List.mem_of_getElem? (i := 51) rfl)) (hw _ (List.mem_of_getElem? (i := 29) rfl)) (by decide) (by decide)) q492a q492c (g := (mkF m 144 #[.val (.int p0_0), .val (.int p0_1), .val (.int p0_2), .val (.int p0_3), .val (.int p0_4), .val (.int i167), .val (.ref b169), .val (.int (p0_2 &&& (2147483647 : Int32))), .val (.ref b176), .val (.int i205), .val (.int i208), .val (.int (own_F9 (p0_4 &&& (3 : Int32)) i208)), .val (.ref b460), .unset] [(.ref b460)])) rfl (by rw [hml]; rfl) (Steps.refl _) (argsL := []) (rest := []) (lenOf pd___Z rfl) rfl (by show 2 * 0 + _ ≤ _; exact Nat.le_of_eq rfl) (hb hby at_144) (fun _ _ => ⟨rfl, rfl, (by decide : 7 + 0 ≤ _), (by decide : 25 + 0 ≤ _)⟩)
                dsimp only [Pt.U, Pt.locs, Pt.cells, Pt.slots] at X492 l492 y492 z492 st492 hQ492
                subst l492 y492 z492
                obtain ⟨rfl, M492, e492⟩ := hQ492
                have N493 := Fr.app N491 M492
                refine own_via (T' := T492) (g' := (mkF m 147 #[.val (.int p0_0), .val (.int p0_1), .val (.int p0_2), .val (.int p0_3), .val (.int p0_4), .val (.int i167), .val (.ref b169), .val (.int (p0_2 &&& (2147483647 : Int32))), .val (.ref b176), .val (.int i205), .val (.int i208), .val (.int (own_F9 (p0_4 &&& (3 : Int32)) i208)), .val (.ref b460), .unset] [(.int (own_F8 ((((if i167 = (0 : Int32) then (3 : Int32) else (2 : Int32)) - (1 : Int32)) - (1 : Int32)) - (1 : Int32))))])) st492 ?_
                refine own_by (T' := T492) (g' := (mkF m 151 #[.val (.int p0_0), .val (.int p0_1), .val (.int p0_2), .val (.int p0_3), .val (.int p0_4), .val (.int i167), .val (.ref b169), .val (.int (p0_2 &&& (2147483647 : Int32))), .val (.ref b176), .val (.int i205), .val (.int i208), .val (.int (own_F9 (p0_4 &&& (3 : Int32)) i208)), .val (.ref b460), .unset] [(.int i208), (.int (own_F9 (p0_4 &&& (3 : Int32)) i208)), (.int (own_F8 ((((if i167 = (0 : Int32) then (3 : Int32) else (2 : Int32)) - (1 : Int32)) - (1 : Int32)) - (1 : Int32))))])) (fun t k => ?_) ?_
                · show Steps p.tables e below (T492.setTop (mkF m 147 #[.val (.int p0_0), .val (.int p0_1), .val (.int p0_2), .val (.int p0_3), .val (.int p0_4), .val (.int i167), .val (.ref b169), .val (.int (p0_2 &&& (2147483647 : Int32))), .val (.ref b176), .val (.int i205), .val (.int i208), .val (.int (own_F9 (p0_4 &&& (3 : Int32)) i208)), .val (.ref b460), .unset] [(.int (own_F8 ((((if i167 = (0 : Int32) then (3 : Int32) else (2 : Int32)) - (1 : Int32)) - (1 : Int32)) - (1 : Int32))))])) t
                  refine XS.iload X492.here hx rfl (hb hby at_147) rfl ?_
                  show Steps p.tables e below (T492.setTop (mkF m 149 #[.val (.int p0_0), .val (.int p0_1), .val (.int p0_2), .val (.int p0_3), .val (.int p0_4), .val (.int i167), .val (.ref b169), .val (.int (p0_2 &&& (2147483647 : Int32))), .val (.ref b176), .val (.int i205), .val (.int i208), .val (.int (own_F9 (p0_4 &&& (3 : Int32)) i208)), .val (.ref b460), .unset] [(.int (own_F9 (p0_4 &&& (3 : Int32)) i208)), (.int (own_F8 ((((if i167 = (0 : Int32) then (3 : Int32) else (2 : Int32)) - (1 : Int32)) - (1 : Int32)) - (1 : Int32))))])) t
                  refine XS.iload X492.here hx rfl (hb hby at_149) rfl ?_
                  show Steps p.tables e below (T492.setTop (mkF m 151 #[.val (.int p0_0), .val (.int p0_1), .val (.int p0_2), .val (.int p0_3), .val (.int p0_4), .val (.int i167), .val (.ref b169), .val (.int (p0_2 &&& (2147483647 : Int32))), .val (.ref b176), .val (.int i205), .val (.int i208), .val (.int (own_F9 (p0_4 &&& (3 : Int32)) i208)), .val (.ref b460), .unset] [(.int i208), (.int (own_F9 (p0_4 &&& (3 : Int32)) i208)), (.int (own_F8 ((((if i167 = (0 : Int32) then (3 : Int32) else (2 : Int32)) - (1 : Int32)) - (1 : Int32)) - (1 : Int32))))])) t
                  exact k
                have J0_19 : ∀ (T496 : State) (L496 : List Loc) (i495 : Int32), Stand p l e room_1 s m #[(.int p0_0), (.int p0_1), (.int p0_2), (.int p0_3), (.int p0_4)] below meth c T496 L496 7 25 → T496.heap = T460.heap → Fr n0 L496 → own_Go p e below (own_P s below room_1 (own_Q0 (own_F0_159_19 p0_0 p0_1 p0_2 p0_3 p0_4 i167 i202 i205 i208 i495) h0 n0)) T496 (mkF m 159 #[.val (.int p0_0), .val (.int p0_1), .val (.int p0_2), .val (.int p0_3), .val (.int p0_4), .val (.int i167), .val (.ref b169), .val (.int (p0_2 &&& (2147483647 : Int32))), .val (.ref b176), .val (.int i205), .val (.int i208), .val (.int (own_F9 (p0_4 &&& (3 : Int32)) i208)), .val (.ref b460), .unset] [(.int i495), (.int (own_F8 ((((if i167 = (0 : Int32) then (3 : Int32) else (2 : Int32)) - (1 : Int32)) - (1 : Int32)) - (1 : Int32))))]) := by
                  intro T496 L496 i495 X496 e496 N496
                  have J0_20 : ∀ (T499 : State) (L499 : List Loc) (i498 : Int32), Stand p l e room_1 s m #[(.int p0_0), (.int p0_1), (.int p0_2), (.int p0_3), (.int p0_4)] below meth c T499 L499 7 25 → T499.heap = T460.heap → Fr n0 L499 → own_Go p e below (own_P s below room_1 (own_Q0 (own_F0_167_20 p0_0 p0_1 p0_2 p0_3 p0_4 i167 i202 i205 i208 i495 i498) h0 n0)) T499 (mkF m 167 #[.val (.int p0_0), .val (.int p0_1), .val (.int p0_2), .val (.int p0_3), .val (.int p0_4), .val (.int i167), .val (.ref b169), .val (.int (p0_2 &&& (2147483647 : Int32))), .val (.ref b176), .val (.int i205), .val (.int i208), .val (.int (own_F9 (p0_4 &&& (3 : Int32)) i208)), .val (.ref b460), .unset] [(.int i498)]) := by
                    intro T499 L499 i498 X499 e499 N499
                    refine own_by (T' := T499) (g' := (mkF m 171 #[.val (.int p0_0), .val (.int p0_1), .val (.int p0_2), .val (.int p0_3), .val (.int p0_4), .val (.int i167), .val (.ref b169), .val (.int (p0_2 &&& (2147483647 : Int32))), .val (.ref b176), .val (.int i205), .val (.int i208), .val (.int (own_F9 (p0_4 &&& (3 : Int32)) i208)), .val (.ref b460), .val (.int i498)] [(.int i205)])) (fun t k => ?_) ?_
                    · show Steps p.tables e below (T499.setTop (mkF m 167 #[.val (.int p0_0), .val (.int p0_1), .val (.int p0_2), .val (.int p0_3), .val (.int p0_4), .val (.int i167), .val (.ref b169), .val (.int (p0_2 &&& (2147483647 : Int32))), .val (.ref b176), .val (.int i205), .val (.int i208), .val (.int (own_F9 (p0_4 &&& (3 : Int32)) i208)), .val (.ref b460), .unset] [(.int i498)])) t
                      refine XS.istore X499.here hx rfl (hb hby at_167) rfl (l' := #[.val (.int p0_0), .val (.int p0_1), .val (.int p0_2), .val (.int p0_3), .val (.int p0_4), .val (.int i167), .val (.ref b169), .val (.int (p0_2 &&& (2147483647 : Int32))), .val (.ref b176), .val (.int i205), .val (.int i208), .val (.int (own_F9 (p0_4 &&& (3 : Int32)) i208)), .val (.ref b460), .val (.int i498)]) rfl ?_
                      show Steps p.tables e below (T499.setTop (mkF m 169 #[.val (.int p0_0), .val (.int p0_1), .val (.int p0_2), .val (.int p0_3), .val (.int p0_4), .val (.int i167), .val (.ref b169), .val (.int (p0_2 &&& (2147483647 : Int32))), .val (.ref b176), .val (.int i205), .val (.int i208), .val (.int (own_F9 (p0_4 &&& (3 : Int32)) i208)), .val (.ref b460), .val (.int i498)] [])) t
                      refine XS.iload X499.here hx rfl (hb hby at_169) rfl ?_
                      show Steps p.tables e below (T499.setTop (mkF m 171 #[.val (.int p0_0), .val (.int p0_1), .val (.int p0_2), .val (.int p0_3), .val (.int p0_4), .val (.int i167), .val (.ref b169), .val (.int (p0_2 &&& (2147483647 : Int32))), .val (.ref b176), .val (.int i205), .val (.int i208), .val (.int (own_F9 (p0_4 &&& (3 : Int32)) i208)), .val (.ref b460), .val (.int i498)] [(.int i205)])) t
                      exact k
                    by_cases hc500 : i205 = (0 : Int32)
                    · skip
                      refine own_by (T' := T499) (g' := (mkF m 184 #[.val (.int p0_0), .val (.int p0_1), .val (.int p0_2), .val (.int p0_3), .val (.int p0_4), .val (.int i167), .val (.ref b169), .val (.int (p0_2 &&& (2147483647 : Int32))), .val (.ref b176), .val (.int i205), .val (.int i208), .val (.int (own_F9 (p0_4 &&& (3 : Int32)) i208)), .val (.ref b460), .val (.int i498)] [(.int (0 : Int32))])) (fun t k => ?_) ?_
                      · show Steps p.tables e below (T499.setTop (mkF m 171 #[.val (.int p0_0), .val (.int p0_1), .val (.int p0_2), .val (.int p0_3), .val (.int p0_4), .val (.int i167), .val (.ref b169), .val (.int (p0_2 &&& (2147483647 : Int32))), .val (.ref b176), .val (.int i205), .val (.int i208), .val (.int (own_F9 (p0_4 &&& (3 : Int32)) i208)), .val (.ref b460), .val (.int i498)] [(.int i205)])) t
                        refine XS.ifYes X499.here hx rfl (pc0 := 171) (pc' := 183) rfl (hb hby at_171) rfl ((if0 _ _).trans (teq hc500).1) (by decide) (by decide) ?_
                        show Steps p.tables e below (T499.setTop (mkF m 183 #[.val (.int p0_0), .val (.int p0_1), .val (.int p0_2), .val (.int p0_3), .val (.int p0_4), .val (.int i167), .val (.ref b169), .val (.int (p0_2 &&& (2147483647 : Int32))), .val (.ref b176), .val (.int i205), .val (.int i208), .val (.int (own_F9 (p0_4 &&& (3 : Int32)) i208)), .val (.ref b460), .val (.int i498)] [])) t
                        refine XS.iconst X499.here hx rfl (hb hby at_183) ?_
                        show Steps p.tables e below (T499.setTop (mkF m 184 #[.val (.int p0_0), .val (.int p0_1), .val (.int p0_2), .val (.int p0_3), .val (.int p0_4), .val (.int i167), .val (.ref b169), .val (.int (p0_2 &&& (2147483647 : Int32))), .val (.ref b176), .val (.int i205), .val (.int i208), .val (.int (own_F9 (p0_4 &&& (3 : Int32)) i208)), .val (.ref b460), .val (.int i498)] [(.int (0 : Int32))])) t
                        exact k
                      rw [show own_F0_167_20 p0_0 p0_1 p0_2 p0_3 p0_4 i167 i202 i205 i208 i495 i498 = (0 : Int32) from ((if_pos hc500).trans rfl)]
                      exact own_retN X499 hx (t := .boolean) Bd.returns (by simp) (hb hby at_184) hlk (by decide) (by decide) ⟨rfl, N499⟩
                    · skip
                      refine own_by (T' := T499) (g' := (mkF m 176 #[.val (.int p0_0), .val (.int p0_1), .val (.int p0_2), .val (.int p0_3), .val (.int p0_4), .val (.int i167), .val (.ref b169), .val (.int (p0_2 &&& (2147483647 : Int32))), .val (.ref b176), .val (.int i205), .val (.int i208), .val (.int (own_F9 (p0_4 &&& (3 : Int32)) i208)), .val (.ref b460), .val (.int i498)] [(.int i498)])) (fun t k => ?_) ?_
                      · show Steps p.tables e below (T499.setTop (mkF m 171 #[.val (.int p0_0), .val (.int p0_1), .val (.int p0_2), .val (.int p0_3), .val (.int p0_4), .val (.int i167), .val (.ref b169), .val (.int (p0_2 &&& (2147483647 : Int32))), .val (.ref b176), .val (.int i205), .val (.int i208), .val (.int (own_F9 (p0_4 &&& (3 : Int32)) i208)), .val (.ref b460), .val (.int i498)] [(.int i205)])) t
                        refine XS.ifNo X499.here hx rfl (hb hby at_171) rfl ((if0 _ _).trans (feq hc500).1) ?_
                        show Steps p.tables e below (T499.setTop (mkF m 174 #[.val (.int p0_0), .val (.int p0_1), .val (.int p0_2), .val (.int p0_3), .val (.int p0_4), .val (.int i167), .val (.ref b169), .val (.int (p0_2 &&& (2147483647 : Int32))), .val (.ref b176), .val (.int i205), .val (.int i208), .val (.int (own_F9 (p0_4 &&& (3 : Int32)) i208)), .val (.ref b460), .val (.int i498)] [])) t
                        refine XS.iload X499.here hx rfl (hb hby at_174) rfl ?_
                        show Steps p.tables e below (T499.setTop (mkF m 176 #[.val (.int p0_0), .val (.int p0_1), .val (.int p0_2), .val (.int p0_3), .val (.int p0_4), .val (.int i167), .val (.ref b169), .val (.int (p0_2 &&& (2147483647 : Int32))), .val (.ref b176), .val (.int i205), .val (.int i208), .val (.int (own_F9 (p0_4 &&& (3 : Int32)) i208)), .val (.ref b460), .val (.int i498)] [(.int i498)])) t
                        exact k
                      by_cases hc502 : i498 = (0 : Int32)
                      · skip
                        refine own_by (T' := T499) (g' := (mkF m 184 #[.val (.int p0_0), .val (.int p0_1), .val (.int p0_2), .val (.int p0_3), .val (.int p0_4), .val (.int i167), .val (.ref b169), .val (.int (p0_2 &&& (2147483647 : Int32))), .val (.ref b176), .val (.int i205), .val (.int i208), .val (.int (own_F9 (p0_4 &&& (3 : Int32)) i208)), .val (.ref b460), .val (.int i498)] [(.int (0 : Int32))])) (fun t k => ?_) ?_
                        · show Steps p.tables e below (T499.setTop (mkF m 176 #[.val (.int p0_0), .val (.int p0_1), .val (.int p0_2), .val (.int p0_3), .val (.int p0_4), .val (.int i167), .val (.ref b169), .val (.int (p0_2 &&& (2147483647 : Int32))), .val (.ref b176), .val (.int i205), .val (.int i208), .val (.int (own_F9 (p0_4 &&& (3 : Int32)) i208)), .val (.ref b460), .val (.int i498)] [(.int i498)])) t
                          refine XS.ifYes X499.here hx rfl (pc0 := 176) (pc' := 183) rfl (hb hby at_176) rfl ((if0 _ _).trans (teq hc502).1) (by decide) (by decide) ?_
                          show Steps p.tables e below (T499.setTop (mkF m 183 #[.val (.int p0_0), .val (.int p0_1), .val (.int p0_2), .val (.int p0_3), .val (.int p0_4), .val (.int i167), .val (.ref b169), .val (.int (p0_2 &&& (2147483647 : Int32))), .val (.ref b176), .val (.int i205), .val (.int i208), .val (.int (own_F9 (p0_4 &&& (3 : Int32)) i208)), .val (.ref b460), .val (.int i498)] [])) t
                          refine XS.iconst X499.here hx rfl (hb hby at_183) ?_
                          show Steps p.tables e below (T499.setTop (mkF m 184 #[.val (.int p0_0), .val (.int p0_1), .val (.int p0_2), .val (.int p0_3), .val (.int p0_4), .val (.int i167), .val (.ref b169), .val (.int (p0_2 &&& (2147483647 : Int32))), .val (.ref b176), .val (.int i205), .val (.int i208), .val (.int (own_F9 (p0_4 &&& (3 : Int32)) i208)), .val (.ref b460), .val (.int i498)] [(.int (0 : Int32))])) t
                          exact k
                        rw [show own_F0_167_20 p0_0 p0_1 p0_2 p0_3 p0_4 i167 i202 i205 i208 i495 i498 = (0 : Int32) from ((if_neg hc500).trans ((if_pos hc502).trans rfl))]
                        exact own_retN X499 hx (t := .boolean) Bd.returns (by simp) (hb hby at_184) hlk (by decide) (by decide) ⟨rfl, N499⟩
                      · skip
                        refine own_by (T' := T499) (g' := (mkF m 184 #[.val (.int p0_0), .val (.int p0_1), .val (.int p0_2), .val (.int p0_3), .val (.int p0_4), .val (.int i167), .val (.ref b169), .val (.int (p0_2 &&& (2147483647 : Int32))), .val (.ref b176), .val (.int i205), .val (.int i208), .val (.int (own_F9 (p0_4 &&& (3 : Int32)) i208)), .val (.ref b460), .val (.int i498)] [(.int (1 : Int32))])) (fun t k => ?_) ?_
                        · show Steps p.tables e below (T499.setTop (mkF m 176 #[.val (.int p0_0), .val (.int p0_1), .val (.int p0_2), .val (.int p0_3), .val (.int p0_4), .val (.int i167), .val (.ref b169), .val (.int (p0_2 &&& (2147483647 : Int32))), .val (.ref b176), .val (.int i205), .val (.int i208), .val (.int (own_F9 (p0_4 &&& (3 : Int32)) i208)), .val (.ref b460), .val (.int i498)] [(.int i498)])) t
                          refine XS.ifNo X499.here hx rfl (hb hby at_176) rfl ((if0 _ _).trans (feq hc502).1) ?_
                          show Steps p.tables e below (T499.setTop (mkF m 179 #[.val (.int p0_0), .val (.int p0_1), .val (.int p0_2), .val (.int p0_3), .val (.int p0_4), .val (.int i167), .val (.ref b169), .val (.int (p0_2 &&& (2147483647 : Int32))), .val (.ref b176), .val (.int i205), .val (.int i208), .val (.int (own_F9 (p0_4 &&& (3 : Int32)) i208)), .val (.ref b460), .val (.int i498)] [])) t
                          refine XS.iconst X499.here hx rfl (hb hby at_179) ?_
                          show Steps p.tables e below (T499.setTop (mkF m 180 #[.val (.int p0_0), .val (.int p0_1), .val (.int p0_2), .val (.int p0_3), .val (.int p0_4), .val (.int i167), .val (.ref b169), .val (.int (p0_2 &&& (2147483647 : Int32))), .val (.ref b176), .val (.int i205), .val (.int i208), .val (.int (own_F9 (p0_4 &&& (3 : Int32)) i208)), .val (.ref b460), .val (.int i498)] [(.int (1 : Int32))])) t
                          refine XS.goto X499.here hx rfl (pc0 := 180) (pc' := 184) rfl (hb hby at_180) (by decide) (by decide) ?_
                          show Steps p.tables e below (T499.setTop (mkF m 184 #[.val (.int p0_0), .val (.int p0_1), .val (.int p0_2), .val (.int p0_3), .val (.int p0_4), .val (.int i167), .val (.ref b169), .val (.int (p0_2 &&& (2147483647 : Int32))), .val (.ref b176), .val (.int i205), .val (.int i208), .val (.int (own_F9 (p0_4 &&& (3 : Int32)) i208)), .val (.ref b460), .val (.int i498)] [(.int (1 : Int32))])) t
                          exact k
                        rw [show own_F0_167_20 p0_0 p0_1 p0_2 p0_3 p0_4 i167 i202 i205 i208 i495 i498 = (1 : Int32) from ((if_neg hc500).trans ((if_neg hc502).trans rfl))]
                        exact own_retN X499 hx (t := .boolean) Bd.returns (by simp) (hb hby at_184) hlk (by decide) (by decide) ⟨rfl, N499⟩
                  by_cases hc497 : (own_F8 ((((if i167 = (0 : Int32) then (3 : Int32) else (2 : Int32)) - (1 : Int32)) - (1 : Int32)) - (1 : Int32))) = i495
                  · skip
                    refine own_by (T' := T496) (g' := (mkF m 167 #[.val (.int p0_0), .val (.int p0_1), .val (.int p0_2), .val (.int p0_3), .val (.int p0_4), .val (.int i167), .val (.ref b169), .val (.int (p0_2 &&& (2147483647 : Int32))), .val (.ref b176), .val (.int i205), .val (.int i208), .val (.int (own_F9 (p0_4 &&& (3 : Int32)) i208)), .val (.ref b460), .unset] [(.int (1 : Int32))])) (fun t k => ?_) ?_
                    · show Steps p.tables e below (T496.setTop (mkF m 159 #[.val (.int p0_0), .val (.int p0_1), .val (.int p0_2), .val (.int p0_3), .val (.int p0_4), .val (.int i167), .val (.ref b169), .val (.int (p0_2 &&& (2147483647 : Int32))), .val (.ref b176), .val (.int i205), .val (.int i208), .val (.int (own_F9 (p0_4 &&& (3 : Int32)) i208)), .val (.ref b460), .unset] [(.int i495), (.int (own_F8 ((((if i167 = (0 : Int32) then (3 : Int32) else (2 : Int32)) - (1 : Int32)) - (1 : Int32)) - (1 : Int32))))])) t
                      refine XS.icmpNo X496.here hx rfl (hb hby at_159) rfl (teq hc497).2 ?_
                      show Steps p.tables e below (T496.setTop (mkF m 162 #[.val (.int p0_0), .val (.int p0_1), .val (.int p0_2), .val (.int p0_3), .val (.int p0_4), .val (.int i167), .val (.ref b169), .val (.int (p0_2 &&& (2147483647 : Int32))), .val (.ref b176), .val (.int i205), .val (.int i208), .val (.int (own_F9 (p0_4 &&& (3 : Int32)) i208)), .val (.ref b460), .unset] [])) t
                      refine XS.iconst X496.here hx rfl (hb hby at_162) ?_
                      show Steps p.tables e below (T496.setTop (mkF m 163 #[.val (.int p0_0), .val (.int p0_1), .val (.int p0_2), .val (.int p0_3), .val (.int p0_4), .val (.int i167), .val (.ref b169), .val (.int (p0_2 &&& (2147483647 : Int32))), .val (.ref b176), .val (.int i205), .val (.int i208), .val (.int (own_F9 (p0_4 &&& (3 : Int32)) i208)), .val (.ref b460), .unset] [(.int (1 : Int32))])) t
                      refine XS.goto X496.here hx rfl (pc0 := 163) (pc' := 167) rfl (hb hby at_163) (by decide) (by decide) ?_
                      show Steps p.tables e below (T496.setTop (mkF m 167 #[.val (.int p0_0), .val (.int p0_1), .val (.int p0_2), .val (.int p0_3), .val (.int p0_4), .val (.int i167), .val (.ref b169), .val (.int (p0_2 &&& (2147483647 : Int32))), .val (.ref b176), .val (.int i205), .val (.int i208), .val (.int (own_F9 (p0_4 &&& (3 : Int32)) i208)), .val (.ref b460), .unset] [(.int (1 : Int32))])) t
                      exact k
                    rw [show own_F0_159_19 p0_0 p0_1 p0_2 p0_3 p0_4 i167 i202 i205 i208 i495 = (own_F0_167_20 p0_0 p0_1 p0_2 p0_3 p0_4 i167 i202 i205 i208 i495 (1 : Int32)) from ((if_pos hc497).trans rfl)]
                    exact J0_20 _ _ (1 : Int32) X496 e496 N496
                  · skip
                    refine own_by (T' := T496) (g' := (mkF m 167 #[.val (.int p0_0), .val (.int p0_1), .val (.int p0_2), .val (.int p0_3), .val (.int p0_4), .val (.int i167), .val (.ref b169), .val (.int (p0_2 &&& (2147483647 : Int32))), .val (.ref b176), .val (.int i205), .val (.int i208), .val (.int (own_F9 (p0_4 &&& (3 : Int32)) i208)), .val (.ref b460), .unset] [(.int (0 : Int32))])) (fun t k => ?_) ?_
                    · show Steps p.tables e below (T496.setTop (mkF m 159 #[.val (.int p0_0), .val (.int p0_1), .val (.int p0_2), .val (.int p0_3), .val (.int p0_4), .val (.int i167), .val (.ref b169), .val (.int (p0_2 &&& (2147483647 : Int32))), .val (.ref b176), .val (.int i205), .val (.int i208), .val (.int (own_F9 (p0_4 &&& (3 : Int32)) i208)), .val (.ref b460), .unset] [(.int i495), (.int (own_F8 ((((if i167 = (0 : Int32) then (3 : Int32) else (2 : Int32)) - (1 : Int32)) - (1 : Int32)) - (1 : Int32))))])) t
                      refine XS.icmpYes X496.here hx rfl (pc0 := 159) (pc' := 166) rfl (hb hby at_159) rfl (feq hc497).2 (by decide) (by decide) ?_
                      show Steps p.tables e below (T496.setTop (mkF m 166 #[.val (.int p0_0), .val (.int p0_1), .val (.int p0_2), .val (.int p0_3), .val (.int p0_4), .val (.int i167), .val (.ref b169), .val (.int (p0_2 &&& (2147483647 : Int32))), .val (.ref b176), .val (.int i205), .val (.int i208), .val (.int (own_F9 (p0_4 &&& (3 : Int32)) i208)), .val (.ref b460), .unset] [])) t
                      refine XS.iconst X496.here hx rfl (hb hby at_166) ?_
                      show Steps p.tables e below (T496.setTop (mkF m 167 #[.val (.int p0_0), .val (.int p0_1), .val (.int p0_2), .val (.int p0_3), .val (.int p0_4), .val (.int i167), .val (.ref b169), .val (.int (p0_2 &&& (2147483647 : Int32))), .val (.ref b176), .val (.int i205), .val (.int i208), .val (.int (own_F9 (p0_4 &&& (3 : Int32)) i208)), .val (.ref b460), .unset] [(.int (0 : Int32))])) t
                      exact k
                    rw [show own_F0_159_19 p0_0 p0_1 p0_2 p0_3 p0_4 i167 i202 i205 i208 i495 = (own_F0_167_20 p0_0 p0_1 p0_2 p0_3 p0_4 i167 i202 i205 i208 i495 (0 : Int32)) from ((if_neg hc497).trans rfl)]
                    exact J0_20 _ _ (0 : Int32) X496 e496 N496
                by_cases hc494 : (own_F9 (p0_4 &&& (3 : Int32)) i208) = i208
                · skip
                  refine own_by (T' := T492) (g' := (mkF m 159 #[.val (.int p0_0), .val (.int p0_1), .val (.int p0_2), .val (.int p0_3), .val (.int p0_4), .val (.int i167), .val (.ref b169), .val (.int (p0_2 &&& (2147483647 : Int32))), .val (.ref b176), .val (.int i205), .val (.int i208), .val (.int (own_F9 (p0_4 &&& (3 : Int32)) i208)), .val (.ref b460), .unset] [(.int (1 : Int32)), (.int (own_F8 ((((if i167 = (0 : Int32) then (3 : Int32) else (2 : Int32)) - (1 : Int32)) - (1 : Int32)) - (1 : Int32))))])) (fun t k => ?_) ?_
                  · show Steps p.tables e below (T492.setTop (mkF m 151 #[.val (.int p0_0), .val (.int p0_1), .val (.int p0_2), .val (.int p0_3), .val (.int p0_4), .val (.int i167), .val (.ref b169), .val (.int (p0_2 &&& (2147483647 : Int32))), .val (.ref b176), .val (.int i205), .val (.int i208), .val (.int (own_F9 (p0_4 &&& (3 : Int32)) i208)), .val (.ref b460), .unset] [(.int i208), (.int (own_F9 (p0_4 &&& (3 : Int32)) i208)), (.int (own_F8 ((((if i167 = (0 : Int32) then (3 : Int32) else (2 : Int32)) - (1 : Int32)) - (1 : Int32)) - (1 : Int32))))])) t
                    refine XS.icmpNo X492.here hx rfl (hb hby at_151) rfl (teq hc494).2 ?_
                    show Steps p.tables e below (T492.setTop (mkF m 154 #[.val (.int p0_0), .val (.int p0_1), .val (.int p0_2), .val (.int p0_3), .val (.int p0_4), .val (.int i167), .val (.ref b169), .val (.int (p0_2 &&& (2147483647 : Int32))), .val (.ref b176), .val (.int i205), .val (.int i208), .val (.int (own_F9 (p0_4 &&& (3 : Int32)) i208)), .val (.ref b460), .unset] [(.int (own_F8 ((((if i167 = (0 : Int32) then (3 : Int32) else (2 : Int32)) - (1 : Int32)) - (1 : Int32)) - (1 : Int32))))])) t
                    refine XS.iconst X492.here hx rfl (hb hby at_154) ?_
                    show Steps p.tables e below (T492.setTop (mkF m 155 #[.val (.int p0_0), .val (.int p0_1), .val (.int p0_2), .val (.int p0_3), .val (.int p0_4), .val (.int i167), .val (.ref b169), .val (.int (p0_2 &&& (2147483647 : Int32))), .val (.ref b176), .val (.int i205), .val (.int i208), .val (.int (own_F9 (p0_4 &&& (3 : Int32)) i208)), .val (.ref b460), .unset] [(.int (1 : Int32)), (.int (own_F8 ((((if i167 = (0 : Int32) then (3 : Int32) else (2 : Int32)) - (1 : Int32)) - (1 : Int32)) - (1 : Int32))))])) t
                    refine XS.goto X492.here hx rfl (pc0 := 155) (pc' := 159) rfl (hb hby at_155) (by decide) (by decide) ?_
                    show Steps p.tables e below (T492.setTop (mkF m 159 #[.val (.int p0_0), .val (.int p0_1), .val (.int p0_2), .val (.int p0_3), .val (.int p0_4), .val (.int i167), .val (.ref b169), .val (.int (p0_2 &&& (2147483647 : Int32))), .val (.ref b176), .val (.int i205), .val (.int i208), .val (.int (own_F9 (p0_4 &&& (3 : Int32)) i208)), .val (.ref b460), .unset] [(.int (1 : Int32)), (.int (own_F8 ((((if i167 = (0 : Int32) then (3 : Int32) else (2 : Int32)) - (1 : Int32)) - (1 : Int32)) - (1 : Int32))))])) t
                    exact k
                  rw [show own_F0_81_4 p0_0 p0_1 p0_2 p0_3 p0_4 i167 i202 i205 i208 = (own_F0_159_19 p0_0 p0_1 p0_2 p0_3 p0_4 i167 i202 i205 i208 (1 : Int32)) from ((if_neg hc229).trans ((if_neg hc370).trans ((if_neg hc448).trans ((if_pos hc494).trans rfl))))]
                  exact J0_19 _ _ (1 : Int32) X492 e492 N493
                · skip
                  refine own_by (T' := T492) (g' := (mkF m 159 #[.val (.int p0_0), .val (.int p0_1), .val (.int p0_2), .val (.int p0_3), .val (.int p0_4), .val (.int i167), .val (.ref b169), .val (.int (p0_2 &&& (2147483647 : Int32))), .val (.ref b176), .val (.int i205), .val (.int i208), .val (.int (own_F9 (p0_4 &&& (3 : Int32)) i208)), .val (.ref b460), .unset] [(.int (0 : Int32)), (.int (own_F8 ((((if i167 = (0 : Int32) then (3 : Int32) else (2 : Int32)) - (1 : Int32)) - (1 : Int32)) - (1 : Int32))))])) (fun t k => ?_) ?_
                  · show Steps p.tables e below (T492.setTop (mkF m 151 #[.val (.int p0_0), .val (.int p0_1), .val (.int p0_2), .val (.int p0_3), .val (.int p0_4), .val (.int i167), .val (.ref b169), .val (.int (p0_2 &&& (2147483647 : Int32))), .val (.ref b176), .val (.int i205), .val (.int i208), .val (.int (own_F9 (p0_4 &&& (3 : Int32)) i208)), .val (.ref b460), .unset] [(.int i208), (.int (own_F9 (p0_4 &&& (3 : Int32)) i208)), (.int (own_F8 ((((if i167 = (0 : Int32) then (3 : Int32) else (2 : Int32)) - (1 : Int32)) - (1 : Int32)) - (1 : Int32))))])) t
                    refine XS.icmpYes X492.here hx rfl (pc0 := 151) (pc' := 158) rfl (hb hby at_151) rfl (feq hc494).2 (by decide) (by decide) ?_
                    show Steps p.tables e below (T492.setTop (mkF m 158 #[.val (.int p0_0), .val (.int p0_1), .val (.int p0_2), .val (.int p0_3), .val (.int p0_4), .val (.int i167), .val (.ref b169), .val (.int (p0_2 &&& (2147483647 : Int32))), .val (.ref b176), .val (.int i205), .val (.int i208), .val (.int (own_F9 (p0_4 &&& (3 : Int32)) i208)), .val (.ref b460), .unset] [(.int (own_F8 ((((if i167 = (0 : Int32) then (3 : Int32) else (2 : Int32)) - (1 : Int32)) - (1 : Int32)) - (1 : Int32))))])) t
                    refine XS.iconst X492.here hx rfl (hb hby at_158) ?_
                    show Steps p.tables e below (T492.setTop (mkF m 159 #[.val (.int p0_0), .val (.int p0_1), .val (.int p0_2), .val (.int p0_3), .val (.int p0_4), .val (.int i167), .val (.ref b169), .val (.int (p0_2 &&& (2147483647 : Int32))), .val (.ref b176), .val (.int i205), .val (.int i208), .val (.int (own_F9 (p0_4 &&& (3 : Int32)) i208)), .val (.ref b460), .unset] [(.int (0 : Int32)), (.int (own_F8 ((((if i167 = (0 : Int32) then (3 : Int32) else (2 : Int32)) - (1 : Int32)) - (1 : Int32)) - (1 : Int32))))])) t
                    exact k
                  rw [show own_F0_81_4 p0_0 p0_1 p0_2 p0_3 p0_4 i167 i202 i205 i208 = (own_F0_159_19 p0_0 p0_1 p0_2 p0_3 p0_4 i167 i202 i205 i208 (0 : Int32)) from ((if_neg hc229).trans ((if_neg hc370).trans ((if_neg hc448).trans ((if_neg hc494).trans rfl))))]
                  exact J0_19 _ _ (0 : Int32) X492 e492 N493
        by_cases hc207 : i167 = (0 : Int32)
        · skip
          refine own_by (T' := T206) (g' := (mkF m 81 #[.val (.int p0_0), .val (.int p0_1), .val (.int p0_2), .val (.int p0_3), .val (.int p0_4), .val (.int i167), .val (.ref b169), .val (.int (p0_2 &&& (2147483647 : Int32))), .val (.ref b176), .val (.int i205), .unset, .unset, .unset, .unset] [(.int (3 : Int32))])) (fun t k => ?_) ?_
          · show Steps p.tables e below (T206.setTop (mkF m 73 #[.val (.int p0_0), .val (.int p0_1), .val (.int p0_2), .val (.int p0_3), .val (.int p0_4), .val (.int i167), .val (.ref b169), .val (.int (p0_2 &&& (2147483647 : Int32))), .val (.ref b176), .val (.int i205), .unset, .unset, .unset, .unset] [(.int i167)])) t
            refine XS.ifYes X206.here hx rfl (pc0 := 73) (pc' := 80) rfl (hb hby at_73) rfl ((if0 _ _).trans (teq hc207).1) (by decide) (by decide) ?_
            show Steps p.tables e below (T206.setTop (mkF m 80 #[.val (.int p0_0), .val (.int p0_1), .val (.int p0_2), .val (.int p0_3), .val (.int p0_4), .val (.int i167), .val (.ref b169), .val (.int (p0_2 &&& (2147483647 : Int32))), .val (.ref b176), .val (.int i205), .unset, .unset, .unset, .unset] [])) t
            refine XS.iconst X206.here hx rfl (hb hby at_80) ?_
            show Steps p.tables e below (T206.setTop (mkF m 81 #[.val (.int p0_0), .val (.int p0_1), .val (.int p0_2), .val (.int p0_3), .val (.int p0_4), .val (.int i167), .val (.ref b169), .val (.int (p0_2 &&& (2147483647 : Int32))), .val (.ref b176), .val (.int i205), .unset, .unset, .unset, .unset] [(.int (3 : Int32))])) t
            exact k
          rw [show own_F0_69_3 p0_0 p0_1 p0_2 p0_3 p0_4 i167 i202 i205 = (own_F0_81_4 p0_0 p0_1 p0_2 p0_3 p0_4 i167 i202 i205 (3 : Int32)) from ((if_pos hc207).trans rfl)]
          exact J0_4 _ _ (3 : Int32) X206 e206 N206
        · skip
          refine own_by (T' := T206) (g' := (mkF m 81 #[.val (.int p0_0), .val (.int p0_1), .val (.int p0_2), .val (.int p0_3), .val (.int p0_4), .val (.int i167), .val (.ref b169), .val (.int (p0_2 &&& (2147483647 : Int32))), .val (.ref b176), .val (.int i205), .unset, .unset, .unset, .unset] [(.int (2 : Int32))])) (fun t k => ?_) ?_
          · show Steps p.tables e below (T206.setTop (mkF m 73 #[.val (.int p0_0), .val (.int p0_1), .val (.int p0_2), .val (.int p0_3), .val (.int p0_4), .val (.int i167), .val (.ref b169), .val (.int (p0_2 &&& (2147483647 : Int32))), .val (.ref b176), .val (.int i205), .unset, .unset, .unset, .unset] [(.int i167)])) t
            refine XS.ifNo X206.here hx rfl (hb hby at_73) rfl ((if0 _ _).trans (feq hc207).1) ?_
            show Steps p.tables e below (T206.setTop (mkF m 76 #[.val (.int p0_0), .val (.int p0_1), .val (.int p0_2), .val (.int p0_3), .val (.int p0_4), .val (.int i167), .val (.ref b169), .val (.int (p0_2 &&& (2147483647 : Int32))), .val (.ref b176), .val (.int i205), .unset, .unset, .unset, .unset] [])) t
            refine XS.iconst X206.here hx rfl (hb hby at_76) ?_
            show Steps p.tables e below (T206.setTop (mkF m 77 #[.val (.int p0_0), .val (.int p0_1), .val (.int p0_2), .val (.int p0_3), .val (.int p0_4), .val (.int i167), .val (.ref b169), .val (.int (p0_2 &&& (2147483647 : Int32))), .val (.ref b176), .val (.int i205), .unset, .unset, .unset, .unset] [(.int (2 : Int32))])) t
            refine XS.goto X206.here hx rfl (pc0 := 77) (pc' := 81) rfl (hb hby at_77) (by decide) (by decide) ?_
            show Steps p.tables e below (T206.setTop (mkF m 81 #[.val (.int p0_0), .val (.int p0_1), .val (.int p0_2), .val (.int p0_3), .val (.int p0_4), .val (.int i167), .val (.ref b169), .val (.int (p0_2 &&& (2147483647 : Int32))), .val (.ref b176), .val (.int i205), .unset, .unset, .unset, .unset] [(.int (2 : Int32))])) t
            exact k
          rw [show own_F0_69_3 p0_0 p0_1 p0_2 p0_3 p0_4 i167 i202 i205 = (own_F0_81_4 p0_0 p0_1 p0_2 p0_3 p0_4 i167 i202 i205 (2 : Int32)) from ((if_neg hc207).trans rfl)]
          exact J0_4 _ _ (2 : Int32) X206 e206 N206
      by_cases hc204 : (own_F8 (p0_2 &&& (2147483647 : Int32))) = i202
      · skip
        refine own_by (T' := T203) (g' := (mkF m 69 #[.val (.int p0_0), .val (.int p0_1), .val (.int p0_2), .val (.int p0_3), .val (.int p0_4), .val (.int i167), .val (.ref b169), .val (.int (p0_2 &&& (2147483647 : Int32))), .val (.ref b176), .unset, .unset, .unset, .unset, .unset] [(.int (1 : Int32))])) (fun t k => ?_) ?_
        · show Steps p.tables e below (T203.setTop (mkF m 61 #[.val (.int p0_0), .val (.int p0_1), .val (.int p0_2), .val (.int p0_3), .val (.int p0_4), .val (.int i167), .val (.ref b169), .val (.int (p0_2 &&& (2147483647 : Int32))), .val (.ref b176), .unset, .unset, .unset, .unset, .unset] [(.int i202), (.int (own_F8 (p0_2 &&& (2147483647 : Int32))))])) t
          refine XS.icmpNo X203.here hx rfl (hb hby at_61) rfl (teq hc204).2 ?_
          show Steps p.tables e below (T203.setTop (mkF m 64 #[.val (.int p0_0), .val (.int p0_1), .val (.int p0_2), .val (.int p0_3), .val (.int p0_4), .val (.int i167), .val (.ref b169), .val (.int (p0_2 &&& (2147483647 : Int32))), .val (.ref b176), .unset, .unset, .unset, .unset, .unset] [])) t
          refine XS.iconst X203.here hx rfl (hb hby at_64) ?_
          show Steps p.tables e below (T203.setTop (mkF m 65 #[.val (.int p0_0), .val (.int p0_1), .val (.int p0_2), .val (.int p0_3), .val (.int p0_4), .val (.int i167), .val (.ref b169), .val (.int (p0_2 &&& (2147483647 : Int32))), .val (.ref b176), .unset, .unset, .unset, .unset, .unset] [(.int (1 : Int32))])) t
          refine XS.goto X203.here hx rfl (pc0 := 65) (pc' := 69) rfl (hb hby at_65) (by decide) (by decide) ?_
          show Steps p.tables e below (T203.setTop (mkF m 69 #[.val (.int p0_0), .val (.int p0_1), .val (.int p0_2), .val (.int p0_3), .val (.int p0_4), .val (.int i167), .val (.ref b169), .val (.int (p0_2 &&& (2147483647 : Int32))), .val (.ref b176), .unset, .unset, .unset, .unset, .unset] [(.int (1 : Int32))])) t
          exact k
        rw [show own_F0_61_2 p0_0 p0_1 p0_2 p0_3 p0_4 i167 i202 = (own_F0_69_3 p0_0 p0_1 p0_2 p0_3 p0_4 i167 i202 (1 : Int32)) from ((if_pos hc204).trans rfl)]
        exact J0_3 _ _ (1 : Int32) X203 e203 N203
      · skip
        refine own_by (T' := T203) (g' := (mkF m 69 #[.val (.int p0_0), .val (.int p0_1), .val (.int p0_2), .val (.int p0_3), .val (.int p0_4), .val (.int i167), .val (.ref b169), .val (.int (p0_2 &&& (2147483647 : Int32))), .val (.ref b176), .unset, .unset, .unset, .unset, .unset] [(.int (0 : Int32))])) (fun t k => ?_) ?_
        · show Steps p.tables e below (T203.setTop (mkF m 61 #[.val (.int p0_0), .val (.int p0_1), .val (.int p0_2), .val (.int p0_3), .val (.int p0_4), .val (.int i167), .val (.ref b169), .val (.int (p0_2 &&& (2147483647 : Int32))), .val (.ref b176), .unset, .unset, .unset, .unset, .unset] [(.int i202), (.int (own_F8 (p0_2 &&& (2147483647 : Int32))))])) t
          refine XS.icmpYes X203.here hx rfl (pc0 := 61) (pc' := 68) rfl (hb hby at_61) rfl (feq hc204).2 (by decide) (by decide) ?_
          show Steps p.tables e below (T203.setTop (mkF m 68 #[.val (.int p0_0), .val (.int p0_1), .val (.int p0_2), .val (.int p0_3), .val (.int p0_4), .val (.int i167), .val (.ref b169), .val (.int (p0_2 &&& (2147483647 : Int32))), .val (.ref b176), .unset, .unset, .unset, .unset, .unset] [])) t
          refine XS.iconst X203.here hx rfl (hb hby at_68) ?_
          show Steps p.tables e below (T203.setTop (mkF m 69 #[.val (.int p0_0), .val (.int p0_1), .val (.int p0_2), .val (.int p0_3), .val (.int p0_4), .val (.int i167), .val (.ref b169), .val (.int (p0_2 &&& (2147483647 : Int32))), .val (.ref b176), .unset, .unset, .unset, .unset, .unset] [(.int (0 : Int32))])) t
          exact k
        rw [show own_F0_61_2 p0_0 p0_1 p0_2 p0_3 p0_4 i167 i202 = (own_F0_69_3 p0_0 p0_1 p0_2 p0_3 p0_4 i167 i202 (0 : Int32)) from ((if_neg hc204).trans rfl)]
        exact J0_3 _ _ (0 : Int32) X203 e203 N203
    by_cases hc201 : (p0_2 &&& (2147483647 : Int32)) = (0 : Int32)
    · skip
      refine own_by (T' := T199) (g' := (mkF m 61 #[.val (.int p0_0), .val (.int p0_1), .val (.int p0_2), .val (.int p0_3), .val (.int p0_4), .val (.int i167), .val (.ref b169), .val (.int (p0_2 &&& (2147483647 : Int32))), .val (.ref b176), .unset, .unset, .unset, .unset, .unset] [(.int (1 : Int32)), (.int (own_F8 (p0_2 &&& (2147483647 : Int32))))])) (fun t k => ?_) ?_
      · show Steps p.tables e below (T199.setTop (mkF m 53 #[.val (.int p0_0), .val (.int p0_1), .val (.int p0_2), .val (.int p0_3), .val (.int p0_4), .val (.int i167), .val (.ref b169), .val (.int (p0_2 &&& (2147483647 : Int32))), .val (.ref b176), .unset, .unset, .unset, .unset, .unset] [(.int (p0_2 &&& (2147483647 : Int32))), (.int (own_F8 (p0_2 &&& (2147483647 : Int32))))])) t
        refine XS.ifNo X199.here hx rfl (hb hby at_53) rfl ((if0 _ _).trans (teq hc201).2) ?_
        show Steps p.tables e below (T199.setTop (mkF m 56 #[.val (.int p0_0), .val (.int p0_1), .val (.int p0_2), .val (.int p0_3), .val (.int p0_4), .val (.int i167), .val (.ref b169), .val (.int (p0_2 &&& (2147483647 : Int32))), .val (.ref b176), .unset, .unset, .unset, .unset, .unset] [(.int (own_F8 (p0_2 &&& (2147483647 : Int32))))])) t
        refine XS.iconst X199.here hx rfl (hb hby at_56) ?_
        show Steps p.tables e below (T199.setTop (mkF m 57 #[.val (.int p0_0), .val (.int p0_1), .val (.int p0_2), .val (.int p0_3), .val (.int p0_4), .val (.int i167), .val (.ref b169), .val (.int (p0_2 &&& (2147483647 : Int32))), .val (.ref b176), .unset, .unset, .unset, .unset, .unset] [(.int (1 : Int32)), (.int (own_F8 (p0_2 &&& (2147483647 : Int32))))])) t
        refine XS.goto X199.here hx rfl (pc0 := 57) (pc' := 61) rfl (hb hby at_57) (by decide) (by decide) ?_
        show Steps p.tables e below (T199.setTop (mkF m 61 #[.val (.int p0_0), .val (.int p0_1), .val (.int p0_2), .val (.int p0_3), .val (.int p0_4), .val (.int i167), .val (.ref b169), .val (.int (p0_2 &&& (2147483647 : Int32))), .val (.ref b176), .unset, .unset, .unset, .unset, .unset] [(.int (1 : Int32)), (.int (own_F8 (p0_2 &&& (2147483647 : Int32))))])) t
        exact k
      rw [show own_F0_11_1 p0_0 p0_1 p0_2 p0_3 p0_4 i167 = (own_F0_61_2 p0_0 p0_1 p0_2 p0_3 p0_4 i167 (1 : Int32)) from ((if_pos hc201).trans rfl)]
      exact J0_2 _ _ (1 : Int32) X199 e199 N200
    · skip
      refine own_by (T' := T199) (g' := (mkF m 61 #[.val (.int p0_0), .val (.int p0_1), .val (.int p0_2), .val (.int p0_3), .val (.int p0_4), .val (.int i167), .val (.ref b169), .val (.int (p0_2 &&& (2147483647 : Int32))), .val (.ref b176), .unset, .unset, .unset, .unset, .unset] [(.int (0 : Int32)), (.int (own_F8 (p0_2 &&& (2147483647 : Int32))))])) (fun t k => ?_) ?_
      · show Steps p.tables e below (T199.setTop (mkF m 53 #[.val (.int p0_0), .val (.int p0_1), .val (.int p0_2), .val (.int p0_3), .val (.int p0_4), .val (.int i167), .val (.ref b169), .val (.int (p0_2 &&& (2147483647 : Int32))), .val (.ref b176), .unset, .unset, .unset, .unset, .unset] [(.int (p0_2 &&& (2147483647 : Int32))), (.int (own_F8 (p0_2 &&& (2147483647 : Int32))))])) t
        refine XS.ifYes X199.here hx rfl (pc0 := 53) (pc' := 60) rfl (hb hby at_53) rfl ((if0 _ _).trans (feq hc201).2) (by decide) (by decide) ?_
        show Steps p.tables e below (T199.setTop (mkF m 60 #[.val (.int p0_0), .val (.int p0_1), .val (.int p0_2), .val (.int p0_3), .val (.int p0_4), .val (.int i167), .val (.ref b169), .val (.int (p0_2 &&& (2147483647 : Int32))), .val (.ref b176), .unset, .unset, .unset, .unset, .unset] [(.int (own_F8 (p0_2 &&& (2147483647 : Int32))))])) t
        refine XS.iconst X199.here hx rfl (hb hby at_60) ?_
        show Steps p.tables e below (T199.setTop (mkF m 61 #[.val (.int p0_0), .val (.int p0_1), .val (.int p0_2), .val (.int p0_3), .val (.int p0_4), .val (.int i167), .val (.ref b169), .val (.int (p0_2 &&& (2147483647 : Int32))), .val (.ref b176), .unset, .unset, .unset, .unset, .unset] [(.int (0 : Int32)), (.int (own_F8 (p0_2 &&& (2147483647 : Int32))))])) t
        exact k
      rw [show own_F0_11_1 p0_0 p0_1 p0_2 p0_3 p0_4 i167 = (own_F0_61_2 p0_0 p0_1 p0_2 p0_3 p0_4 i167 (0 : Int32)) from ((if_neg hc201).trans rfl)]
      exact J0_2 _ _ (0 : Int32) X199 e199 N200
  by_cases hc166 : (p0_1 &&& (1 : Int32)) = (0 : Int32)
  · skip
    refine own_by (T' := s₁) (g' := (mkF m 11 #[.val (.int p0_0), .val (.int p0_1), .val (.int p0_2), .val (.int p0_3), .val (.int p0_4), .unset, .unset, .unset, .unset, .unset, .unset, .unset, .unset, .unset] [(.int (0 : Int32))])) (fun t k => ?_) ?_
    · show Steps p.tables e below (s₁.setTop (mkF m 3 #[.val (.int p0_0), .val (.int p0_1), .val (.int p0_2), .val (.int p0_3), .val (.int p0_4), .unset, .unset, .unset, .unset, .unset, .unset, .unset, .unset, .unset] [(.int (p0_1 &&& (1 : Int32)))])) t
      refine XS.ifYes X0.here hx rfl (pc0 := 3) (pc' := 10) rfl (hb hby at_3) rfl ((if0 _ _).trans (teq hc166).1) (by decide) (by decide) ?_
      show Steps p.tables e below (s₁.setTop (mkF m 10 #[.val (.int p0_0), .val (.int p0_1), .val (.int p0_2), .val (.int p0_3), .val (.int p0_4), .unset, .unset, .unset, .unset, .unset, .unset, .unset, .unset, .unset] [])) t
      refine XS.iconst X0.here hx rfl (hb hby at_10) ?_
      show Steps p.tables e below (s₁.setTop (mkF m 11 #[.val (.int p0_0), .val (.int p0_1), .val (.int p0_2), .val (.int p0_3), .val (.int p0_4), .unset, .unset, .unset, .unset, .unset, .unset, .unset, .unset, .unset] [(.int (0 : Int32))])) t
      exact k
    rw [show own_F0 p0_0 p0_1 p0_2 p0_3 p0_4 = (own_F0_11_1 p0_0 p0_1 p0_2 p0_3 p0_4 (0 : Int32)) from ((if_pos hc166).trans rfl)]
    exact J0_1 _ _ (0 : Int32) X0 e0 N0
  · skip
    refine own_by (T' := s₁) (g' := (mkF m 11 #[.val (.int p0_0), .val (.int p0_1), .val (.int p0_2), .val (.int p0_3), .val (.int p0_4), .unset, .unset, .unset, .unset, .unset, .unset, .unset, .unset, .unset] [(.int (1 : Int32))])) (fun t k => ?_) ?_
    · show Steps p.tables e below (s₁.setTop (mkF m 3 #[.val (.int p0_0), .val (.int p0_1), .val (.int p0_2), .val (.int p0_3), .val (.int p0_4), .unset, .unset, .unset, .unset, .unset, .unset, .unset, .unset, .unset] [(.int (p0_1 &&& (1 : Int32)))])) t
      refine XS.ifNo X0.here hx rfl (hb hby at_3) rfl ((if0 _ _).trans (feq hc166).1) ?_
      show Steps p.tables e below (s₁.setTop (mkF m 6 #[.val (.int p0_0), .val (.int p0_1), .val (.int p0_2), .val (.int p0_3), .val (.int p0_4), .unset, .unset, .unset, .unset, .unset, .unset, .unset, .unset, .unset] [])) t
      refine XS.iconst X0.here hx rfl (hb hby at_6) ?_
      show Steps p.tables e below (s₁.setTop (mkF m 7 #[.val (.int p0_0), .val (.int p0_1), .val (.int p0_2), .val (.int p0_3), .val (.int p0_4), .unset, .unset, .unset, .unset, .unset, .unset, .unset, .unset, .unset] [(.int (1 : Int32))])) t
      refine XS.goto X0.here hx rfl (pc0 := 7) (pc' := 11) rfl (hb hby at_7) (by decide) (by decide) ?_
      show Steps p.tables e below (s₁.setTop (mkF m 11 #[.val (.int p0_0), .val (.int p0_1), .val (.int p0_2), .val (.int p0_3), .val (.int p0_4), .unset, .unset, .unset, .unset, .unset, .unset, .unset, .unset, .unset] [(.int (1 : Int32))])) t
      exact k
    rw [show own_F0 p0_0 p0_1 p0_2 p0_3 p0_4 = (own_F0_11_1 p0_0 p0_1 p0_2 p0_3 p0_4 (1 : Int32)) from ((if_neg hc166).trans rfl)]
    exact J0_1 _ _ (1 : Int32) X0 e0 N0
theorem own_law (a b c d e : Int32) : own_F0 a b c d e = 1 := by
  have h3 := own_and_le e 3 3 (by decide) (by decide)
  have h4 : e &&& 3 = 0 ∨ e &&& 3 = 1 ∨ e &&& 3 = 2 ∨ e &&& 3 = 3 := by
    simp only [← Int32.toInt_inj, show (0 : Int32).toInt = 0 from by decide, show (1 : Int32).toInt = 1 from by decide, show (2 : Int32).toInt = 2 from by decide, show (3 : Int32).toInt = 3 from by decide]
    omega
  have k : ∀ i : Int32, (i = 0 ∨ i = 1) → own_F0_69_3 a b c d e i 0 1 = 1 ∧ own_F0_69_3 a b c d e i 1 1 = 1 := by
    intro i hi
    unfold own_F0_69_3 own_F0_81_4
    rcases hi with rfl | rfl <;> rcases h4 with h | h | h | h <;> rw [h] <;> exact ⟨rfl, rfl⟩
  have k2 : ∀ i : Int32, (i = 0 ∨ i = 1) → own_F0_11_1 a b c d e i = 1 := by
    intro i hi
    unfold own_F0_11_1 own_F0_61_2 own_F8
    by_cases hc : c &&& 2147483647 = 0
    · rw [if_pos hc, if_pos hc, if_pos rfl]; exact (k i hi).2
    · rw [if_neg hc, if_neg hc, if_pos rfl]; exact (k i hi).1
  unfold own_F0
  split
  · exact k2 0 (Or.inl rfl)
  · exact k2 1 (Or.inr rfl)

set_option maxRecDepth 65536 in
set_option maxHeartbeats 40000000 in
theorem own_comes {Post : Tables → Env → Array Value → State → Outcome → State → Prop} (hpost : ∀ tb e args s v u, (limb_1_1.after args s (.returned v) u = true ∧ limb_1_2.after args s (.returned v) u = true ∧ True) → FrameEnd s (.returned v) u (Jvm.fieldLocs frame_1_writes args s ++ Jvm.arrayLocs frame_1_arrays args s ++ Jvm.staticLocs frame_1_statics s) 24 128 → Post tb e args s (.returned v) u) :
    ArmFor flags0 classFile x code maxLocals ret World_1 tables_1 room_1 Calls_1 rest_1 Pre_1 Post := by
  intro l hfl _ _ p e ha hc hk s m args below hf hA hF happ hP
  obtain ⟨hcalls, hrest, hpre⟩ := hP
  obtain ⟨-, -, -, hnamed, -, -, -, hat⟩ := (Spec.applies_iff hf).mp happ
  obtain ⟨hg, hn⟩ := and_e (Cond.before_iff.mp (show (Jvm.Cond.and given_1 narrow_1).before args s = true from hpre))
  obtain ⟨hg1, hg2⟩ := and_e hg
  obtain ⟨hg3, hg4⟩ := and_e hg2
  obtain ⟨hg5, hg6⟩ := and_e hg4
  obtain ⟨hg7, hg8⟩ := and_e hg6
  obtain ⟨hg9, hg10⟩ := and_e hg8
  obtain ⟨w0, w1, w2, w3, w4, rfl⟩ : ∃ w0 w1 w2 w3 w4 : Value, args = #[w0, w1, w2, w3, w4] := by
    have hs : args.size = 5 := by simpa [Cond.value, given_1] using hg1
    obtain ⟨L⟩ := args
    match L, hs with
    | [w0, w1, w2, w3, w4], _ => exact ⟨w0, w1, w2, w3, w4, rfl⟩
  have hw := fun d (hd : d ∈ tables_1) => atoms_spec (ws := Jvm.Cond.code x code maxLocals ret :: tables_1) hat d (List.mem_cons_of_mem _ hd)
  have hfit : Fit s := fun {y c} hc i hi => by
    obtain ⟨ha, rfl⟩ := Array.getElem?_eq_some_iff.mp hc
    have q := List.all_eq_true.mp ((Array.all_eq_true_iff_forall_mem.mp hF) _ (Array.getElem_mem ha)) i (List.mem_range.mpr hi)
    simpa [Array.getElem?_eq_getElem hi] using q
  obtain ⟨hsets, hown0⟩ := atoms_of _ (rest_1_c_eq ▸ (show rest_1_c.before _ s = true from hrest))
  have hr0 := Cond.before_iff.mp hown0
  obtain ⟨i0, ei0⟩ := is_v hg3
  obtain rfl : w0 = (.int i0) := Option.some.inj ei0
  obtain ⟨i1, ei1⟩ := is_v hg5
  obtain rfl : w1 = (.int i1) := Option.some.inj ei1
  obtain ⟨i2, ei2⟩ := is_v hg7
  obtain rfl : w2 = (.int i2) := Option.some.inj ei2
  obtain ⟨i3, ei3⟩ := is_v hg9
  obtain rfl : w3 = (.int i3) := Option.some.inj ei3
  obtain ⟨i4, ei4⟩ := is_v hg10
  obtain rfl : w4 = (.int i4) := Option.some.inj ei4
  obtain ⟨cs, ecs⟩ := is_v (Cond.before_iff.mp (hsets _ (List.mem_of_getElem? (i := 1) rfl)))
  have SC : Sta s s.heap "java/lang/String" "COMPACT_STRINGS" "Z" (.int cs) := Sta.start ecs (Or.inl (hsets _ (List.mem_of_getElem? (i := 0) rfl)))
  have HCS : ¬ (cs = (0 : Int32)) := gotF (Cond.eq_ints ecs (Term.int_eval (0))) (not_v (Cond.before_iff.mp (hsets _ (List.mem_of_getElem? (i := 2) rfl))))
  obtain ⟨n, o, h1, h2, h3, _, L, rfl, ⟨rfl, N⟩, hq⟩ := own_rm0 l s _ hw tables_1 i0 i1 i2 i3 i4 cs s.heap s.heap.size (Nat.le_refl _) (Old.start s) SC HCS p e ha hc hk s m _ below hf ((Spec.applies_iff_loose hf).mp happ).1 ⟨rfl, State.Warmed39.refl s, rfl⟩ trivial
  refine ⟨n, _, h1, h2, h3, hpost _ _ _ _ _ _ ⟨Cond.after_iff.mpr rfl, Cond.after_iff.mpr (eq_i res_at (Term.int_eval (1)) (congrArg Value.int (own_law i0 i1 i2 i3 i4))), trivial⟩ ⟨hq.1, hq.2.1, (hq.2.2.sift fun y hy => Or.inr (N y hy)).mono (by decide) (by decide)⟩⟩
theorem main_1_1 : Claimed_1_1 := own_comes fun _ _ _ _ _ _ h hF => ⟨h.1, hF⟩
theorem main_1_2 : Claimed_1_2 := own_comes fun _ _ _ _ _ _ h hF => ⟨h.2.1, hF⟩
end Jvm.Pilot.@@N@@
namespace Jvm.Pilot.@@N@@
open Jvm Jvm.ClassFile Sem Op Lib Jvm.Free Jvm.Stand Jvm.Pilot.@@N@@.Jvm.D
/-! MADE BY PROGRAM (witnessworld.py) out of the Statement's table words and the real class files: 19 classes; the members and pool entries that the words name. The judged class is class 1, her method 1. -/
namespace start1
open Jvm.ClassFile
def u (s : String) : CpInfo := .utf8 (stringToUtf16 s)
/-- a pool by its gaps: so many unusable entries, then the entry; so many at the end -/
def gap : Nat → List CpInfo → List CpInfo
  | 0, r => r
  | n + 1, r => .unusable :: gap n r
def poolList (es : List (Nat × CpInfo)) (last : Nat) : List CpInfo := es.foldr (fun e r => gap e.1 (e.2 :: r)) (gap last [])
def pool (es : List (Nat × CpInfo)) (last : Nat) : Array CpInfo := ⟨poolList es last⟩
def fileOf (pool : Array CpInfo) (this : Nat) (attrs : Array Attribute := #[]) (ms : Array MethodInfo := #[]) (fl : Nat := 33) (sup : Nat := 0) (ifs : Array Nat := #[]) (fds : Array FieldInfo := #[]) : ClassFile where
  minorVersion := 0
  majorVersion := 65
  constantPool := pool
  accessFlags := fl
  thisClass := this
  superClass := sup
  interfaces := ifs
  fields := fds
  methods := ms
  attributes := attrs
def plain (name : String) (sup : Option ClassId) : Class where
  name := name
  kind := .ordinary
  loader := none
  accessFlags := 33
  super := sup
  interfaces := #[]
  cf := none
  fields := #[]
  methods := #[]
  instanceTypes := #[]
  staticTypes := #[]
  resolved := #[]
  callSites := []
  init := .initialized
  statics := none
  mirror := none

def pool0 : Array CpInfo := pool [(5, u "<init>"), (0, u "()V"), (1, .class_ 10), (1, u "java/lang/Object")] 113

def k0c0 : Code := { maxStack := 0, maxLocals := 1, code := object_method_1_code, exceptionTable := #[], attributes := #[] }
def k0m0 : Method := { name := "<init>", desc := "()V", sig := { parameters := [], returnType := none }, accessFlags := 1, code := some k0c0 }
/-- java/lang/Object -/
def k0 : Class := { plain "java/lang/Object" none with
  accessFlags := 33
  interfaces := #[]
  cf := some (fileOf pool0 8 #[] #[{ accessFlags := 1, nameIndex := 5, descriptorIndex := 6, attributes := #[] }] 33 0 #[] #[])
  fields := #[]
  methods := #[k0m0]
  instanceTypes := #[]
  staticTypes := #[]
  resolved := Array.replicate 124 none
  statics := none }

def pool1 : Array CpInfo := pool [(2, .class_ 4), (1, u "java/lang/Object"), (0, u "<init>"), (0, u "()V"), (0, .methodref 8 9), (0, .class_ 10), (0, .nameAndType 11 12), (0, u "java/lang/String"), (0, u "valueOf"), (0, u "(C)Ljava/lang/String;"), (0, .integer 2147483647), (0, .class_ 15), (0, u "com/example/topping_out/toppingout/game/Player"), (0, .methodref 14 17), (0, .nameAndType 5 18), (0, u "(Ljava/lang/String;ZII)V"), (0, .methodref 14 20), (0, .nameAndType 21 22), (0, u "out"), (0, u "()Z"), (0, .methodref 24 25), (0, .class_ 26), (0, .nameAndType 27 28), (0, u "java/lang/Math"), (0, u "min"), (0, u "(II)I"), (0, .methodref 14 30), (0, .nameAndType 31 32), (0, u "seated"), (0, u "(Ljava/lang/String;Z)Lcom/example/topping_out/toppingout/game/Player;"), (0, .methodref 14 34), (0, .nameAndType 35 36), (0, u "lessACertificate"), (0, u "()Lcom/example/topping_out/toppingout/game/Player;"), (0, .class_ 38), (0, u "com/example/topping_out/toppingout/game/PlayerOutPinLaw"), (2, u "law"), (0, u "(IIIII)Z")] 3

def k1m0 : Method := { name := "<init>", desc := "()V", sig := { parameters := [], returnType := none }, accessFlags := 1, code := none }
def k1c1 : Code := { maxStack := 6, maxLocals := 14, code := code, exceptionTable := #[], attributes := #[] }
def k1m1 : Method := { name := "law", desc := "(IIIII)Z", sig := { parameters := [.int, .int, .int, .int, .int], returnType := some .boolean }, accessFlags := 9, code := some k1c1 }
/-- com/example/topping_out/toppingout/game/PlayerOutPinLaw -/
def k1 : Class := { plain "com/example/topping_out/toppingout/game/PlayerOutPinLaw" (some 0) with
  accessFlags := 49
  interfaces := #[]
  cf := some (fileOf pool1 37 #[] #[{ accessFlags := 1, nameIndex := 5, descriptorIndex := 6, attributes := #[] }, { accessFlags := 9, nameIndex := 41, descriptorIndex := 42, attributes := #[] }] 49 2 #[] #[])
  fields := #[]
  methods := #[k1m0, k1m1]
  instanceTypes := #[]
  staticTypes := #[]
  resolved := Array.replicate 46 none
  statics := none }

def pool2 : Array CpInfo := pool [(1, .class_ 2), (0, u "java/io/Serializable"), (0, .class_ 4), (0, u "java/lang/Object")] 2

/-- java/io/Serializable -/
def k2 : Class := { plain "java/io/Serializable" (some 0) with
  accessFlags := 1537
  interfaces := #[]
  cf := some (fileOf pool2 1 #[] #[] 1537 3 #[] #[])
  fields := #[]
  methods := #[]
  instanceTypes := #[]
  staticTypes := #[]
  resolved := Array.replicate 7 none
  statics := none }

def pool3 : Array CpInfo := pool [(1, .class_ 2), (0, u "java/lang/Comparable"), (0, .class_ 4), (0, u "java/lang/Object")] 7

/-- java/lang/Comparable -/
def k3 : Class := { plain "java/lang/Comparable" (some 0) with
  accessFlags := 1537
  interfaces := #[]
  cf := some (fileOf pool3 1 #[] #[] 1537 3 #[] #[])
  fields := #[]
  methods := #[]
  instanceTypes := #[]
  staticTypes := #[]
  resolved := Array.replicate 12 none
  statics := none }

def pool4 : Array CpInfo := pool [(2, .class_ 4), (1, u "java/lang/CharSequence"), (42, .class_ 48), (0, u "java/lang/CharSequence$1CodePointIterator"), (10, .class_ 60), (0, u "java/lang/CharSequence$1CharIterator"), (5, .class_ 67), (0, u "java/lang/Object")] 63

/-- java/lang/CharSequence -/
def k4 : Class := { plain "java/lang/CharSequence" (some 0) with
  accessFlags := 1537
  interfaces := #[]
  cf := some (fileOf pool4 2 #[.nestMembers #[47, 59]] #[] 1537 66 #[] #[])
  fields := #[]
  methods := #[]
  instanceTypes := #[]
  staticTypes := #[]
  resolved := Array.replicate 131 none
  statics := none }

def pool5 : Array CpInfo := pool [(1, .class_ 2), (0, u "java/lang/constant/Constable"), (0, .class_ 4), (0, u "java/lang/Object")] 6

/-- java/lang/constant/Constable -/
def k5 : Class := { plain "java/lang/constant/Constable" (some 0) with
  accessFlags := 1537
  interfaces := #[]
  cf := some (fileOf pool5 1 #[] #[] 1537 3 #[] #[])
  fields := #[]
  methods := #[]
  instanceTypes := #[]
  staticTypes := #[]
  resolved := Array.replicate 11 none
  statics := none }

def pool6 : Array CpInfo := pool [(1, .class_ 2), (0, u "java/lang/constant/ConstantDesc"), (0, .class_ 4), (0, u "java/lang/Object")] 32

/-- java/lang/constant/ConstantDesc -/
def k6 : Class := { plain "java/lang/constant/ConstantDesc" (some 0) with
  accessFlags := 1537
  interfaces := #[]
  cf := some (fileOf pool6 1 #[] #[] 1537 3 #[] #[])
  fields := #[]
  methods := #[]
  instanceTypes := #[]
  staticTypes := #[]
  resolved := Array.replicate 37 none
  statics := none }

def pool7 : Array CpInfo := pool [(1, .methodref 2 3), (0, .class_ 4), (0, .nameAndType 5 6), (0, u "java/lang/Object"), (0, u "<init>"), (0, u "()V"), (2, .fieldref 10 11), (0, .class_ 12), (0, .nameAndType 13 14), (0, u "java/lang/String"), (0, u "value"), (0, u "[B"), (0, .fieldref 10 16), (0, .nameAndType 17 18), (0, u "coder"), (0, u "B"), (2, u "hash"), (0, u "I"), (2, u "hashIsZero"), (0, u "Z"), (11, .fieldref 10 39), (0, .nameAndType 40 26), (0, u "COMPACT_STRINGS"), (12, u "toBytes"), (53, .class_ 109), (1, u "java/lang/StringLatin1"), (99, .methodref 10 210), (0, .nameAndType 5 211), (0, u "([BB)V"), (157, u "(C)Z"), (205, .class_ 576), (0, u "java/lang/CharSequence"), (22, u "CASE_INSENSITIVE_ORDER"), (0, u "Ljava/util/Comparator;"), (181, u "valueOf"), (0, u "(C)Ljava/lang/String;"), (231, .methodref 107 1016), (0, .nameAndType 1017 369), (0, u "canEncode"), (0, .methodref 107 1019), (0, .nameAndType 53 1020), (0, u "(C)[B"), (80, u "serialPersistentFields"), (0, u "[Ljava/io/ObjectStreamField;"), (0, .class_ 1104), (0, u "java/lang/String$CaseInsensitiveComparator"), (1, .class_ 1107), (0, u "java/io/Serializable"), (0, .class_ 1109), (0, u "java/lang/Comparable"), (0, .class_ 1111), (0, u "java/lang/constant/Constable"), (0, .class_ 1113), (0, u "java/lang/constant/ConstantDesc"), (2, u "serialVersionUID"), (0, u "J"), (3, u "REPL"), (0, u "C"), (2, u "LATIN1"), (1, u "UTF16")] 323

def k7m0 : Method := { name := "<init>", desc := "()V", sig := { parameters := [], returnType := none }, accessFlags := 1, code := none }
def k7c1 : Code := { maxStack := 4, maxLocals := 1, code := jdk_42_method_139_code, exceptionTable := #[], attributes := #[] }
def k7m1 : Method := { name := "valueOf", desc := "(C)Ljava/lang/String;", sig := { parameters := [.char], returnType := some (.object "java/lang/String") }, accessFlags := 9, code := some k7c1 }
def k7c2 : Code := { maxStack := 2, maxLocals := 3, code := jdk_42_method_151_code, exceptionTable := #[], attributes := #[] }
def k7m2 : Method := { name := "<init>", desc := "([BB)V", sig := { parameters := [(.array .byte), .byte], returnType := none }, accessFlags := 0, code := some k7c2 }
/-- java/lang/String -/
def k7 : Class := { plain "java/lang/String" (some 0) with
  accessFlags := 49
  interfaces := #[2, 3, 4, 5, 6]
  cf := some (fileOf pool7 10 #[.nestMembers #[1103]] #[{ accessFlags := 1, nameIndex := 5, descriptorIndex := 6, attributes := #[] }, { accessFlags := 9, nameIndex := 782, descriptorIndex := 783, attributes := #[] }, { accessFlags := 0, nameIndex := 5, descriptorIndex := 211, attributes := #[] }] 49 2 #[1106, 1108, 575, 1110, 1112] #[{ accessFlags := 18, nameIndex := 13, descriptorIndex := 14, attributes := #[] }, { accessFlags := 18, nameIndex := 17, descriptorIndex := 18, attributes := #[] }, { accessFlags := 2, nameIndex := 21, descriptorIndex := 22, attributes := #[] }, { accessFlags := 2, nameIndex := 25, descriptorIndex := 26, attributes := #[] }, { accessFlags := 26, nameIndex := 1116, descriptorIndex := 1117, attributes := #[] }, { accessFlags := 24, nameIndex := 40, descriptorIndex := 26, attributes := #[] }, { accessFlags := 26, nameIndex := 1101, descriptorIndex := 1102, attributes := #[] }, { accessFlags := 26, nameIndex := 1121, descriptorIndex := 1122, attributes := #[] }, { accessFlags := 25, nameIndex := 599, descriptorIndex := 600, attributes := #[] }, { accessFlags := 24, nameIndex := 1125, descriptorIndex := 18, attributes := #[] }, { accessFlags := 24, nameIndex := 1127, descriptorIndex := 18, attributes := #[] }])
  fields := #[{ name := "value", type := (.array .byte), accessFlags := 18, slot := 0, constantValue := 0 }, { name := "coder", type := .byte, accessFlags := 18, slot := 1, constantValue := 0 }, { name := "hash", type := .int, accessFlags := 2, slot := 2, constantValue := 0 }, { name := "hashIsZero", type := .boolean, accessFlags := 2, slot := 3, constantValue := 0 }, { name := "serialVersionUID", type := .long, accessFlags := 26, slot := 0, constantValue := 0 }, { name := "COMPACT_STRINGS", type := .boolean, accessFlags := 24, slot := 1, constantValue := 0 }, { name := "serialPersistentFields", type := (.array (.object "java/io/ObjectStreamField")), accessFlags := 26, slot := 2, constantValue := 0 }, { name := "REPL", type := .char, accessFlags := 26, slot := 3, constantValue := 0 }, { name := "CASE_INSENSITIVE_ORDER", type := (.object "java/util/Comparator"), accessFlags := 25, slot := 4, constantValue := 0 }, { name := "LATIN1", type := .byte, accessFlags := 24, slot := 5, constantValue := 0 }, { name := "UTF16", type := .byte, accessFlags := 24, slot := 6, constantValue := 0 }]
  methods := #[k7m0, k7m1, k7m2]
  instanceTypes := #[(.array .byte), .byte, .int, .boolean]
  staticTypes := #[.long, .boolean, (.array (.object "java/io/ObjectStreamField")), .char, (.object "java/util/Comparator"), .byte, .byte]
  resolved := Array.replicate 1451 none
  statics := some 0 }

def pool8 : Array CpInfo := pool [(4, .class_ 6), (1, u "java/lang/Object"), (0, u "<init>"), (0, u "()V"), (5, .class_ 16), (1, u "java/lang/StringLatin1"), (73, u "canEncode"), (14, u "(C)Z"), (15, u "$assertionsDisabled"), (0, u "Z"), (98, .class_ 223), (1, u "java/lang/StringLatin1$LinesSpliterator"), (156, u "toBytes"), (1, u "(C)[B"), (7, .class_ 391), (0, u "java/lang/StringLatin1$CharsSpliterator")] 3

def k8m0 : Method := { name := "<init>", desc := "()V", sig := { parameters := [], returnType := none }, accessFlags := 0, code := none }
def k8c1 : Code := { maxStack := 2, maxLocals := 1, code := jdk_43_method_3_code, exceptionTable := #[], attributes := #[] }
def k8m1 : Method := { name := "canEncode", desc := "(C)Z", sig := { parameters := [.char], returnType := some .boolean }, accessFlags := 9, code := some k8c1 }
def k8c2 : Code := { maxStack := 4, maxLocals := 1, code := jdk_43_method_46_code, exceptionTable := #[], attributes := #[] }
def k8m2 : Method := { name := "toBytes", desc := "(C)[B", sig := { parameters := [.char], returnType := some (.array .byte) }, accessFlags := 9, code := some k8c2 }
/-- java/lang/StringLatin1 -/
def k8 : Class := { plain "java/lang/StringLatin1" (some 0) with
  accessFlags := 48
  interfaces := #[]
  cf := some (fileOf pool8 14 #[.nestMembers #[390, 221]] #[{ accessFlags := 0, nameIndex := 7, descriptorIndex := 8, attributes := #[] }, { accessFlags := 9, nameIndex := 90, descriptorIndex := 105, attributes := #[] }, { accessFlags := 9, nameIndex := 380, descriptorIndex := 382, attributes := #[] }] 48 4 #[] #[{ accessFlags := 4120, nameIndex := 121, descriptorIndex := 122, attributes := #[] }])
  fields := #[{ name := "$assertionsDisabled", type := .boolean, accessFlags := 4120, slot := 0, constantValue := 0 }]
  methods := #[k8m0, k8m1, k8m2]
  instanceTypes := #[]
  staticTypes := #[.boolean]
  resolved := Array.replicate 395 none
  statics := none }

def pool9 : Array CpInfo := pool [(1, .methodref 2 3), (0, .class_ 4), (0, .nameAndType 5 6), (0, u "java/lang/Object"), (0, u "<init>"), (0, u "()V"), (0, .class_ 8), (0, u "java/lang/Record")] 13

def k9c0 : Code := { maxStack := 1, maxLocals := 1, code := jdk_30_method_1_code, exceptionTable := #[], attributes := #[] }
def k9m0 : Method := { name := "<init>", desc := "()V", sig := { parameters := [], returnType := none }, accessFlags := 4, code := some k9c0 }
/-- java/lang/Record -/
def k9 : Class := { plain "java/lang/Record" (some 0) with
  accessFlags := 1057
  interfaces := #[]
  cf := some (fileOf pool9 7 #[] #[{ accessFlags := 4, nameIndex := 5, descriptorIndex := 6, attributes := #[] }] 1057 2 #[] #[])
  fields := #[]
  methods := #[k9m0]
  instanceTypes := #[]
  staticTypes := #[]
  resolved := Array.replicate 22 none
  statics := none }

def pool10 : Array CpInfo := pool [(1, .methodref 2 3), (0, .class_ 4), (0, .nameAndType 5 6), (0, u "java/lang/Record"), (0, u "<init>"), (0, u "()V"), (0, .fieldref 8 9), (0, .class_ 10), (0, .nameAndType 11 12), (0, u "com/example/topping_out/toppingout/game/Player"), (0, u "name"), (0, u "Ljava/lang/String;"), (0, .fieldref 8 14), (0, .nameAndType 15 16), (0, u "expert"), (0, u "Z"), (0, .fieldref 8 18), (0, .nameAndType 19 20), (0, u "certificates"), (0, u "I"), (0, .fieldref 8 22), (0, .nameAndType 23 20), (0, u "awards"), (0, .methodref 8 25), (0, .nameAndType 5 26), (0, u "(Ljava/lang/String;ZII)V"), (25, u "out"), (2, u "()Z"), (12, u "CERTIFICATES"), (5, u "seated"), (0, u "(Ljava/lang/String;Z)Lcom/example/topping_out/toppingout/game/Player;"), (3, u "lessACertificate"), (0, u "()Lcom/example/topping_out/toppingout/game/Player;")] 31

def k10c0 : Code := { maxStack := 2, maxLocals := 5, code := prog_6_method_1_code, exceptionTable := #[], attributes := #[] }
def k10m0 : Method := { name := "<init>", desc := "(Ljava/lang/String;ZII)V", sig := { parameters := [(.object "java/lang/String"), .boolean, .int, .int], returnType := none }, accessFlags := 0, code := some k10c0 }
def k10c1 : Code := { maxStack := 6, maxLocals := 2, code := prog_6_method_2_code, exceptionTable := #[], attributes := #[] }
def k10m1 : Method := { name := "seated", desc := "(Ljava/lang/String;Z)Lcom/example/topping_out/toppingout/game/Player;", sig := { parameters := [(.object "java/lang/String"), .boolean], returnType := some (.object "com/example/topping_out/toppingout/game/Player") }, accessFlags := 8, code := some k10c1 }
def k10c2 : Code := { maxStack := 6, maxLocals := 1, code := prog_6_method_3_code, exceptionTable := #[], attributes := #[] }
def k10m2 : Method := { name := "lessACertificate", desc := "()Lcom/example/topping_out/toppingout/game/Player;", sig := { parameters := [], returnType := some (.object "com/example/topping_out/toppingout/game/Player") }, accessFlags := 0, code := some k10c2 }
def k10c3 : Code := { maxStack := 1, maxLocals := 1, code := prog_6_method_5_code, exceptionTable := #[], attributes := #[] }
def k10m3 : Method := { name := "out", desc := "()Z", sig := { parameters := [], returnType := some .boolean }, accessFlags := 0, code := some k10c3 }
/-- com/example/topping_out/toppingout/game/Player -/
def k10 : Class := { plain "com/example/topping_out/toppingout/game/Player" (some 9) with
  accessFlags := 48
  interfaces := #[]
  cf := some (fileOf pool10 8 #[] #[{ accessFlags := 0, nameIndex := 5, descriptorIndex := 26, attributes := #[] }, { accessFlags := 8, nameIndex := 74, descriptorIndex := 75, attributes := #[] }, { accessFlags := 0, nameIndex := 79, descriptorIndex := 80, attributes := #[] }, { accessFlags := 0, nameIndex := 52, descriptorIndex := 55, attributes := #[] }] 48 2 #[] #[{ accessFlags := 18, nameIndex := 11, descriptorIndex := 12, attributes := #[] }, { accessFlags := 18, nameIndex := 15, descriptorIndex := 16, attributes := #[] }, { accessFlags := 18, nameIndex := 19, descriptorIndex := 20, attributes := #[] }, { accessFlags := 18, nameIndex := 23, descriptorIndex := 20, attributes := #[] }, { accessFlags := 24, nameIndex := 68, descriptorIndex := 20, attributes := #[] }])
  fields := #[{ name := "name", type := (.object "java/lang/String"), accessFlags := 18, slot := 0, constantValue := 0 }, { name := "expert", type := .boolean, accessFlags := 18, slot := 1, constantValue := 0 }, { name := "certificates", type := .int, accessFlags := 18, slot := 2, constantValue := 0 }, { name := "awards", type := .int, accessFlags := 18, slot := 3, constantValue := 0 }, { name := "CERTIFICATES", type := .int, accessFlags := 24, slot := 0, constantValue := 0 }]
  methods := #[k10m0, k10m1, k10m2, k10m3]
  instanceTypes := #[(.object "java/lang/String"), .boolean, .int, .int]
  staticTypes := #[.int]
  resolved := Array.replicate 112 none
  statics := none }

def pool11 : Array CpInfo := pool [(1, .class_ 2), (0, u "java/lang/Math"), (1, .class_ 6), (1, u "java/lang/Object"), (0, u "<init>"), (0, u "()V"), (89, .class_ 100), (1, u "java/lang/Math$RandomNumberGeneratorHolder"), (71, u "negativeZeroFloatBits"), (0, u "J"), (2, u "negativeZeroDoubleBits"), (24, u "min"), (43, u "$assertionsDisabled"), (0, u "Z"), (88, u "(II)I"), (2, u "twoToTheDoubleScaleDown"), (0, u "D"), (4, u "twoToTheDoubleScaleUp"), (9, u "E"), (3, u "PI"), (2, u "TAU"), (2, u "DEGREES_TO_RADIANS"), (0, u "RADIANS_TO_DEGREES")] 94

def k11m0 : Method := { name := "<init>", desc := "()V", sig := { parameters := [], returnType := none }, accessFlags := 2, code := none }
def k11c1 : Code := { maxStack := 2, maxLocals := 2, code := jdk_29_method_69_code, exceptionTable := #[], attributes := #[] }
def k11m1 : Method := { name := "min", desc := "(II)I", sig := { parameters := [.int, .int], returnType := some .int }, accessFlags := 9, code := some k11c1 }
/-- java/lang/Math -/
def k11 : Class := { plain "java/lang/Math" (some 0) with
  accessFlags := 49
  interfaces := #[]
  cf := some (fileOf pool11 1 #[.nestMembers #[98]] #[{ accessFlags := 2, nameIndex := 7, descriptorIndex := 8, attributes := #[] }, { accessFlags := 9, nameIndex := 201, descriptorIndex := 335, attributes := #[] }] 49 4 #[] #[{ accessFlags := 25, nameIndex := 354, descriptorIndex := 339, attributes := #[] }, { accessFlags := 25, nameIndex := 358, descriptorIndex := 339, attributes := #[] }, { accessFlags := 25, nameIndex := 361, descriptorIndex := 339, attributes := #[] }, { accessFlags := 26, nameIndex := 364, descriptorIndex := 339, attributes := #[] }, { accessFlags := 26, nameIndex := 365, descriptorIndex := 339, attributes := #[] }, { accessFlags := 26, nameIndex := 172, descriptorIndex := 173, attributes := #[] }, { accessFlags := 26, nameIndex := 176, descriptorIndex := 173, attributes := #[] }, { accessFlags := 8, nameIndex := 344, descriptorIndex := 339, attributes := #[] }, { accessFlags := 8, nameIndex := 338, descriptorIndex := 339, attributes := #[] }, { accessFlags := 4120, nameIndex := 245, descriptorIndex := 246, attributes := #[] }])
  fields := #[{ name := "E", type := .double, accessFlags := 25, slot := 0, constantValue := 0 }, { name := "PI", type := .double, accessFlags := 25, slot := 1, constantValue := 0 }, { name := "TAU", type := .double, accessFlags := 25, slot := 2, constantValue := 0 }, { name := "DEGREES_TO_RADIANS", type := .double, accessFlags := 26, slot := 3, constantValue := 0 }, { name := "RADIANS_TO_DEGREES", type := .double, accessFlags := 26, slot := 4, constantValue := 0 }, { name := "negativeZeroFloatBits", type := .long, accessFlags := 26, slot := 5, constantValue := 0 }, { name := "negativeZeroDoubleBits", type := .long, accessFlags := 26, slot := 6, constantValue := 0 }, { name := "twoToTheDoubleScaleUp", type := .double, accessFlags := 8, slot := 7, constantValue := 0 }, { name := "twoToTheDoubleScaleDown", type := .double, accessFlags := 8, slot := 8, constantValue := 0 }, { name := "$assertionsDisabled", type := .boolean, accessFlags := 4120, slot := 9, constantValue := 0 }]
  methods := #[k11m0, k11m1]
  instanceTypes := #[]
  staticTypes := #[.double, .double, .double, .double, .double, .long, .long, .double, .double, .boolean]
  resolved := Array.replicate 460 none
  statics := none }

def pool12 : Array CpInfo := pool [(2, .class_ 4), (1, u "java/lang/Object"), (0, u "<init>"), (0, u "()V"), (17, .class_ 26), (1, u "jdk/internal/util/Preconditions"), (28, .class_ 56), (0, u "jdk/internal/util/Preconditions$4"), (57, .class_ 115), (0, u "jdk/internal/util/Preconditions$1"), (7, u "SIOOBE_FORMATTER"), (0, u "Ljava/util/function/BiFunction;"), (0, .class_ 126), (0, u "jdk/internal/util/Preconditions$2"), (3, u "AIOOBE_FORMATTER"), (0, .class_ 132), (0, u "jdk/internal/util/Preconditions$3"), (3, u "IOOBE_FORMATTER")] 57

def k12m0 : Method := { name := "<init>", desc := "()V", sig := { parameters := [], returnType := none }, accessFlags := 1, code := none }
/-- jdk/internal/util/Preconditions -/
def k12 : Class := { plain "jdk/internal/util/Preconditions" (some 0) with
  accessFlags := 33
  interfaces := #[]
  cf := some (fileOf pool12 24 #[.nestMembers #[55, 131, 125, 114]] #[{ accessFlags := 1, nameIndex := 5, descriptorIndex := 6, attributes := #[] }] 33 2 #[] #[{ accessFlags := 25, nameIndex := 123, descriptorIndex := 124, attributes := #[] }, { accessFlags := 25, nameIndex := 130, descriptorIndex := 124, attributes := #[] }, { accessFlags := 25, nameIndex := 136, descriptorIndex := 124, attributes := #[] }])
  fields := #[{ name := "SIOOBE_FORMATTER", type := (.object "java/util/function/BiFunction"), accessFlags := 25, slot := 0, constantValue := 0 }, { name := "AIOOBE_FORMATTER", type := (.object "java/util/function/BiFunction"), accessFlags := 25, slot := 1, constantValue := 0 }, { name := "IOOBE_FORMATTER", type := (.object "java/util/function/BiFunction"), accessFlags := 25, slot := 2, constantValue := 0 }]
  methods := #[k12m0]
  instanceTypes := #[]
  staticTypes := #[(.object "java/util/function/BiFunction"), (.object "java/util/function/BiFunction"), (.object "java/util/function/BiFunction")]
  resolved := Array.replicate 194 none
  statics := some 1 }

def pool13 : Array CpInfo := pool [(9, u "<init>"), (6, .class_ 18), (1, u "java/lang/Object"), (0, u "()V"), (1, .class_ 23), (1, u "jdk/internal/util/ArraysSupport"), (0, u "LOG2_ARRAY_LONG_INDEX_SCALE"), (0, u "I"), (2, u "U"), (0, u "Ljdk/internal/misc/Unsafe;"), (8, u "BIG_ENDIAN"), (0, u "Z"), (8, u "LOG2_BYTE_BIT_SIZE"), (4, u "LOG2_ARRAY_INT_INDEX_SCALE"), (54, u "JLA"), (0, u "Ljdk/internal/access/JavaLangAccess;"), (11, u "LOG2_ARRAY_BOOLEAN_INDEX_SCALE"), (9, u "LOG2_ARRAY_BYTE_INDEX_SCALE"), (5, u "LOG2_ARRAY_CHAR_INDEX_SCALE"), (5, u "LOG2_ARRAY_SHORT_INDEX_SCALE"), (18, u "LOG2_ARRAY_FLOAT_INDEX_SCALE"), (24, u "LOG2_ARRAY_DOUBLE_INDEX_SCALE"), (89, u "T_BOOLEAN"), (2, u "T_CHAR"), (1, u "T_FLOAT"), (1, u "T_DOUBLE"), (1, u "T_BYTE"), (1, u "T_SHORT"), (1, u "T_INT"), (1, u "T_LONG"), (1, u "SOFT_MAX_ARRAY_LENGTH")] 83

def k13m0 : Method := { name := "<init>", desc := "()V", sig := { parameters := [], returnType := none }, accessFlags := 2, code := none }
/-- jdk/internal/util/ArraysSupport -/
def k13 : Class := { plain "jdk/internal/util/ArraysSupport" (some 0) with
  accessFlags := 33
  interfaces := #[]
  cf := some (fileOf pool13 21 #[] #[{ accessFlags := 2, nameIndex := 9, descriptorIndex := 19, attributes := #[] }] 33 16 #[] #[{ accessFlags := 24, nameIndex := 28, descriptorIndex := 29, attributes := #[] }, { accessFlags := 26, nameIndex := 38, descriptorIndex := 39, attributes := #[] }, { accessFlags := 25, nameIndex := 121, descriptorIndex := 25, attributes := #[] }, { accessFlags := 25, nameIndex := 131, descriptorIndex := 25, attributes := #[] }, { accessFlags := 25, nameIndex := 137, descriptorIndex := 25, attributes := #[] }, { accessFlags := 25, nameIndex := 143, descriptorIndex := 25, attributes := #[] }, { accessFlags := 25, nameIndex := 53, descriptorIndex := 25, attributes := #[] }, { accessFlags := 25, nameIndex := 24, descriptorIndex := 25, attributes := #[] }, { accessFlags := 25, nameIndex := 162, descriptorIndex := 25, attributes := #[] }, { accessFlags := 25, nameIndex := 187, descriptorIndex := 25, attributes := #[] }, { accessFlags := 26, nameIndex := 48, descriptorIndex := 25, attributes := #[] }, { accessFlags := 25, nameIndex := 277, descriptorIndex := 25, attributes := #[] }, { accessFlags := 25, nameIndex := 280, descriptorIndex := 25, attributes := #[] }, { accessFlags := 25, nameIndex := 282, descriptorIndex := 25, attributes := #[] }, { accessFlags := 25, nameIndex := 284, descriptorIndex := 25, attributes := #[] }, { accessFlags := 25, nameIndex := 286, descriptorIndex := 25, attributes := #[] }, { accessFlags := 25, nameIndex := 288, descriptorIndex := 25, attributes := #[] }, { accessFlags := 25, nameIndex := 290, descriptorIndex := 25, attributes := #[] }, { accessFlags := 25, nameIndex := 292, descriptorIndex := 25, attributes := #[] }, { accessFlags := 26, nameIndex := 108, descriptorIndex := 109, attributes := #[] }, { accessFlags := 25, nameIndex := 294, descriptorIndex := 25, attributes := #[] }])
  fields := #[{ name := "U", type := (.object "jdk/internal/misc/Unsafe"), accessFlags := 24, slot := 0, constantValue := 0 }, { name := "BIG_ENDIAN", type := .boolean, accessFlags := 26, slot := 1, constantValue := 0 }, { name := "LOG2_ARRAY_BOOLEAN_INDEX_SCALE", type := .int, accessFlags := 25, slot := 2, constantValue := 0 }, { name := "LOG2_ARRAY_BYTE_INDEX_SCALE", type := .int, accessFlags := 25, slot := 3, constantValue := 0 }, { name := "LOG2_ARRAY_CHAR_INDEX_SCALE", type := .int, accessFlags := 25, slot := 4, constantValue := 0 }, { name := "LOG2_ARRAY_SHORT_INDEX_SCALE", type := .int, accessFlags := 25, slot := 5, constantValue := 0 }, { name := "LOG2_ARRAY_INT_INDEX_SCALE", type := .int, accessFlags := 25, slot := 6, constantValue := 0 }, { name := "LOG2_ARRAY_LONG_INDEX_SCALE", type := .int, accessFlags := 25, slot := 7, constantValue := 0 }, { name := "LOG2_ARRAY_FLOAT_INDEX_SCALE", type := .int, accessFlags := 25, slot := 8, constantValue := 0 }, { name := "LOG2_ARRAY_DOUBLE_INDEX_SCALE", type := .int, accessFlags := 25, slot := 9, constantValue := 0 }, { name := "LOG2_BYTE_BIT_SIZE", type := .int, accessFlags := 26, slot := 10, constantValue := 0 }, { name := "T_BOOLEAN", type := .int, accessFlags := 25, slot := 11, constantValue := 0 }, { name := "T_CHAR", type := .int, accessFlags := 25, slot := 12, constantValue := 0 }, { name := "T_FLOAT", type := .int, accessFlags := 25, slot := 13, constantValue := 0 }, { name := "T_DOUBLE", type := .int, accessFlags := 25, slot := 14, constantValue := 0 }, { name := "T_BYTE", type := .int, accessFlags := 25, slot := 15, constantValue := 0 }, { name := "T_SHORT", type := .int, accessFlags := 25, slot := 16, constantValue := 0 }, { name := "T_INT", type := .int, accessFlags := 25, slot := 17, constantValue := 0 }, { name := "T_LONG", type := .int, accessFlags := 25, slot := 18, constantValue := 0 }, { name := "JLA", type := (.object "jdk/internal/access/JavaLangAccess"), accessFlags := 26, slot := 19, constantValue := 0 }, { name := "SOFT_MAX_ARRAY_LENGTH", type := .int, accessFlags := 25, slot := 20, constantValue := 0 }]
  methods := #[k13m0]
  instanceTypes := #[]
  staticTypes := #[(.object "jdk/internal/misc/Unsafe"), .boolean, .int, .int, .int, .int, .int, .int, .int, .int, .int, .int, .int, .int, .int, .int, .int, .int, .int, (.object "jdk/internal/access/JavaLangAccess"), .int]
  resolved := Array.replicate 378 none
  statics := none }

def pool14 : Array CpInfo := pool [(1, u "java/lang/Cloneable"), (0, .class_ 1), (0, u "java/lang/Object"), (0, .class_ 3)] 3

/-- java/lang/Cloneable -/
def k14 : Class := { plain "java/lang/Cloneable" (some 0) with
  accessFlags := 1537
  interfaces := #[]
  cf := some (fileOf pool14 2 #[] #[] 1537 4 #[] #[])
  fields := #[]
  methods := #[]
  instanceTypes := #[]
  staticTypes := #[]
  resolved := Array.replicate 8 none
  statics := none }

/-- the primitive byte -/
def k15 : Class := { plain "byte" none with kind := .primitive 'B', accessFlags := 0x411 }
/-- [B -/
def k16 : Class := { plain "[B" (some 0) with kind := .array 15 .byte, interfaces := #[14, 2], accessFlags := 1041 }

/-- the primitive int -/
def k17 : Class := { plain "int" none with kind := .primitive 'I', accessFlags := 0x411 }
/-- [I -/
def k18 : Class := { plain "[I" (some 0) with kind := .array 17 .int, interfaces := #[14, 2], accessFlags := 1041 }

def heap : Heap := #[{ cls := 7, slots := #[.long 0, .int 1, .null, .int 0, .null, .int 0, .int 0], vm := .statics 7 },
  { cls := 12, slots := #[.null, .null, .null], vm := .statics 12 }]
def classes : Array Class := #[k0, k1, k2, k3, k4, k5, k6, k7, k8, k9, k10, k11, k12, k13, k14, k15, k16, k17, k18]
def interned : List (Array UInt16 × Addr) := []
def slotsUsed : Nat := 10
def theMethod : MethodId := ⟨1, 1⟩
def args0 : Array Value := #[.int 5, .int 6, .int 7, .int 1, .int 2]
def aboutOver (below : List Frame) : State where
  vm := { classes := classes, interned := interned.toArray }
  heap := heap
  slotsUsed := slotsUsed
  threads := #[{ frames := .invoking theMethod args0 :: below }]
def below0 : List Frame := [.native { method := ⟨0, 0⟩, args := #[] }]
def about1 : State := aboutOver below0
def p0 : Program := .bare "" "" ""
def e0 : Env := launch0.env 0 0 0
theorem w_frames : about1.frames = Frame.invoking theMethod args0 :: below0 := rfl
set_option maxRecDepth 65536 in
theorem w_args : argsFit about1.vm theMethod args0 = true := by decide +kernel
set_option maxRecDepth 65536 in
theorem w_heap : heapFits about1 = true := by decide +kernel
set_option maxRecDepth 65536 in
theorem w_runnable : about1.curStatus? = some .runnable := by decide +kernel
set_option maxRecDepth 65536 in
theorem w_alone : about1.alone = true := by decide +kernel
set_option maxRecDepth 65536 in
theorem w_named : about1.methodNamed? x = some theMethod := by decide +kernel
set_option maxRecDepth 65536 in
theorem w_hears : about1.hears theMethod below0 = true := by decide +kernel
set_option maxRecDepth 65536 in
theorem w_ripe : about1.ripe theMethod args0 below0 = true := by decide +kernel
theorem w_running : about1.status = .running := rfl
set_option maxRecDepth 65536 in
theorem w_room : about1.hasRoom e0.platform room_1 = true :=
  launch0.hasRoom_least _ room_1 (by decide +kernel) (by decide +kernel) (by decide +kernel) (by decide +kernel) (by decide +kernel) (by decide +kernel)
theorem allAtoms_all (ts : List Jvm.Cond) (a : Array Jvm.Value) (st : Jvm.State) : (allAtoms ts).before a st = ts.all (fun c => c.before a st) := by
  induction ts with
  | nil => rfl
  | cons c t ih =>
    show (Jvm.Cond.and c (allAtoms t)).before a st = _
    rw [Jvm.Cond.before_and, ih, List.all_cons]
def words1 : List Jvm.Cond := Jvm.Cond.code x code maxLocals ret :: tables_1
/-- a 'code' word, met by the world's own term for the bytes: nothing is compared byte by byte -/
theorem code_word {y : MethodName} {bytes : ByteArray} {mx : Nat} {rt : Option FieldType} {a : Array Value} {s : State} {m : MethodId} {meth : Method} {c : Code} (h1 : s.methodNamed? y = some m) (h2 : s.vm.method? m = some meth) (h3 : meth.code = some c) (h4 : c.code = bytes)
    (h5 : (c.maxLocals == mx && c.exceptionTable.isEmpty && decide (c.maxStack ≤ mostOperands) && decide (meth.sig.returnType = rt) && !meth.locks && decide (parseMethodDescriptor y.desc = some meth.sig)) = true) : (Jvm.Cond.code y bytes mx rt).before a s = true := by
  simp only [Bool.and_eq_true, beq_iff_eq, Bool.not_eq_true', decide_eq_true_eq] at h5
  obtain ⟨⟨⟨⟨⟨g1, g2⟩, g3⟩, g4⟩, g5⟩, g6⟩ := h5
  simp [Cond.before, Cond.holds, Cond.value, h1, h2, h3, h4, g1, g2, g3, g4, g5, g6]
def isCode : Jvm.Cond → Bool
  | .code _ _ _ _ => true
  | _ => false
theorem all_split {L : List Jvm.Cond} {P : Jvm.Cond → Bool} (h1 : L.all (fun c => isCode c || P c) = true) (h2 : ∀ c ∈ L.filter isCode, P c = true) : L.all P = true := by
  refine List.all_eq_true.mpr fun c hc => ?_
  have h := List.all_eq_true.mp h1 c hc
  rcases Bool.eq_false_or_eq_true (isCode c) with hi | hi
  · exact h2 c (List.mem_filter.mpr ⟨hc, hi⟩)
  · simpa [hi] using h
set_option maxRecDepth 65536 in
theorem w_c0 : (Jvm.Cond.code x code maxLocals ret).before args0 about1 = true := code_word (m := ⟨1, 1⟩) (meth := k1m1) (c := k1c1) (by decide +kernel) rfl rfl rfl (by decide +kernel)
set_option maxRecDepth 65536 in
theorem w_c1 : (Jvm.Cond.code ({ cls := "java/lang/String", name := "valueOf", desc := "(C)Ljava/lang/String;" } : Jvm.MethodName) jdk_42_method_139_code (1 : Nat) (Option.some (Jvm.ClassFile.FieldType.object "java/lang/String"))).before args0 about1 = true := code_word (m := ⟨7, 1⟩) (meth := k7m1) (c := k7c1) (by decide +kernel) rfl rfl rfl (by decide +kernel)
set_option maxRecDepth 65536 in
theorem w_c2 : (Jvm.Cond.code ({ cls := "java/lang/StringLatin1", name := "canEncode", desc := "(C)Z" } : Jvm.MethodName) jdk_43_method_3_code (1 : Nat) (Option.some Jvm.ClassFile.FieldType.boolean)).before args0 about1 = true := code_word (m := ⟨8, 1⟩) (meth := k8m1) (c := k8c1) (by decide +kernel) rfl rfl rfl (by decide +kernel)
set_option maxRecDepth 65536 in
theorem w_c3 : (Jvm.Cond.code ({ cls := "java/lang/StringLatin1", name := "toBytes", desc := "(C)[B" } : Jvm.MethodName) jdk_43_method_46_code (1 : Nat) (Option.some (Jvm.ClassFile.FieldType.array Jvm.ClassFile.FieldType.byte))).before args0 about1 = true := code_word (m := ⟨8, 2⟩) (meth := k8m2) (c := k8c2) (by decide +kernel) rfl rfl rfl (by decide +kernel)
set_option maxRecDepth 65536 in
theorem w_c4 : (Jvm.Cond.code ({ cls := "java/lang/String", name := "<init>", desc := "([BB)V" } : Jvm.MethodName) jdk_42_method_151_code (3 : Nat) (Option.none : Option Jvm.ClassFile.FieldType)).before args0 about1 = true := code_word (m := ⟨7, 2⟩) (meth := k7m2) (c := k7c2) (by decide +kernel) rfl rfl rfl (by decide +kernel)
set_option maxRecDepth 65536 in
theorem w_c5 : (Jvm.Cond.code ({ cls := "java/lang/Object", name := "<init>", desc := "()V" } : Jvm.MethodName) object_method_1_code (1 : Nat) (Option.none : Option Jvm.ClassFile.FieldType)).before args0 about1 = true := code_word (m := ⟨0, 0⟩) (meth := k0m0) (c := k0c0) (by decide +kernel) rfl rfl rfl (by decide +kernel)
set_option maxRecDepth 65536 in
theorem w_c6 : (Jvm.Cond.code ({ cls := "com/example/topping_out/toppingout/game/Player", name := "<init>", desc := "(Ljava/lang/String;ZII)V" } : Jvm.MethodName) prog_6_method_1_code (5 : Nat) (Option.none : Option Jvm.ClassFile.FieldType)).before args0 about1 = true := code_word (m := ⟨10, 0⟩) (meth := k10m0) (c := k10c0) (by decide +kernel) rfl rfl rfl (by decide +kernel)
set_option maxRecDepth 65536 in
theorem w_c7 : (Jvm.Cond.code ({ cls := "java/lang/Record", name := "<init>", desc := "()V" } : Jvm.MethodName) jdk_30_method_1_code (1 : Nat) (Option.none : Option Jvm.ClassFile.FieldType)).before args0 about1 = true := code_word (m := ⟨9, 0⟩) (meth := k9m0) (c := k9c0) (by decide +kernel) rfl rfl rfl (by decide +kernel)
set_option maxRecDepth 65536 in
theorem w_c8 : (Jvm.Cond.code ({ cls := "com/example/topping_out/toppingout/game/Player", name := "out", desc := "()Z" } : Jvm.MethodName) prog_6_method_5_code (1 : Nat) (Option.some Jvm.ClassFile.FieldType.boolean)).before args0 about1 = true := code_word (m := ⟨10, 3⟩) (meth := k10m3) (c := k10c3) (by decide +kernel) rfl rfl rfl (by decide +kernel)
set_option maxRecDepth 65536 in
theorem w_c9 : (Jvm.Cond.code ({ cls := "java/lang/Math", name := "min", desc := "(II)I" } : Jvm.MethodName) jdk_29_method_69_code (2 : Nat) (Option.some Jvm.ClassFile.FieldType.int)).before args0 about1 = true := code_word (m := ⟨11, 1⟩) (meth := k11m1) (c := k11c1) (by decide +kernel) rfl rfl rfl (by decide +kernel)
set_option maxRecDepth 65536 in
theorem w_c10 : (Jvm.Cond.code ({ cls := "com/example/topping_out/toppingout/game/Player", name := "seated", desc := "(Ljava/lang/String;Z)Lcom/example/topping_out/toppingout/game/Player;" } : Jvm.MethodName) prog_6_method_2_code (2 : Nat) (Option.some (Jvm.ClassFile.FieldType.object "com/example/topping_out/toppingout/game/Player"))).before args0 about1 = true := code_word (m := ⟨10, 1⟩) (meth := k10m1) (c := k10c1) (by decide +kernel) rfl rfl rfl (by decide +kernel)
set_option maxRecDepth 65536 in
theorem w_c11 : (Jvm.Cond.code ({ cls := "com/example/topping_out/toppingout/game/Player", name := "lessACertificate", desc := "()Lcom/example/topping_out/toppingout/game/Player;" } : Jvm.MethodName) prog_6_method_3_code (1 : Nat) (Option.some (Jvm.ClassFile.FieldType.object "com/example/topping_out/toppingout/game/Player"))).before args0 about1 = true := code_word (m := ⟨10, 2⟩) (meth := k10m2) (c := k10c2) (by decide +kernel) rfl rfl rfl (by decide +kernel)
def codes1 : List Jvm.Cond := [Jvm.Cond.code x code maxLocals ret, Jvm.Cond.code ({ cls := "java/lang/String", name := "valueOf", desc := "(C)Ljava/lang/String;" } : Jvm.MethodName) jdk_42_method_139_code (1 : Nat) (Option.some (Jvm.ClassFile.FieldType.object "java/lang/String")), Jvm.Cond.code ({ cls := "java/lang/StringLatin1", name := "canEncode", desc := "(C)Z" } : Jvm.MethodName) jdk_43_method_3_code (1 : Nat) (Option.some Jvm.ClassFile.FieldType.boolean), Jvm.Cond.code ({ cls := "java/lang/StringLatin1", name := "toBytes", desc := "(C)[B" } : Jvm.MethodName) jdk_43_method_46_code (1 : Nat) (Option.some (Jvm.ClassFile.FieldType.array Jvm.ClassFile.FieldType.byte)), Jvm.Cond.code ({ cls := "java/lang/String", name := "<init>", desc := "([BB)V" } : Jvm.MethodName) jdk_42_method_151_code (3 : Nat) (Option.none : Option Jvm.ClassFile.FieldType), Jvm.Cond.code ({ cls := "java/lang/Object", name := "<init>", desc := "()V" } : Jvm.MethodName) object_method_1_code (1 : Nat) (Option.none : Option Jvm.ClassFile.FieldType), Jvm.Cond.code ({ cls := "com/example/topping_out/toppingout/game/Player", name := "<init>", desc := "(Ljava/lang/String;ZII)V" } : Jvm.MethodName) prog_6_method_1_code (5 : Nat) (Option.none : Option Jvm.ClassFile.FieldType), Jvm.Cond.code ({ cls := "java/lang/Record", name := "<init>", desc := "()V" } : Jvm.MethodName) jdk_30_method_1_code (1 : Nat) (Option.none : Option Jvm.ClassFile.FieldType), Jvm.Cond.code ({ cls := "com/example/topping_out/toppingout/game/Player", name := "out", desc := "()Z" } : Jvm.MethodName) prog_6_method_5_code (1 : Nat) (Option.some Jvm.ClassFile.FieldType.boolean), Jvm.Cond.code ({ cls := "java/lang/Math", name := "min", desc := "(II)I" } : Jvm.MethodName) jdk_29_method_69_code (2 : Nat) (Option.some Jvm.ClassFile.FieldType.int), Jvm.Cond.code ({ cls := "com/example/topping_out/toppingout/game/Player", name := "seated", desc := "(Ljava/lang/String;Z)Lcom/example/topping_out/toppingout/game/Player;" } : Jvm.MethodName) prog_6_method_2_code (2 : Nat) (Option.some (Jvm.ClassFile.FieldType.object "com/example/topping_out/toppingout/game/Player")), Jvm.Cond.code ({ cls := "com/example/topping_out/toppingout/game/Player", name := "lessACertificate", desc := "()Lcom/example/topping_out/toppingout/game/Player;" } : Jvm.MethodName) prog_6_method_3_code (1 : Nat) (Option.some (Jvm.ClassFile.FieldType.object "com/example/topping_out/toppingout/game/Player"))]
set_option maxRecDepth 65536 in
theorem codes_eq : words1.filter isCode = codes1 := rfl
theorem w_codes : ∀ c ∈ words1.filter isCode, c.before args0 about1 = true := by
  rw [codes_eq]
  intro c hc
  simp only [codes1, List.mem_cons, List.not_mem_nil, or_false] at hc
  rcases hc with rfl | rfl | rfl | rfl | rfl | rfl | rfl | rfl | rfl | rfl | rfl | rfl
  · exact w_c0
  · exact w_c1
  · exact w_c2
  · exact w_c3
  · exact w_c4
  · exact w_c5
  · exact w_c6
  · exact w_c7
  · exact w_c8
  · exact w_c9
  · exact w_c10
  · exact w_c11
set_option maxRecDepth 65536 in
theorem w_t1 : (words1.take 24).all (fun c => isCode c || c.before args0 about1) = true := by decide +kernel
set_option maxRecDepth 65536 in
theorem w_t2 : ((words1.drop 24).take 24).all (fun c => isCode c || c.before args0 about1) = true := by decide +kernel
set_option maxRecDepth 65536 in
theorem w_t3 : ((words1.drop 24).drop 24).all (fun c => isCode c || c.before args0 about1) = true := by decide +kernel
theorem w_tables : (allAtoms (Jvm.Cond.code x code maxLocals ret :: tables_1)).before args0 about1 = true := by
  rw [allAtoms_all]
  show words1.all (fun c => c.before args0 about1) = true
  refine all_split ?_ w_codes
  rw [← List.take_append_drop 24 words1, List.all_append, w_t1, ← List.take_append_drop 24 (words1.drop 24), List.all_append, w_t2, w_t3]
  rfl
set_option maxRecDepth 65536 in
theorem w_rest : rest_1_c.before args0 about1 = true := by decide +kernel
set_option maxRecDepth 65536 in
theorem w_case : (Jvm.Cond.and given_1 narrow_1).before args0 about1 = true := by decide +kernel
theorem w_applies : (headSpec (Jvm.Cond.code x code maxLocals ret :: tables_1) room_1).applies x e0.platform about1 = true :=
  (Spec.applies_iff w_frames).mpr ⟨w_running, w_runnable, w_alone, w_named, w_hears, w_ripe, w_room, w_tables⟩
theorem atStart : AtStart classFile x code maxLocals ret World_1 tables_1 room_1 Calls_1 rest_1 Pre_1 launch0 p0 e0 about1 theMethod args0 below0 :=
  ⟨lists_1, trivial, launch0.admits_env _ _ _, launch0.least_env, fairChoices_fair.cas, fairChoices_fair.clock, w_frames, w_args, w_heap, w_applies, trivial, w_rest, w_case⟩
end start1
theorem witness_1 : WitnessClaimed_1 := ⟨start1.p0, start1.e0, start1.about1, start1.theMethod, start1.args0, start1.below0, start1.atStart⟩
end Jvm.Pilot.@@N@@
