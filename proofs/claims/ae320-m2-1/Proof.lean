import JvmDerived
import JvmDerived.Pilot.@@N@@Statement
import JvmDerived.Pilot.@@N@@Code
set_option linter.unusedVariables false
set_option linter.unusedSimpArgs false
namespace Jvm.Pilot.@@N@@
open Jvm Jvm.ClassFile Sem Op Lib Jvm.Free Jvm.Stand Jvm.LawKit Jvm.RoadKit Bundle Jvm.Pilot.@@N@@.Jvm.D
/-- from the frame g at T the run reaches a state of which P holds -/
def own_Go (p : Program) (e : Env) (below : List Frame) (P : State → Outcome → Prop) (T : State) (g : JFrame) : Prop := ∃ t o, Steps p.tables e below (T.setTop g) t ∧ P t o
/-- the run has left the method: what it returned, the heap and the places written are as Q says -/
def own_P (s : State) (below : List Frame) (R : Room) (Q : Option Value → Heap → List Loc → Prop) (t : State) (o : Outcome) : Prop := t.status = .running ∧ Ended t below o ∧ ∃ v L, o = .returned v ∧ Q v t.heap L ∧ FrameEnd s o t L R.cells R.slots
section OwnKit
variable {p : Program} {l : Launch} {e : Env} {R : Room} {s : State} {m : MethodId} {args : Array Value} {below : List Frame} {meth : Method} {c : Code} {T T' : State} {locs : List Loc} {cells slots : Nat} {P : State → Outcome → Prop} {g g' : JFrame}
theorem own_by (k : ∀ t, Steps p.tables e below (T'.setTop g') t → Steps p.tables e below (T.setTop g) t) (h : own_Go p e below P T' g') : own_Go p e below P T g := by
  obtain ⟨t, o, st, q⟩ := h
  exact ⟨t, o, k t st, q⟩
theorem own_via (k : Steps p.tables e below (T.setTop g) (T'.setTop g')) (h : own_Go p e below P T' g') : own_Go p e below P T g := own_by (fun _ st => k.trans st) h
theorem own_in (q : g = g') (h : own_Go p e below P T g') : own_Go p e below P T g := q ▸ h
theorem own_out {v : Option Value} {Q : Option Value → Heap → List Loc → Prop} (X : Stand p l e R s m args below meth c T locs cells slots) (hv : meth.sig.returnType = none → v = none) (hlk : meth.locks = false) (hc : cells ≤ R.cells) (hs : slots ≤ R.slots) (q : Q v T.heap locs)
    (k : ∀ fs, (∀ (f : JFrame) (acts : List Action), f.method = m → f.locked = none → f.entered = [] → (doReturn e (T.setTop f) acts v).1 = T.setFrames fs) → Steps p.tables e below (T.setTop g) (T.setFrames fs)) : own_Go p e below (own_P s below R Q) T g := by
  obtain ⟨fs, hr, hrun, hended, hW, hsame⟩ := X.leave (v := v) hv hlk
  exact ⟨_, _, k fs hr, hrun, hended, _, _, rfl, q, ⟨_, rfl⟩, hW, hsame.mono hc hs⟩
theorem own_some {t : FieldType} {w : Value} (h : meth.sig.returnType = some t) : meth.sig.returnType = none → some w = none := fun q => by rw [h] at q; cases q
theorem own_retN {pc : Nat} {Ls : Array Slot} {z : Int32} {t : FieldType} {rest : List Value} {Q : Option Value → Heap → List Loc → Prop} (X : Stand p l e R s m args below meth c T locs cells slots) (hx : p.tables.exec = Jvm.exec) (hret : meth.sig.returnType = some t) (ht : t = .boolean ∨ t = .byte ∨ t = .char ∨ t = .short)
    (hd : decode c.code pc = .ok (.ireturn, 1)) (hlk : meth.locks = false) (hc : cells ≤ R.cells) (hs : slots ≤ R.slots) (q : Q (some (.int (nar t z))) T.heap locs) : own_Go p e below (own_P s below R Q) T (mkF m pc Ls (.int z :: rest)) :=
  own_out X (own_some hret) hlk hc hs q fun _ hr => retN X hx hret ht hd hr
theorem own_retI {pc : Nat} {Ls : Array Slot} {z : Int32} {rest : List Value} {Q : Option Value → Heap → List Loc → Prop} (X : Stand p l e R s m args below meth c T locs cells slots) (hx : p.tables.exec = Jvm.exec) (hret : meth.sig.returnType = some .int)
    (hd : decode c.code pc = .ok (.ireturn, 1)) (hlk : meth.locks = false) (hc : cells ≤ R.cells) (hs : slots ≤ R.slots) (q : Q (some (.int z)) T.heap locs) : own_Go p e below (own_P s below R Q) T (mkF m pc Ls (.int z :: rest)) :=
  own_out X (own_some hret) hlk hc hs q fun _ hr => retOut X hx hret rfl (Or.inl ⟨rfl, Or.inl rfl, _, rfl⟩) hd hr
theorem own_retJ {pc : Nat} {Ls : Array Slot} {z : Int64} {rest : List Value} {Q : Option Value → Heap → List Loc → Prop} (X : Stand p l e R s m args below meth c T locs cells slots) (hx : p.tables.exec = Jvm.exec) (hret : meth.sig.returnType = some .long)
    (hd : decode c.code pc = .ok (.lreturn, 1)) (hlk : meth.locks = false) (hc : cells ≤ R.cells) (hs : slots ≤ R.slots) (q : Q (some (.long z)) T.heap locs) : own_Go p e below (own_P s below R Q) T (mkF m pc Ls (.long z :: rest)) :=
  own_out X (own_some hret) hlk hc hs q fun _ hr => retOut X hx hret rfl (Or.inr (Or.inl ⟨rfl, rfl, _, rfl⟩)) hd hr
theorem own_retR {pc : Nat} {Ls : Array Slot} {w : Value} {t : FieldType} {rest : List Value} {Q : Option Value → Heap → List Loc → Prop} (X : Stand p l e R s m args below meth c T locs cells slots) (hx : p.tables.exec = Jvm.exec) (hret : meth.sig.returnType = some t) (ht : t.isReference = true) (hw : w.isRef = true) (hn : narrow t w = w)
    (hd : decode c.code pc = .ok (.areturn, 1)) (hlk : meth.locks = false) (hc : cells ≤ R.cells) (hs : slots ≤ R.slots) (q : Q (some w) T.heap locs) : own_Go p e below (own_P s below R Q) T (mkF m pc Ls (w :: rest)) :=
  own_out X (own_some hret) hlk hc hs q fun _ hr => retOut X hx hret hn (Or.inr (Or.inr (Or.inr (Or.inr ⟨rfl, ht, hw⟩)))) hd hr
theorem own_ret0 {pc : Nat} {Ls : Array Slot} {Q : Option Value → Heap → List Loc → Prop} (X : Stand p l e R s m args below meth c T locs cells slots) (hx : p.tables.exec = Jvm.exec) (hret : meth.sig.returnType = none)
    (hd : decode c.code pc = .ok (.return_, 1)) (hlk : meth.locks = false) (hc : cells ≤ R.cells) (hs : slots ≤ R.slots) (q : Q none T.heap locs) : own_Go p e below (own_P s below R Q) T (mkF m pc Ls []) :=
  own_out X (fun _ => rfl) hlk hc hs q fun _ hr => X.returnOut hx hret hd hr
theorem own_fitsR {C : String} {v : Value} (h : v.isRef = true) : fits (.object C) v = true := by
  cases v <;> first | rfl | (simp [Value.isRef] at h)
theorem own_tab (xs : List Int32) (d : Int32) (k : Nat) : (xs.map Value.int).getD k (.int d) = .int (xs.getD k d) := by
  simp only [List.getD_eq_getElem?_getD, List.getElem?_map]
  cases xs[k]? <;> rfl
end OwnKit
theorem d1_0 : decode jdk_29_method_70_code 0 = .ok (.lload_n 0, 1) := by decide +kernel
theorem d1_1 : decode jdk_29_method_70_code 1 = .ok (.lload_n 2, 1) := by decide +kernel
theorem d1_2 : decode jdk_29_method_70_code 2 = .ok (.lcmp, 1) := by decide +kernel
theorem d1_3 : decode jdk_29_method_70_code 3 = .ok (.ifCond .gt 7, 3) := by decide +kernel
theorem d1_10 : decode jdk_29_method_70_code 10 = .ok (.lload_n 2, 1) := by decide +kernel
theorem d1_6 : decode jdk_29_method_70_code 6 = .ok (.lload_n 0, 1) := by decide +kernel
theorem d1_7 : decode jdk_29_method_70_code 7 = .ok (.goto 4, 3) := by decide +kernel
theorem d1_11 : decode jdk_29_method_70_code 11 = .ok (.lreturn, 1) := by decide +kernel
def own_F1 (q1_0 : Int64) (q1_1 : Int64) : Int64 := (if q1_1 < q1_0 then q1_1 else q1_0)
theorem own_ef1 (m : MethodId) (x0 : Int64) (x1 : Int64) : entryFrame m #[(.long x0), (.long x1)] 4 = mkF m 0 #[.val (.long x0), .second, .val (.long x1), .second] [] := by first | (simp [entryFrame, mkF, argsToLocals, Value.category]; done) | rfl
def own_Q1 (r : Int64) (h0 : Heap) (n0 : Nat) (v : Option Value) (h : Heap) (L : List Loc) : Prop := v = some (.long r) ∧ Fr n0 L ∧ h = h0
set_option maxRecDepth 65536 in
set_option maxHeartbeats 40000000 in
theorem own_rm1 (l : Launch) (Z : State) (a0 : Array Value) (hw : ∀ d ∈ tables_1, d.before a0 Z = true) (ws : List Jvm.Cond) (q1_0 : Int64) (q1_1 : Int64) (h0 : Heap) (n0 : Nat) (Z0 : n0 ≤ h0.size) :
    MetFree l (⟨"java/lang/Math", "min", "(JJ)J"⟩ : MethodName) (head1 (Jvm.Cond.code (⟨"java/lang/Math", "min", "(JJ)J"⟩ : MethodName) jdk_29_method_70_code 4 (some .long) :: ws) ({ frames := 0, cells := 0, slots := 0, locals := 0 } : Room)) (fun a U => a = #[(.long q1_0), (.long q1_1)] ∧ Z.Warmed39 U.vm ∧ U.heap = h0) (fun _ _ _ _ _ => True) (fun _ U o U' => ∃ v L, o = .returned v ∧ own_Q1 (own_F1 q1_0 q1_1) h0 n0 v U'.heap L ∧ FrameEnd U o U' L ({ frames := 0, cells := 0, slots := 0, locals := 0 } : Room).cells ({ frames := 0, cells := 0, slots := 0, locals := 0 } : Room).slots) := by
  refine MetFree.of_bodySF (Jvm.Free.JP.mathPlain rfl (by decide +kernel)) hisR ?_
  intro p e s m args below meth c s₁ Bd hml0 hP hK
  obtain ⟨rfl, hZ, hh⟩ := hP
  have hx := Bd.exec
  have hby := Bd.bytes
  have hlk : meth.locks = false := BodyLoose.notSynchronized Bd
  have hml : c.maxLocals = 4 := hml0
  have hown : s.vm.findClass "java/lang/Math" = some m.cls := findClass_of_methodNamed Bd.named
  have hnm := (name_of_methodNamed Bd.named Bd.method).1
  have X0 : Stand p l e ({ frames := 0, cells := 0, slots := 0, locals := 0 } : Room) s m #[(.long q1_0), (.long q1_1)] below meth c s₁ [] 0 0 := Stand.of_body Bd
  have e0 : s₁.heap = h0 := by rw [← hh, Bd.state]; rfl
  have N0 := Fr.nil n0
  show own_Go p e below (own_P s below ({ frames := 0, cells := 0, slots := 0, locals := 0 } : Room) (own_Q1 (own_F1 q1_0 q1_1) h0 n0)) s₁ (entryFrame m #[(.long q1_0), (.long q1_1)] 4)
  refine own_in (own_ef1 m q1_0 q1_1) ?_
  refine own_by (T' := s₁) (g' := (mkF m 3 #[.val (.long q1_0), .second, .val (.long q1_1), .second] [(.int (lcmpW q1_0 q1_1))])) (fun t k => ?_) ?_
  · show Steps p.tables e below (s₁.setTop (mkF m 0 #[.val (.long q1_0), .second, .val (.long q1_1), .second] [])) t
    refine XS.lloadN X0.here hx rfl (hb hby d1_0) rfl ?_
    show Steps p.tables e below (s₁.setTop (mkF m 1 #[.val (.long q1_0), .second, .val (.long q1_1), .second] [(.long q1_0)])) t
    refine XS.lloadN X0.here hx rfl (hb hby d1_1) rfl ?_
    show Steps p.tables e below (s₁.setTop (mkF m 2 #[.val (.long q1_0), .second, .val (.long q1_1), .second] [(.long q1_1), (.long q1_0)])) t
    refine XS.lcmp X0.here hx rfl (hb hby d1_2) rfl ?_
    show Steps p.tables e below (s₁.setTop (mkF m 3 #[.val (.long q1_0), .second, .val (.long q1_1), .second] [(.int (lcmpW q1_0 q1_1))])) t
    exact k
  by_cases hc1 : q1_1 < q1_0
  · skip
    refine own_by (T' := s₁) (g' := (mkF m 11 #[.val (.long q1_0), .second, .val (.long q1_1), .second] [(.long q1_1)])) (fun t k => ?_) ?_
    · show Steps p.tables e below (s₁.setTop (mkF m 3 #[.val (.long q1_0), .second, .val (.long q1_1), .second] [(.int (lcmpW q1_0 q1_1))])) t
      refine XS.ifYes X0.here hx rfl (pc0 := 3) (pc' := 10) rfl (hb hby d1_3) rfl ((if0 _ _).trans (tlt ((lw_gt _ _).mpr hc1)).2.2.1) (by decide) (by decide) ?_
      show Steps p.tables e below (s₁.setTop (mkF m 10 #[.val (.long q1_0), .second, .val (.long q1_1), .second] [])) t
      refine XS.lloadN X0.here hx rfl (hb hby d1_10) rfl ?_
      show Steps p.tables e below (s₁.setTop (mkF m 11 #[.val (.long q1_0), .second, .val (.long q1_1), .second] [(.long q1_1)])) t
      exact k
    rw [show own_F1 q1_0 q1_1 = q1_1 from ((if_pos hc1).trans rfl)]
    exact own_retJ X0 hx Bd.returns (hb hby d1_11) hlk (by decide) (by decide) ⟨rfl, N0, e0⟩
  · skip
    refine own_by (T' := s₁) (g' := (mkF m 11 #[.val (.long q1_0), .second, .val (.long q1_1), .second] [(.long q1_0)])) (fun t k => ?_) ?_
    · show Steps p.tables e below (s₁.setTop (mkF m 3 #[.val (.long q1_0), .second, .val (.long q1_1), .second] [(.int (lcmpW q1_0 q1_1))])) t
      refine XS.ifNo X0.here hx rfl (hb hby d1_3) rfl ((if0 _ _).trans (flt (fun q => hc1 ((lw_gt _ _).mp q))).2.2.1) ?_
      show Steps p.tables e below (s₁.setTop (mkF m 6 #[.val (.long q1_0), .second, .val (.long q1_1), .second] [])) t
      refine XS.lloadN X0.here hx rfl (hb hby d1_6) rfl ?_
      show Steps p.tables e below (s₁.setTop (mkF m 7 #[.val (.long q1_0), .second, .val (.long q1_1), .second] [(.long q1_0)])) t
      refine XS.goto X0.here hx rfl (pc0 := 7) (pc' := 11) rfl (hb hby d1_7) (by decide) (by decide) ?_
      show Steps p.tables e below (s₁.setTop (mkF m 11 #[.val (.long q1_0), .second, .val (.long q1_1), .second] [(.long q1_0)])) t
      exact k
    rw [show own_F1 q1_0 q1_1 = q1_0 from ((if_neg hc1).trans rfl)]
    exact own_retJ X0 hx Bd.returns (hb hby d1_11) hlk (by decide) (by decide) ⟨rfl, N0, e0⟩
theorem d2_0 : decode jdk_29_method_66_code 0 = .ok (.lload_n 0, 1) := by decide +kernel
theorem d2_1 : decode jdk_29_method_66_code 1 = .ok (.lload_n 2, 1) := by decide +kernel
theorem d2_2 : decode jdk_29_method_66_code 2 = .ok (.lcmp, 1) := by decide +kernel
theorem d2_3 : decode jdk_29_method_66_code 3 = .ok (.ifCond .lt 7, 3) := by decide +kernel
theorem d2_10 : decode jdk_29_method_66_code 10 = .ok (.lload_n 2, 1) := by decide +kernel
theorem d2_6 : decode jdk_29_method_66_code 6 = .ok (.lload_n 0, 1) := by decide +kernel
theorem d2_7 : decode jdk_29_method_66_code 7 = .ok (.goto 4, 3) := by decide +kernel
theorem d2_11 : decode jdk_29_method_66_code 11 = .ok (.lreturn, 1) := by decide +kernel
def own_F2 (q2_0 : Int64) (q2_1 : Int64) : Int64 := (if q2_0 < q2_1 then q2_1 else q2_0)
theorem own_ef2 (m : MethodId) (x0 : Int64) (x1 : Int64) : entryFrame m #[(.long x0), (.long x1)] 4 = mkF m 0 #[.val (.long x0), .second, .val (.long x1), .second] [] := by first | (simp [entryFrame, mkF, argsToLocals, Value.category]; done) | rfl
def own_Q2 (r : Int64) (h0 : Heap) (n0 : Nat) (v : Option Value) (h : Heap) (L : List Loc) : Prop := v = some (.long r) ∧ Fr n0 L ∧ h = h0
set_option maxRecDepth 65536 in
set_option maxHeartbeats 40000000 in
theorem own_rm2 (l : Launch) (Z : State) (a0 : Array Value) (hw : ∀ d ∈ tables_1, d.before a0 Z = true) (ws : List Jvm.Cond) (q2_0 : Int64) (q2_1 : Int64) (h0 : Heap) (n0 : Nat) (Z0 : n0 ≤ h0.size) :
    MetFree l (⟨"java/lang/Math", "max", "(JJ)J"⟩ : MethodName) (head1 (Jvm.Cond.code (⟨"java/lang/Math", "max", "(JJ)J"⟩ : MethodName) jdk_29_method_66_code 4 (some .long) :: ws) ({ frames := 0, cells := 0, slots := 0, locals := 0 } : Room)) (fun a U => a = #[(.long q2_0), (.long q2_1)] ∧ Z.Warmed39 U.vm ∧ U.heap = h0) (fun _ _ _ _ _ => True) (fun _ U o U' => ∃ v L, o = .returned v ∧ own_Q2 (own_F2 q2_0 q2_1) h0 n0 v U'.heap L ∧ FrameEnd U o U' L ({ frames := 0, cells := 0, slots := 0, locals := 0 } : Room).cells ({ frames := 0, cells := 0, slots := 0, locals := 0 } : Room).slots) := by
  refine MetFree.of_bodySF (Jvm.Free.JP.mathPlain rfl (by decide +kernel)) hisR ?_
  intro p e s m args below meth c s₁ Bd hml0 hP hK
  obtain ⟨rfl, hZ, hh⟩ := hP
  have hx := Bd.exec
  have hby := Bd.bytes
  have hlk : meth.locks = false := BodyLoose.notSynchronized Bd
  have hml : c.maxLocals = 4 := hml0
  have hown : s.vm.findClass "java/lang/Math" = some m.cls := findClass_of_methodNamed Bd.named
  have hnm := (name_of_methodNamed Bd.named Bd.method).1
  have X0 : Stand p l e ({ frames := 0, cells := 0, slots := 0, locals := 0 } : Room) s m #[(.long q2_0), (.long q2_1)] below meth c s₁ [] 0 0 := Stand.of_body Bd
  have e0 : s₁.heap = h0 := by rw [← hh, Bd.state]; rfl
  have N0 := Fr.nil n0
  show own_Go p e below (own_P s below ({ frames := 0, cells := 0, slots := 0, locals := 0 } : Room) (own_Q2 (own_F2 q2_0 q2_1) h0 n0)) s₁ (entryFrame m #[(.long q2_0), (.long q2_1)] 4)
  refine own_in (own_ef2 m q2_0 q2_1) ?_
  refine own_by (T' := s₁) (g' := (mkF m 3 #[.val (.long q2_0), .second, .val (.long q2_1), .second] [(.int (lcmpW q2_0 q2_1))])) (fun t k => ?_) ?_
  · show Steps p.tables e below (s₁.setTop (mkF m 0 #[.val (.long q2_0), .second, .val (.long q2_1), .second] [])) t
    refine XS.lloadN X0.here hx rfl (hb hby d2_0) rfl ?_
    show Steps p.tables e below (s₁.setTop (mkF m 1 #[.val (.long q2_0), .second, .val (.long q2_1), .second] [(.long q2_0)])) t
    refine XS.lloadN X0.here hx rfl (hb hby d2_1) rfl ?_
    show Steps p.tables e below (s₁.setTop (mkF m 2 #[.val (.long q2_0), .second, .val (.long q2_1), .second] [(.long q2_1), (.long q2_0)])) t
    refine XS.lcmp X0.here hx rfl (hb hby d2_2) rfl ?_
    show Steps p.tables e below (s₁.setTop (mkF m 3 #[.val (.long q2_0), .second, .val (.long q2_1), .second] [(.int (lcmpW q2_0 q2_1))])) t
    exact k
  by_cases hc2 : q2_0 < q2_1
  · skip
    refine own_by (T' := s₁) (g' := (mkF m 11 #[.val (.long q2_0), .second, .val (.long q2_1), .second] [(.long q2_1)])) (fun t k => ?_) ?_
    · show Steps p.tables e below (s₁.setTop (mkF m 3 #[.val (.long q2_0), .second, .val (.long q2_1), .second] [(.int (lcmpW q2_0 q2_1))])) t
      refine XS.ifYes X0.here hx rfl (pc0 := 3) (pc' := 10) rfl (hb hby d2_3) rfl ((if0 _ _).trans (tlt ((lw_lt _ _).mpr hc2)).1) (by decide) (by decide) ?_
      show Steps p.tables e below (s₁.setTop (mkF m 10 #[.val (.long q2_0), .second, .val (.long q2_1), .second] [])) t
      refine XS.lloadN X0.here hx rfl (hb hby d2_10) rfl ?_
      show Steps p.tables e below (s₁.setTop (mkF m 11 #[.val (.long q2_0), .second, .val (.long q2_1), .second] [(.long q2_1)])) t
      exact k
    rw [show own_F2 q2_0 q2_1 = q2_1 from ((if_pos hc2).trans rfl)]
    exact own_retJ X0 hx Bd.returns (hb hby d2_11) hlk (by decide) (by decide) ⟨rfl, N0, e0⟩
  · skip
    refine own_by (T' := s₁) (g' := (mkF m 11 #[.val (.long q2_0), .second, .val (.long q2_1), .second] [(.long q2_0)])) (fun t k => ?_) ?_
    · show Steps p.tables e below (s₁.setTop (mkF m 3 #[.val (.long q2_0), .second, .val (.long q2_1), .second] [(.int (lcmpW q2_0 q2_1))])) t
      refine XS.ifNo X0.here hx rfl (hb hby d2_3) rfl ((if0 _ _).trans (flt (fun q => hc2 ((lw_lt _ _).mp q))).1) ?_
      show Steps p.tables e below (s₁.setTop (mkF m 6 #[.val (.long q2_0), .second, .val (.long q2_1), .second] [])) t
      refine XS.lloadN X0.here hx rfl (hb hby d2_6) rfl ?_
      show Steps p.tables e below (s₁.setTop (mkF m 7 #[.val (.long q2_0), .second, .val (.long q2_1), .second] [(.long q2_0)])) t
      refine XS.goto X0.here hx rfl (pc0 := 7) (pc' := 11) rfl (hb hby d2_7) (by decide) (by decide) ?_
      show Steps p.tables e below (s₁.setTop (mkF m 11 #[.val (.long q2_0), .second, .val (.long q2_1), .second] [(.long q2_0)])) t
      exact k
    rw [show own_F2 q2_0 q2_1 = q2_0 from ((if_neg hc2).trans rfl)]
    exact own_retJ X0 hx Bd.returns (hb hby d2_11) hlk (by decide) (by decide) ⟨rfl, N0, e0⟩
theorem d3_0 : decode prog_7_method_1_code 0 = .ok (.aload_n 0, 1) := by decide +kernel
theorem d3_1 : decode prog_7_method_1_code 1 = .ok (.invokespecial 1, 3) := by decide +kernel
theorem d3_4 : decode prog_7_method_1_code 4 = .ok (.lload_n 1, 1) := by decide +kernel
theorem d3_5 : decode prog_7_method_1_code 5 = .ok (.lload_n 3, 1) := by decide +kernel
theorem d3_6 : decode prog_7_method_1_code 6 = .ok (.lcmp, 1) := by decide +kernel
theorem d3_7 : decode prog_7_method_1_code 7 = .ok (.ifCond .lt 18, 3) := by decide +kernel
theorem d3_25 : decode prog_7_method_1_code 25 = .ok (.aload_n 0, 1) := by decide +kernel
theorem d3_26 : decode prog_7_method_1_code 26 = .ok (.lload_n 1, 1) := by decide +kernel
theorem d3_27 : decode prog_7_method_1_code 27 = .ok (.putfield 16, 3) := by decide +kernel
theorem d3_30 : decode prog_7_method_1_code 30 = .ok (.aload_n 0, 1) := by decide +kernel
theorem d3_31 : decode prog_7_method_1_code 31 = .ok (.lload_n 3, 1) := by decide +kernel
theorem d3_32 : decode prog_7_method_1_code 32 = .ok (.putfield 22, 3) := by decide +kernel
theorem d3_35 : decode prog_7_method_1_code 35 = .ok (.return_, 1) := by decide +kernel
theorem pn_com_example_vasto_vasto_cluster_TokenRange : plainName "com/example/vasto/vasto/cluster/TokenRange" = true := by first | (simp [plainName, overriddenIn]; done) | decide +kernel
theorem own_ef3 (m : MethodId) (x0 : Addr) (x1 : Int64) (x2 : Int64) : entryFrame m #[(.ref x0), (.long x1), (.long x2)] 5 = mkF m 0 #[.val (.ref x0), .val (.long x1), .second, .val (.long x2), .second] [] := by first | (simp [entryFrame, mkF, argsToLocals, Value.category]; done) | rfl
def own_Q3 (Z : State) (a3_0 : Addr) (q3_1 : Int64) (q3_2 : Int64) (u_left_a3_0 : Value) (u_right_a3_0 : Value) (h0 : Heap) (n0 : Nat) (v : Option Value) (h : Heap) (L : List Loc) : Prop := v = none ∧ Fr n0 L ∧ Keep h0 h [a3_0] ∧ Exa Z h a3_0 "com/example/vasto/vasto/cluster/TokenRange" ∧ Fld Z h a3_0 "com/example/vasto/vasto/cluster/TokenRange" "left" "J" (.long q3_1) ∧ Fld Z h a3_0 "com/example/vasto/vasto/cluster/TokenRange" "right" "J" (.long q3_2)
set_option maxRecDepth 65536 in
set_option maxHeartbeats 40000000 in
theorem own_rm3 (l : Launch) (Z : State) (a0 : Array Value) (hw : ∀ d ∈ tables_1, d.before a0 Z = true) (ws : List Jvm.Cond) (a3_0 : Addr) (q3_1 : Int64) (q3_2 : Int64) (u_left_a3_0 : Value) (u_right_a3_0 : Value) (h0 : Heap) (n0 : Nat) (Z0 : n0 ≤ h0.size) (HLT : q3_1 < q3_2) (E_a3_0 : Exa Z h0 a3_0 "com/example/vasto/vasto/cluster/TokenRange") (F_left_a3_0 : Fld Z h0 a3_0 "com/example/vasto/vasto/cluster/TokenRange" "left" "J" u_left_a3_0) (ge_a3_0 : n0 ≤ a3_0) (F_right_a3_0 : Fld Z h0 a3_0 "com/example/vasto/vasto/cluster/TokenRange" "right" "J" u_right_a3_0) :
    MetFree l (⟨"com/example/vasto/vasto/cluster/TokenRange", "<init>", "(JJ)V"⟩ : MethodName) (head1 (Jvm.Cond.code (⟨"com/example/vasto/vasto/cluster/TokenRange", "<init>", "(JJ)V"⟩ : MethodName) prog_7_method_1_code 5 none :: ws) ({ frames := 1, cells := 0, slots := 0, locals := 12 } : Room)) (fun a U => a = #[(.ref a3_0), (.long q3_1), (.long q3_2)] ∧ Z.Warmed39 U.vm ∧ U.heap = h0) (fun _ _ _ _ _ => True) (fun _ U o U' => ∃ v L, o = .returned v ∧ own_Q3 Z a3_0 q3_1 q3_2 u_left_a3_0 u_right_a3_0 h0 n0 v U'.heap L ∧ FrameEnd U o U' L ({ frames := 1, cells := 0, slots := 0, locals := 12 } : Room).cells ({ frames := 1, cells := 0, slots := 0, locals := 12 } : Room).slots) := by
  refine MetFree.of_bodySF (plainFor_of_name pn_com_example_vasto_vasto_cluster_TokenRange) hisR ?_
  intro p e s m args below meth c s₁ Bd hml0 hP hK
  obtain ⟨rfl, hZ, hh⟩ := hP
  have hx := Bd.exec
  have hby := Bd.bytes
  have hlk : meth.locks = false := BodyLoose.notSynchronized Bd
  have hml : c.maxLocals = 5 := hml0
  have hown : s.vm.findClass "com/example/vasto/vasto/cluster/TokenRange" = some m.cls := findClass_of_methodNamed Bd.named
  have hnm := (name_of_methodNamed Bd.named Bd.method).1
  have X0 : Stand p l e ({ frames := 1, cells := 0, slots := 0, locals := 12 } : Room) s m #[(.ref a3_0), (.long q3_1), (.long q3_2)] below meth c s₁ [] 0 0 := Stand.of_body Bd
  have e0 : s₁.heap = h0 := by rw [← hh, Bd.state]; rfl
  have N0 := Fr.nil n0
  show own_Go p e below (own_P s below ({ frames := 1, cells := 0, slots := 0, locals := 12 } : Room) (own_Q3 Z a3_0 q3_1 q3_2 u_left_a3_0 u_right_a3_0 h0 n0)) s₁ (entryFrame m #[(.ref a3_0), (.long q3_1), (.long q3_2)] 5)
  refine own_in (own_ef3 m a3_0 q3_1 q3_2) ?_
  refine own_by (T' := s₁) (g' := (mkF m 1 #[.val (.ref a3_0), .val (.long q3_1), .second, .val (.long q3_2), .second] [(.ref a3_0)])) (fun t k => ?_) ?_
  · show Steps p.tables e below (s₁.setTop (mkF m 0 #[.val (.ref a3_0), .val (.long q3_1), .second, .val (.long q3_2), .second] [])) t
    refine XS.aloadN X0.here hx rfl (hb hby d3_0) rfl rfl ?_
    show Steps p.tables e below (s₁.setTop (mkF m 1 #[.val (.ref a3_0), .val (.long q3_1), .second, .val (.long q3_2), .second] [(.ref a3_0)])) t
    exact k
  obtain ⟨T3, X3, e3, st3⟩ := initO X0 hx hZ hown (hw _ (List.mem_of_getElem? (i := 13) rfl)) (hw _ (List.mem_of_getElem? (i := 14) rfl)) (hw _ (List.mem_of_getElem? (i := 15) rfl)) e0 (g := (mkF m 1 #[.val (.ref a3_0), .val (.long q3_1), .second, .val (.long q3_2), .second] [(.ref a3_0)])) rfl (by rw [hml]; rfl) rfl (hb hby d3_1) (by decide) (W := 0) (by show 2 * 0 + _ ≤ _; exact Nat.le_of_eq rfl) (by decide)
  refine own_by (T' := T3) (g' := (mkF m 4 #[.val (.ref a3_0), .val (.long q3_1), .second, .val (.long q3_2), .second] [])) st3 ?_
  refine own_by (T' := T3) (g' := (mkF m 27 #[.val (.ref a3_0), .val (.long q3_1), .second, .val (.long q3_2), .second] [(.long q3_1), (.ref a3_0)])) (fun t k => ?_) ?_
  · show Steps p.tables e below (T3.setTop (mkF m 4 #[.val (.ref a3_0), .val (.long q3_1), .second, .val (.long q3_2), .second] [])) t
    refine XS.lloadN X3.here hx rfl (hb hby d3_4) rfl ?_
    show Steps p.tables e below (T3.setTop (mkF m 5 #[.val (.ref a3_0), .val (.long q3_1), .second, .val (.long q3_2), .second] [(.long q3_1)])) t
    refine XS.lloadN X3.here hx rfl (hb hby d3_5) rfl ?_
    show Steps p.tables e below (T3.setTop (mkF m 6 #[.val (.ref a3_0), .val (.long q3_1), .second, .val (.long q3_2), .second] [(.long q3_2), (.long q3_1)])) t
    refine XS.lcmp X3.here hx rfl (hb hby d3_6) rfl ?_
    show Steps p.tables e below (T3.setTop (mkF m 7 #[.val (.ref a3_0), .val (.long q3_1), .second, .val (.long q3_2), .second] [(.int (lcmpW q3_1 q3_2))])) t
    refine XS.ifYes X3.here hx rfl (pc0 := 7) (pc' := 25) rfl (hb hby d3_7) rfl ((if0 _ _).trans (tlt ((lw_lt _ _).mpr HLT)).1) (by decide) (by decide) ?_
    show Steps p.tables e below (T3.setTop (mkF m 25 #[.val (.ref a3_0), .val (.long q3_1), .second, .val (.long q3_2), .second] [])) t
    refine XS.aloadN X3.here hx rfl (hb hby d3_25) rfl rfl ?_
    show Steps p.tables e below (T3.setTop (mkF m 26 #[.val (.ref a3_0), .val (.long q3_1), .second, .val (.long q3_2), .second] [(.ref a3_0)])) t
    refine XS.lloadN X3.here hx rfl (hb hby d3_26) rfl ?_
    show Steps p.tables e below (T3.setTop (mkF m 27 #[.val (.ref a3_0), .val (.long q3_1), .second, .val (.long q3_2), .second] [(.long q3_1), (.ref a3_0)])) t
    exact k
  obtain ⟨T4, h4, X4, e4, W4, st4⟩ := putF X3 hx hZ hown (host := "") (Or.inl (hw _ (List.mem_of_getElem? (i := 16) rfl))) Via.refl e3 F_left_a3_0 E_a3_0 (Or.inr ⟨(hw _ (List.mem_of_getElem? (i := 17) rfl)), rfl, hnm⟩) (hw _ (List.mem_of_getElem? (i := 8) rfl)) (ty := .long) (by decide) rfl rfl (g := (mkF m 27 #[.val (.ref a3_0), .val (.long q3_1), .second, .val (.long q3_2), .second] [(.long q3_1), (.ref a3_0)])) rfl rfl (hb hby d3_27)
  have f5 := F_left_a3_0.same W4
  have f6 := E_a3_0.wr W4
  have f8 := F_right_a3_0.other W4 (Or.inr (slot_ne (Or.inr (hw _ (List.mem_of_getElem? (i := 19) rfl))) (Or.inr (hw _ (List.mem_of_getElem? (i := 17) rfl))) (by decide) (t := .long) (t' := .long) (by decide) (by decide)))
  have K9 : Keep h0 h4 [a3_0] := (Keep.refl h0 [a3_0]).wr W4 (Or.inl (List.mem_of_getElem? (i := 0) rfl))
  have N10 := Fr.snoc X4 N0 ge_a3_0
  have Z11 := (Nat.le_trans Z0 (Keep.of_wr W4).1)
  refine own_by (T' := T4) (g' := (mkF m 30 #[.val (.ref a3_0), .val (.long q3_1), .second, .val (.long q3_2), .second] [])) st4 ?_
  refine own_by (T' := T4) (g' := (mkF m 32 #[.val (.ref a3_0), .val (.long q3_1), .second, .val (.long q3_2), .second] [(.long q3_2), (.ref a3_0)])) (fun t k => ?_) ?_
  · show Steps p.tables e below (T4.setTop (mkF m 30 #[.val (.ref a3_0), .val (.long q3_1), .second, .val (.long q3_2), .second] [])) t
    refine XS.aloadN X4.here hx rfl (hb hby d3_30) rfl rfl ?_
    show Steps p.tables e below (T4.setTop (mkF m 31 #[.val (.ref a3_0), .val (.long q3_1), .second, .val (.long q3_2), .second] [(.ref a3_0)])) t
    refine XS.lloadN X4.here hx rfl (hb hby d3_31) rfl ?_
    show Steps p.tables e below (T4.setTop (mkF m 32 #[.val (.ref a3_0), .val (.long q3_1), .second, .val (.long q3_2), .second] [(.long q3_2), (.ref a3_0)])) t
    exact k
  obtain ⟨T12, h12, X12, e12, W12, st12⟩ := putF X4 hx hZ hown (host := "") (Or.inl (hw _ (List.mem_of_getElem? (i := 18) rfl))) Via.refl e4 f8 f6 (Or.inr ⟨(hw _ (List.mem_of_getElem? (i := 19) rfl)), rfl, hnm⟩) (hw _ (List.mem_of_getElem? (i := 8) rfl)) (ty := .long) (by decide) rfl rfl (g := (mkF m 32 #[.val (.ref a3_0), .val (.long q3_1), .second, .val (.long q3_2), .second] [(.long q3_2), (.ref a3_0)])) rfl rfl (hb hby d3_32)
  have f13 := f8.same W12
  have f14 := f6.wr W12
  have f15 := f5.other W12 (Or.inr (slot_ne (Or.inr (hw _ (List.mem_of_getElem? (i := 17) rfl))) (Or.inr (hw _ (List.mem_of_getElem? (i := 19) rfl))) (by decide) (t := .long) (t' := .long) (by decide) (by decide)))
  have K17 : Keep h0 h12 [a3_0] := K9.wr W12 (Or.inl (List.mem_of_getElem? (i := 0) rfl))
  have N18 := Fr.snoc X12 N10 ge_a3_0
  have Z19 := (Nat.le_trans Z11 (Keep.of_wr W12).1)
  refine own_by (T' := T12) (g' := (mkF m 35 #[.val (.ref a3_0), .val (.long q3_1), .second, .val (.long q3_2), .second] [])) st12 ?_
  exact own_ret0 X12 hx Bd.returns (hb hby d3_35) hlk (by decide) (by decide) (by rw [e12]; exact ⟨rfl, N18, K17, f14, f15, f13⟩)
theorem d5_0 : decode prog_7_method_4_code 0 = .ok (.lload_n 1, 1) := by decide +kernel
theorem d5_1 : decode prog_7_method_4_code 1 = .ok (.aload_n 0, 1) := by decide +kernel
theorem d5_2 : decode prog_7_method_4_code 2 = .ok (.getfield 16, 3) := by decide +kernel
theorem d5_5 : decode prog_7_method_4_code 5 = .ok (.lcmp, 1) := by decide +kernel
theorem d5_6 : decode prog_7_method_4_code 6 = .ok (.ifCond .le 16, 3) := by decide +kernel
theorem d5_9 : decode prog_7_method_4_code 9 = .ok (.lload_n 1, 1) := by decide +kernel
theorem d5_10 : decode prog_7_method_4_code 10 = .ok (.aload_n 0, 1) := by decide +kernel
theorem d5_11 : decode prog_7_method_4_code 11 = .ok (.getfield 22, 3) := by decide +kernel
theorem d5_14 : decode prog_7_method_4_code 14 = .ok (.lcmp, 1) := by decide +kernel
theorem d5_15 : decode prog_7_method_4_code 15 = .ok (.ifCond .gt 7, 3) := by decide +kernel
theorem d5_22 : decode prog_7_method_4_code 22 = .ok (.iconst 0, 1) := by decide +kernel
theorem d5_18 : decode prog_7_method_4_code 18 = .ok (.iconst 1, 1) := by decide +kernel
theorem d5_19 : decode prog_7_method_4_code 19 = .ok (.goto 4, 3) := by decide +kernel
theorem d5_23 : decode prog_7_method_4_code 23 = .ok (.ireturn, 1) := by decide +kernel
def own_F5 (q5_1 : Int64) (w_left_a5_0 : Int64) (w_right_a5_0 : Int64) : Int32 := (if w_left_a5_0 < q5_1 then (if w_right_a5_0 < q5_1 then (0 : Int32) else (1 : Int32)) else (0 : Int32))
theorem own_ef5 (m : MethodId) (x0 : Addr) (x1 : Int64) : entryFrame m #[(.ref x0), (.long x1)] 3 = mkF m 0 #[.val (.ref x0), .val (.long x1), .second] [] := by first | (simp [entryFrame, mkF, argsToLocals, Value.category]; done) | rfl
def own_Q5 (r : Int32) (h0 : Heap) (n0 : Nat) (v : Option Value) (h : Heap) (L : List Loc) : Prop := v = some (.int r) ∧ Fr n0 L ∧ h = h0
set_option maxRecDepth 65536 in
set_option maxHeartbeats 40000000 in
theorem own_rm5 (l : Launch) (Z : State) (a0 : Array Value) (hw : ∀ d ∈ tables_1, d.before a0 Z = true) (ws : List Jvm.Cond) (a5_0 : Addr) (q5_1 : Int64) (w_left_a5_0 : Int64) (w_right_a5_0 : Int64) (h0 : Heap) (n0 : Nat) (Z0 : n0 ≤ h0.size) (F_left_a5_0 : Fld Z h0 a5_0 "com/example/vasto/vasto/cluster/TokenRange" "left" "J" (.long w_left_a5_0)) (F_right_a5_0 : Fld Z h0 a5_0 "com/example/vasto/vasto/cluster/TokenRange" "right" "J" (.long w_right_a5_0)) :
    MetFree l (⟨"com/example/vasto/vasto/cluster/TokenRange", "contains", "(J)Z"⟩ : MethodName) (head1 (Jvm.Cond.code (⟨"com/example/vasto/vasto/cluster/TokenRange", "contains", "(J)Z"⟩ : MethodName) prog_7_method_4_code 3 (some .boolean) :: ws) ({ frames := 0, cells := 0, slots := 0, locals := 0 } : Room)) (fun a U => a = #[(.ref a5_0), (.long q5_1)] ∧ Z.Warmed39 U.vm ∧ U.heap = h0) (fun _ _ _ _ _ => True) (fun _ U o U' => ∃ v L, o = .returned v ∧ own_Q5 (own_F5 q5_1 w_left_a5_0 w_right_a5_0) h0 n0 v U'.heap L ∧ FrameEnd U o U' L ({ frames := 0, cells := 0, slots := 0, locals := 0 } : Room).cells ({ frames := 0, cells := 0, slots := 0, locals := 0 } : Room).slots) := by
  refine MetFree.of_bodySF (plainFor_of_name pn_com_example_vasto_vasto_cluster_TokenRange) hisR ?_
  intro p e s m args below meth c s₁ Bd hml0 hP hK
  obtain ⟨rfl, hZ, hh⟩ := hP
  have hx := Bd.exec
  have hby := Bd.bytes
  have hlk : meth.locks = false := BodyLoose.notSynchronized Bd
  have hml : c.maxLocals = 3 := hml0
  have hown : s.vm.findClass "com/example/vasto/vasto/cluster/TokenRange" = some m.cls := findClass_of_methodNamed Bd.named
  have hnm := (name_of_methodNamed Bd.named Bd.method).1
  have X0 : Stand p l e ({ frames := 0, cells := 0, slots := 0, locals := 0 } : Room) s m #[(.ref a5_0), (.long q5_1)] below meth c s₁ [] 0 0 := Stand.of_body Bd
  have e0 : s₁.heap = h0 := by rw [← hh, Bd.state]; rfl
  have N0 := Fr.nil n0
  show own_Go p e below (own_P s below ({ frames := 0, cells := 0, slots := 0, locals := 0 } : Room) (own_Q5 (own_F5 q5_1 w_left_a5_0 w_right_a5_0) h0 n0)) s₁ (entryFrame m #[(.ref a5_0), (.long q5_1)] 3)
  refine own_in (own_ef5 m a5_0 q5_1) ?_
  refine own_by (T' := s₁) (g' := (mkF m 2 #[.val (.ref a5_0), .val (.long q5_1), .second] [(.ref a5_0), (.long q5_1)])) (fun t k => ?_) ?_
  · show Steps p.tables e below (s₁.setTop (mkF m 0 #[.val (.ref a5_0), .val (.long q5_1), .second] [])) t
    refine XS.lloadN X0.here hx rfl (hb hby d5_0) rfl ?_
    show Steps p.tables e below (s₁.setTop (mkF m 1 #[.val (.ref a5_0), .val (.long q5_1), .second] [(.long q5_1)])) t
    refine XS.aloadN X0.here hx rfl (hb hby d5_1) rfl rfl ?_
    show Steps p.tables e below (s₁.setTop (mkF m 2 #[.val (.ref a5_0), .val (.long q5_1), .second] [(.ref a5_0), (.long q5_1)])) t
    exact k
  obtain ⟨T20, X20, e20, st20⟩ := getF X0 hx hZ hown (host := "") (Or.inl (hw _ (List.mem_of_getElem? (i := 16) rfl))) Via.refl e0 F_left_a5_0 (g := (mkF m 2 #[.val (.ref a5_0), .val (.long q5_1), .second] [(.ref a5_0), (.long q5_1)])) rfl rfl (hb hby d5_2)
  refine own_by (T' := T20) (g' := (mkF m 5 #[.val (.ref a5_0), .val (.long q5_1), .second] [(.long w_left_a5_0), (.long q5_1)])) st20 ?_
  refine own_by (T' := T20) (g' := (mkF m 6 #[.val (.ref a5_0), .val (.long q5_1), .second] [(.int (lcmpW q5_1 w_left_a5_0))])) (fun t k => ?_) ?_
  · show Steps p.tables e below (T20.setTop (mkF m 5 #[.val (.ref a5_0), .val (.long q5_1), .second] [(.long w_left_a5_0), (.long q5_1)])) t
    refine XS.lcmp X20.here hx rfl (hb hby d5_5) rfl ?_
    show Steps p.tables e below (T20.setTop (mkF m 6 #[.val (.ref a5_0), .val (.long q5_1), .second] [(.int (lcmpW q5_1 w_left_a5_0))])) t
    exact k
  by_cases hc21 : w_left_a5_0 < q5_1
  · skip
    refine own_by (T' := T20) (g' := (mkF m 11 #[.val (.ref a5_0), .val (.long q5_1), .second] [(.ref a5_0), (.long q5_1)])) (fun t k => ?_) ?_
    · show Steps p.tables e below (T20.setTop (mkF m 6 #[.val (.ref a5_0), .val (.long q5_1), .second] [(.int (lcmpW q5_1 w_left_a5_0))])) t
      refine XS.ifNo X20.here hx rfl (hb hby d5_6) rfl ((if0 _ _).trans (tlt ((lw_gt _ _).mpr hc21)).2.2.2) ?_
      show Steps p.tables e below (T20.setTop (mkF m 9 #[.val (.ref a5_0), .val (.long q5_1), .second] [])) t
      refine XS.lloadN X20.here hx rfl (hb hby d5_9) rfl ?_
      show Steps p.tables e below (T20.setTop (mkF m 10 #[.val (.ref a5_0), .val (.long q5_1), .second] [(.long q5_1)])) t
      refine XS.aloadN X20.here hx rfl (hb hby d5_10) rfl rfl ?_
      show Steps p.tables e below (T20.setTop (mkF m 11 #[.val (.ref a5_0), .val (.long q5_1), .second] [(.ref a5_0), (.long q5_1)])) t
      exact k
    obtain ⟨T24, X24, e24, st24⟩ := getF X20 hx hZ hown (host := "") (Or.inl (hw _ (List.mem_of_getElem? (i := 18) rfl))) Via.refl e20 F_right_a5_0 (g := (mkF m 11 #[.val (.ref a5_0), .val (.long q5_1), .second] [(.ref a5_0), (.long q5_1)])) rfl rfl (hb hby d5_11)
    refine own_by (T' := T24) (g' := (mkF m 14 #[.val (.ref a5_0), .val (.long q5_1), .second] [(.long w_right_a5_0), (.long q5_1)])) st24 ?_
    refine own_by (T' := T24) (g' := (mkF m 15 #[.val (.ref a5_0), .val (.long q5_1), .second] [(.int (lcmpW q5_1 w_right_a5_0))])) (fun t k => ?_) ?_
    · show Steps p.tables e below (T24.setTop (mkF m 14 #[.val (.ref a5_0), .val (.long q5_1), .second] [(.long w_right_a5_0), (.long q5_1)])) t
      refine XS.lcmp X24.here hx rfl (hb hby d5_14) rfl ?_
      show Steps p.tables e below (T24.setTop (mkF m 15 #[.val (.ref a5_0), .val (.long q5_1), .second] [(.int (lcmpW q5_1 w_right_a5_0))])) t
      exact k
    by_cases hc25 : w_right_a5_0 < q5_1
    · skip
      refine own_by (T' := T24) (g' := (mkF m 23 #[.val (.ref a5_0), .val (.long q5_1), .second] [(.int (0 : Int32))])) (fun t k => ?_) ?_
      · show Steps p.tables e below (T24.setTop (mkF m 15 #[.val (.ref a5_0), .val (.long q5_1), .second] [(.int (lcmpW q5_1 w_right_a5_0))])) t
        refine XS.ifYes X24.here hx rfl (pc0 := 15) (pc' := 22) rfl (hb hby d5_15) rfl ((if0 _ _).trans (tlt ((lw_gt _ _).mpr hc25)).2.2.1) (by decide) (by decide) ?_
        show Steps p.tables e below (T24.setTop (mkF m 22 #[.val (.ref a5_0), .val (.long q5_1), .second] [])) t
        refine XS.iconst X24.here hx rfl (hb hby d5_22) ?_
        show Steps p.tables e below (T24.setTop (mkF m 23 #[.val (.ref a5_0), .val (.long q5_1), .second] [(.int (0 : Int32))])) t
        exact k
      rw [show own_F5 q5_1 w_left_a5_0 w_right_a5_0 = (0 : Int32) from ((if_pos hc21).trans ((if_pos hc25).trans rfl))]
      exact own_retN X24 hx (t := .boolean) Bd.returns (by simp) (hb hby d5_23) hlk (by decide) (by decide) ⟨rfl, N0, e24⟩
    · skip
      refine own_by (T' := T24) (g' := (mkF m 23 #[.val (.ref a5_0), .val (.long q5_1), .second] [(.int (1 : Int32))])) (fun t k => ?_) ?_
      · show Steps p.tables e below (T24.setTop (mkF m 15 #[.val (.ref a5_0), .val (.long q5_1), .second] [(.int (lcmpW q5_1 w_right_a5_0))])) t
        refine XS.ifNo X24.here hx rfl (hb hby d5_15) rfl ((if0 _ _).trans (flt (fun q => hc25 ((lw_gt _ _).mp q))).2.2.1) ?_
        show Steps p.tables e below (T24.setTop (mkF m 18 #[.val (.ref a5_0), .val (.long q5_1), .second] [])) t
        refine XS.iconst X24.here hx rfl (hb hby d5_18) ?_
        show Steps p.tables e below (T24.setTop (mkF m 19 #[.val (.ref a5_0), .val (.long q5_1), .second] [(.int (1 : Int32))])) t
        refine XS.goto X24.here hx rfl (pc0 := 19) (pc' := 23) rfl (hb hby d5_19) (by decide) (by decide) ?_
        show Steps p.tables e below (T24.setTop (mkF m 23 #[.val (.ref a5_0), .val (.long q5_1), .second] [(.int (1 : Int32))])) t
        exact k
      rw [show own_F5 q5_1 w_left_a5_0 w_right_a5_0 = (1 : Int32) from ((if_pos hc21).trans ((if_neg hc25).trans rfl))]
      exact own_retN X24 hx (t := .boolean) Bd.returns (by simp) (hb hby d5_23) hlk (by decide) (by decide) ⟨rfl, N0, e24⟩
  · skip
    refine own_by (T' := T20) (g' := (mkF m 23 #[.val (.ref a5_0), .val (.long q5_1), .second] [(.int (0 : Int32))])) (fun t k => ?_) ?_
    · show Steps p.tables e below (T20.setTop (mkF m 6 #[.val (.ref a5_0), .val (.long q5_1), .second] [(.int (lcmpW q5_1 w_left_a5_0))])) t
      refine XS.ifYes X20.here hx rfl (pc0 := 6) (pc' := 22) rfl (hb hby d5_6) rfl ((if0 _ _).trans (flt (fun q => hc21 ((lw_gt _ _).mp q))).2.2.2) (by decide) (by decide) ?_
      show Steps p.tables e below (T20.setTop (mkF m 22 #[.val (.ref a5_0), .val (.long q5_1), .second] [])) t
      refine XS.iconst X20.here hx rfl (hb hby d5_22) ?_
      show Steps p.tables e below (T20.setTop (mkF m 23 #[.val (.ref a5_0), .val (.long q5_1), .second] [(.int (0 : Int32))])) t
      exact k
    rw [show own_F5 q5_1 w_left_a5_0 w_right_a5_0 = (0 : Int32) from ((if_neg hc21).trans rfl)]
    exact own_retN X20 hx (t := .boolean) Bd.returns (by simp) (hb hby d5_23) hlk (by decide) (by decide) ⟨rfl, N0, e20⟩
theorem own_add1 (x : Int64) : (x + 1).toInt = if x.toInt = 9223372036854775807 then -9223372036854775808 else x.toInt + 1 := by
  have h1 := x.toInt_lt
  have h2 := x.le_toInt
  rw [Int64.toInt_add, show (1 : Int64).toInt = 1 from by decide, Int.bmod_def]
  split <;> split <;> omega
theorem own_sub1 (x : Int64) : (x - 1).toInt = if x.toInt = -9223372036854775808 then 9223372036854775807 else x.toInt - 1 := by
  have h1 := x.toInt_lt
  have h2 := x.le_toInt
  rw [Int64.toInt_sub, show (1 : Int64).toInt = 1 from by decide, Int.bmod_def]
  split <;> split <;> omega
theorem own_lt1 (a b : Int64) (h : ¬ own_F1 a b = own_F2 a b) : own_F1 a b < own_F2 a b := by
  unfold own_F1 own_F2 at *
  rw [← Int64.toInt_inj] at h
  simp only [Int64.lt_iff_toInt_lt] at h ⊢
  repeat' split
  all_goals first | omega | (split at h <;> omega) | (simp_all; omega)
theorem own_lt2 (a b : Int64) (h : own_F1 a b = own_F2 a b) (h2 : own_F2 a b = (9223372036854775807 : Int64)) : own_F2 a b - 1 < own_F2 a b := by
  rw [h2]; decide
theorem own_lt3 (a b : Int64) (h : own_F1 a b = own_F2 a b) (h2 : ¬ own_F2 a b = (9223372036854775807 : Int64)) : own_F1 a b < own_F1 a b + 1 := by
  rw [← h, ← Int64.toInt_inj, show (9223372036854775807 : Int64).toInt = 9223372036854775807 from by decide] at h2
  rw [Int64.lt_iff_toInt_lt, own_add1, if_neg h2]
  omega

theorem pd__JJ_J : parseMethodDescriptor "(JJ)J" = some ⟨[.long, .long], some .long⟩ := by decide +kernel
theorem pd__JJ_V : parseMethodDescriptor "(JJ)V" = some ⟨[.long, .long], none⟩ := by decide +kernel
theorem pd__J_Z : parseMethodDescriptor "(J)Z" = some ⟨[.long], some .boolean⟩ := by decide +kernel
theorem pn_com_example_vasto_vasto_cluster_TokenRangeContainsPinLaw : plainName "com/example/vasto/vasto/cluster/TokenRangeContainsPinLaw" = true := by first | (simp [plainName, overriddenIn]; done) | decide +kernel
def own_F0_252_5 (q0_0 : Int64) (q0_1 : Int64) (q0_2 : Int64) (p0_3 : Int32) (j32 : Int64) (j33 : Int64) (j75 : Int64) (i76 : Int32) : Int32 := (if (own_F5 j75 j32 j33) = i76 then (1 : Int32) else (0 : Int32))
def own_F0_169_6 (q0_0 : Int64) (q0_1 : Int64) (q0_2 : Int64) (p0_3 : Int32) (j32 : Int64) (j33 : Int64) (i87 : Int32) : Int32 := (own_F0_252_5 q0_0 q0_1 q0_2 p0_3 j32 j33 (j32 - (1 : Int64)) i87)
def own_F0_202_7 (q0_0 : Int64) (q0_1 : Int64) (q0_2 : Int64) (p0_3 : Int32) (j32 : Int64) (j33 : Int64) (i92 : Int32) : Int32 := (own_F0_252_5 q0_0 q0_1 q0_2 p0_3 j32 j33 (j33 - (1 : Int64)) i92)
def own_F0_250_8 (q0_0 : Int64) (q0_1 : Int64) (q0_2 : Int64) (p0_3 : Int32) (j32 : Int64) (j33 : Int64) (i101 : Int32) : Int32 := (own_F0_252_5 q0_0 q0_1 q0_2 p0_3 j32 j33 q0_2 i101)
def own_F0_46_1 (q0_0 : Int64) (q0_1 : Int64) (q0_2 : Int64) (p0_3 : Int32) (j32 : Int64) (j33 : Int64) : Int32 := (if (p0_3 &&& (7 : Int32)) = (1 : Int32) then (own_F0_252_5 q0_0 q0_1 q0_2 p0_3 j32 j33 j32 (0 : Int32)) else (if (p0_3 &&& (7 : Int32)) = (2 : Int32) then (own_F0_252_5 q0_0 q0_1 q0_2 p0_3 j32 j33 j33 (1 : Int32)) else (if (p0_3 &&& (7 : Int32)) = (3 : Int32) then (own_F0_252_5 q0_0 q0_1 q0_2 p0_3 j32 j33 (j32 + (1 : Int64)) (1 : Int32)) else (if (p0_3 &&& (7 : Int32)) = (4 : Int32) then (own_F0_252_5 q0_0 q0_1 q0_2 p0_3 j32 j33 (j33 + (1 : Int64)) (0 : Int32)) else (if (p0_3 &&& (7 : Int32)) = (5 : Int32) then (if j32 = (-9223372036854775808 : Int64) then (if j33 = (9223372036854775807 : Int64) then (own_F0_169_6 q0_0 q0_1 q0_2 p0_3 j32 j33 (1 : Int32)) else (own_F0_169_6 q0_0 q0_1 q0_2 p0_3 j32 j33 (0 : Int32))) else (own_F0_169_6 q0_0 q0_1 q0_2 p0_3 j32 j33 (0 : Int32))) else (if (p0_3 &&& (7 : Int32)) = (6 : Int32) then (if (j33 - (1 : Int64)) = j32 then (own_F0_202_7 q0_0 q0_1 q0_2 p0_3 j32 j33 (0 : Int32)) else (own_F0_202_7 q0_0 q0_1 q0_2 p0_3 j32 j33 (1 : Int32))) else (if (own_F2 j32 q0_2) = q0_2 then (if q0_2 = j32 then (own_F0_250_8 q0_0 q0_1 q0_2 p0_3 j32 j33 (0 : Int32)) else (if (own_F1 j33 q0_2) = q0_2 then (own_F0_250_8 q0_0 q0_1 q0_2 p0_3 j32 j33 (1 : Int32)) else (own_F0_250_8 q0_0 q0_1 q0_2 p0_3 j32 j33 (0 : Int32)))) else (own_F0_250_8 q0_0 q0_1 q0_2 p0_3 j32 j33 (0 : Int32)))))))))
def own_F0 (q0_0 : Int64) (q0_1 : Int64) (q0_2 : Int64) (p0_3 : Int32) : Int32 := (if (own_F1 q0_0 q0_1) = (own_F2 q0_0 q0_1) then (if (own_F2 q0_0 q0_1) = (9223372036854775807 : Int64) then (own_F0_46_1 q0_0 q0_1 q0_2 p0_3 ((own_F2 q0_0 q0_1) - (1 : Int64)) (own_F2 q0_0 q0_1)) else (own_F0_46_1 q0_0 q0_1 q0_2 p0_3 (own_F1 q0_0 q0_1) ((own_F1 q0_0 q0_1) + (1 : Int64)))) else (own_F0_46_1 q0_0 q0_1 q0_2 p0_3 (own_F1 q0_0 q0_1) (own_F2 q0_0 q0_1)))
theorem own_ef0 (m : MethodId) (x0 : Int64) (x1 : Int64) (x2 : Int64) (x3 : Int32) : entryFrame m #[(.long x0), (.long x1), (.long x2), (.int x3)] maxLocals = mkF m 0 #[.val (.long x0), .second, .val (.long x1), .second, .val (.long x2), .second, .val (.int x3), .unset, .unset, .unset, .unset, .unset, .unset, .unset, .unset, .unset] [] := by first | (simp [entryFrame, mkF, argsToLocals, Value.category, maxLocals]; done) | rfl
def own_Q0 (r : Int32) (h0 : Heap) (n0 : Nat) (v : Option Value) (h : Heap) (L : List Loc) : Prop := v = some (.int r) ∧ Fr n0 L
set_option maxRecDepth 65536 in
set_option maxHeartbeats 40000000 in
theorem own_rm0 (l : Launch) (Z : State) (a0 : Array Value) (hw : ∀ d ∈ tables_1, d.before a0 Z = true) (ws : List Jvm.Cond) (q0_0 : Int64) (q0_1 : Int64) (q0_2 : Int64) (p0_3 : Int32) (h0 : Heap) (n0 : Nat) (Z0 : n0 ≤ h0.size) :
    MetFree l x (head1 (Jvm.Cond.code x code maxLocals ret :: ws) room_1) (fun a U => a = #[(.long q0_0), (.long q0_1), (.long q0_2), (.int p0_3)] ∧ Z.Warmed39 U.vm ∧ U.heap = h0) (fun _ _ _ _ _ => True) (fun _ U o U' => ∃ v L, o = .returned v ∧ own_Q0 (own_F0 q0_0 q0_1 q0_2 p0_3) h0 n0 v U'.heap L ∧ FrameEnd U o U' L room_1.cells room_1.slots) := by
  refine MetFree.of_bodySF (plainFor_of_name pn_com_example_vasto_vasto_cluster_TokenRangeContainsPinLaw) hisR ?_
  intro p e s m args below meth c s₁ Bd hml0 hP hK
  obtain ⟨rfl, hZ, hh⟩ := hP
  have hx := Bd.exec
  have hby := Bd.bytes
  have hlk : meth.locks = false := BodyLoose.notSynchronized Bd
  have hml : c.maxLocals = 16 := hml0
  have hown : s.vm.findClass "com/example/vasto/vasto/cluster/TokenRangeContainsPinLaw" = some m.cls := findClass_of_methodNamed Bd.named
  have hnm := (name_of_methodNamed Bd.named Bd.method).1
  have X0 : Stand p l e room_1 s m #[(.long q0_0), (.long q0_1), (.long q0_2), (.int p0_3)] below meth c s₁ [] 0 0 := Stand.of_body Bd
  have e0 : s₁.heap = h0 := by rw [← hh, Bd.state]; rfl
  have N0 := Fr.nil n0
  show own_Go p e below (own_P s below room_1 (own_Q0 (own_F0 q0_0 q0_1 q0_2 p0_3) h0 n0)) s₁ (entryFrame m #[(.long q0_0), (.long q0_1), (.long q0_2), (.int p0_3)] maxLocals)
  refine own_in (own_ef0 m q0_0 q0_1 q0_2 p0_3) ?_
  refine own_by (T' := s₁) (g' := (mkF m 2 #[.val (.long q0_0), .second, .val (.long q0_1), .second, .val (.long q0_2), .second, .val (.int p0_3), .unset, .unset, .unset, .unset, .unset, .unset, .unset, .unset, .unset] [(.long q0_1), (.long q0_0)])) (fun t k => ?_) ?_
  · show Steps p.tables e below (s₁.setTop (mkF m 0 #[.val (.long q0_0), .second, .val (.long q0_1), .second, .val (.long q0_2), .second, .val (.int p0_3), .unset, .unset, .unset, .unset, .unset, .unset, .unset, .unset, .unset] [])) t
    refine XS.lloadN X0.here hx rfl (hb hby at_0) rfl ?_
    show Steps p.tables e below (s₁.setTop (mkF m 1 #[.val (.long q0_0), .second, .val (.long q0_1), .second, .val (.long q0_2), .second, .val (.int p0_3), .unset, .unset, .unset, .unset, .unset, .unset, .unset, .unset, .unset] [(.long q0_0)])) t
    refine XS.lloadN X0.here hx rfl (hb hby at_1) rfl ?_
    show Steps p.tables e below (s₁.setTop (mkF m 2 #[.val (.long q0_0), .second, .val (.long q0_1), .second, .val (.long q0_2), .second, .val (.int p0_3), .unset, .unset, .unset, .unset, .unset, .unset, .unset, .unset, .unset] [(.long q0_1), (.long q0_0)])) t
    exact k
  obtain ⟨v26, _, ⟨T26, L26, k26, n26⟩, -, X26, ⟨Lc26, hQ26, l26, y26, z26⟩, st26⟩ := Jvm.LawKit.callS X0 hx (y := (⟨"java/lang/Math", "min", "(JJ)J"⟩ : MethodName)) hown (mvT hZ (hw _ (List.mem_of_getElem? (i := 0) rfl))) (mvT hZ (hw _ (List.mem_of_getElem? (i := 1) rfl))) (mvT hZ (hw _ (List.mem_of_getElem? (i := 2) rfl))) (mvT hZ (hw _ (List.mem_of_getElem? (i := 3) rfl))) (by decide) (backOf (W := 0) (own_rm1 l Z a0 hw [] q0_0 q0_1 h0 n0 Z0) hZ (hw _ (List.mem_of_getElem? (i := 3) rfl)) (hw _ (List.mem_of_getElem? (i := 2) rfl)) (by decide) (by decide)) (g := (mkF m 2 #[.val (.long q0_0), .second, .val (.long q0_1), .second, .val (.long q0_2), .second, .val (.int p0_3), .unset, .unset, .unset, .unset, .unset, .unset, .unset, .unset, .unset] [(.long q0_1), (.long q0_0)])) rfl (by rw [hml]; rfl) (argsL := [(.long q0_0), (.long q0_1)]) (rest := []) (lenOf pd__JJ_J rfl) rfl (by show 2 * 0 + _ ≤ _; exact Nat.le_of_eq rfl) (hb hby at_2) (fun _ _ => ⟨rfl, e0, (by decide : 0 + 0 ≤ _), (by decide : 0 + 0 ≤ _)⟩)
  dsimp only [Pt.U, Pt.locs, Pt.cells, Pt.slots] at X26 l26 y26 z26 st26 hQ26
  subst l26 y26 z26
  obtain ⟨rfl, M26, e26⟩ := hQ26
  have N27 := Fr.app N0 M26
  refine own_by (T' := T26) (g' := (mkF m 5 #[.val (.long q0_0), .second, .val (.long q0_1), .second, .val (.long q0_2), .second, .val (.int p0_3), .unset, .unset, .unset, .unset, .unset, .unset, .unset, .unset, .unset] [(.long (own_F1 q0_0 q0_1))])) st26 ?_
  refine own_by (T' := T26) (g' := (mkF m 9 #[.val (.long q0_0), .second, .val (.long q0_1), .second, .val (.long q0_2), .second, .val (.int p0_3), .val (.long (own_F1 q0_0 q0_1)), .second, .unset, .unset, .unset, .unset, .unset, .unset, .unset] [(.long q0_1), (.long q0_0)])) (fun t k => ?_) ?_
  · show Steps p.tables e below (T26.setTop (mkF m 5 #[.val (.long q0_0), .second, .val (.long q0_1), .second, .val (.long q0_2), .second, .val (.int p0_3), .unset, .unset, .unset, .unset, .unset, .unset, .unset, .unset, .unset] [(.long (own_F1 q0_0 q0_1))])) t
    refine XS.lstore X26.here hx rfl (hb hby at_5) rfl (l' := #[.val (.long q0_0), .second, .val (.long q0_1), .second, .val (.long q0_2), .second, .val (.int p0_3), .val (.long (own_F1 q0_0 q0_1)), .second, .unset, .unset, .unset, .unset, .unset, .unset, .unset]) rfl ?_
    show Steps p.tables e below (T26.setTop (mkF m 7 #[.val (.long q0_0), .second, .val (.long q0_1), .second, .val (.long q0_2), .second, .val (.int p0_3), .val (.long (own_F1 q0_0 q0_1)), .second, .unset, .unset, .unset, .unset, .unset, .unset, .unset] [])) t
    refine XS.lloadN X26.here hx rfl (hb hby at_7) rfl ?_
    show Steps p.tables e below (T26.setTop (mkF m 8 #[.val (.long q0_0), .second, .val (.long q0_1), .second, .val (.long q0_2), .second, .val (.int p0_3), .val (.long (own_F1 q0_0 q0_1)), .second, .unset, .unset, .unset, .unset, .unset, .unset, .unset] [(.long q0_0)])) t
    refine XS.lloadN X26.here hx rfl (hb hby at_8) rfl ?_
    show Steps p.tables e below (T26.setTop (mkF m 9 #[.val (.long q0_0), .second, .val (.long q0_1), .second, .val (.long q0_2), .second, .val (.int p0_3), .val (.long (own_F1 q0_0 q0_1)), .second, .unset, .unset, .unset, .unset, .unset, .unset, .unset] [(.long q0_1), (.long q0_0)])) t
    exact k
  obtain ⟨v28, _, ⟨T28, L28, k28, n28⟩, -, X28, ⟨Lc28, hQ28, l28, y28, z28⟩, st28⟩ := Jvm.LawKit.callS X26 hx (y := (⟨"java/lang/Math", "max", "(JJ)J"⟩ : MethodName)) hown (mvT hZ (hw _ (List.mem_of_getElem? (i := 4) rfl))) (mvT hZ (hw _ (List.mem_of_getElem? (i := 5) rfl))) (mvT hZ (hw _ (List.mem_of_getElem? (i := 2) rfl))) (mvT hZ (hw _ (List.mem_of_getElem? (i := 6) rfl))) (by decide) (backOf (W := 0) (own_rm2 l Z a0 hw [] q0_0 q0_1 h0 n0 Z0) hZ (hw _ (List.mem_of_getElem? (i := 6) rfl)) (hw _ (List.mem_of_getElem? (i := 2) rfl)) (by decide) (by decide)) (g := (mkF m 9 #[.val (.long q0_0), .second, .val (.long q0_1), .second, .val (.long q0_2), .second, .val (.int p0_3), .val (.long (own_F1 q0_0 q0_1)), .second, .unset, .unset, .unset, .unset, .unset, .unset, .unset] [(.long q0_1), (.long q0_0)])) rfl (by rw [hml]; rfl) (argsL := [(.long q0_0), (.long q0_1)]) (rest := []) (lenOf pd__JJ_J rfl) rfl (by show 2 * 0 + _ ≤ _; exact Nat.le_of_eq rfl) (hb hby at_9) (fun _ _ => ⟨rfl, e26, (by decide : 0 + 0 ≤ _), (by decide : 0 + 0 ≤ _)⟩)
  dsimp only [Pt.U, Pt.locs, Pt.cells, Pt.slots] at X28 l28 y28 z28 st28 hQ28
  subst l28 y28 z28
  obtain ⟨rfl, M28, e28⟩ := hQ28
  have N29 := Fr.app N27 M28
  refine own_by (T' := T28) (g' := (mkF m 12 #[.val (.long q0_0), .second, .val (.long q0_1), .second, .val (.long q0_2), .second, .val (.int p0_3), .val (.long (own_F1 q0_0 q0_1)), .second, .unset, .unset, .unset, .unset, .unset, .unset, .unset] [(.long (own_F2 q0_0 q0_1))])) st28 ?_
  refine own_by (T' := T28) (g' := (mkF m 19 #[.val (.long q0_0), .second, .val (.long q0_1), .second, .val (.long q0_2), .second, .val (.int p0_3), .val (.long (own_F1 q0_0 q0_1)), .second, .val (.long (own_F2 q0_0 q0_1)), .second, .unset, .unset, .unset, .unset, .unset] [(.int (lcmpW (own_F1 q0_0 q0_1) (own_F2 q0_0 q0_1)))])) (fun t k => ?_) ?_
  · show Steps p.tables e below (T28.setTop (mkF m 12 #[.val (.long q0_0), .second, .val (.long q0_1), .second, .val (.long q0_2), .second, .val (.int p0_3), .val (.long (own_F1 q0_0 q0_1)), .second, .unset, .unset, .unset, .unset, .unset, .unset, .unset] [(.long (own_F2 q0_0 q0_1))])) t
    refine XS.lstore X28.here hx rfl (hb hby at_12) rfl (l' := #[.val (.long q0_0), .second, .val (.long q0_1), .second, .val (.long q0_2), .second, .val (.int p0_3), .val (.long (own_F1 q0_0 q0_1)), .second, .val (.long (own_F2 q0_0 q0_1)), .second, .unset, .unset, .unset, .unset, .unset]) rfl ?_
    show Steps p.tables e below (T28.setTop (mkF m 14 #[.val (.long q0_0), .second, .val (.long q0_1), .second, .val (.long q0_2), .second, .val (.int p0_3), .val (.long (own_F1 q0_0 q0_1)), .second, .val (.long (own_F2 q0_0 q0_1)), .second, .unset, .unset, .unset, .unset, .unset] [])) t
    refine XS.lload X28.here hx rfl (hb hby at_14) rfl ?_
    show Steps p.tables e below (T28.setTop (mkF m 16 #[.val (.long q0_0), .second, .val (.long q0_1), .second, .val (.long q0_2), .second, .val (.int p0_3), .val (.long (own_F1 q0_0 q0_1)), .second, .val (.long (own_F2 q0_0 q0_1)), .second, .unset, .unset, .unset, .unset, .unset] [(.long (own_F1 q0_0 q0_1))])) t
    refine XS.lload X28.here hx rfl (hb hby at_16) rfl ?_
    show Steps p.tables e below (T28.setTop (mkF m 18 #[.val (.long q0_0), .second, .val (.long q0_1), .second, .val (.long q0_2), .second, .val (.int p0_3), .val (.long (own_F1 q0_0 q0_1)), .second, .val (.long (own_F2 q0_0 q0_1)), .second, .unset, .unset, .unset, .unset, .unset] [(.long (own_F2 q0_0 q0_1)), (.long (own_F1 q0_0 q0_1))])) t
    refine XS.lcmp X28.here hx rfl (hb hby at_18) rfl ?_
    show Steps p.tables e below (T28.setTop (mkF m 19 #[.val (.long q0_0), .second, .val (.long q0_1), .second, .val (.long q0_2), .second, .val (.int p0_3), .val (.long (own_F1 q0_0 q0_1)), .second, .val (.long (own_F2 q0_0 q0_1)), .second, .unset, .unset, .unset, .unset, .unset] [(.int (lcmpW (own_F1 q0_0 q0_1) (own_F2 q0_0 q0_1)))])) t
    exact k
  have J0_1 : ∀ (T34 : State) (L34 : List Loc) (j32 : Int64) (j33 : Int64), Stand p l e room_1 s m #[(.long q0_0), (.long q0_1), (.long q0_2), (.int p0_3)] below meth c T34 L34 0 0 → T34.heap = h0 → Fr n0 L34 → (j32 < j33) → own_Go p e below (own_P s below room_1 (own_Q0 (own_F0_46_1 q0_0 q0_1 q0_2 p0_3 j32 j33) h0 n0)) T34 (mkF m 46 #[.val (.long q0_0), .second, .val (.long q0_1), .second, .val (.long q0_2), .second, .val (.int p0_3), .val (.long j32), .second, .val (.long j33), .second, .unset, .unset, .unset, .unset, .unset] []) := by
    intro T34 L34 j32 j33 X34 e34 N34 HLH
    obtain ⟨T35, h35, X35, e35, E35, A35, D35, -, st35⟩ := newO X34 hx hZ hown (hw _ (List.mem_of_getElem? (i := 7) rfl)) (hw _ (List.mem_of_getElem? (i := 8) rfl)) (hw _ (List.mem_of_getElem? (i := 9) rfl)) e34 (g := (mkF m 46 #[.val (.long q0_0), .second, .val (.long q0_1), .second, .val (.long q0_2), .second, .val (.int p0_3), .val (.long j32), .second, .val (.long j33), .second, .unset, .unset, .unset, .unset, .unset] [])) rfl (hb hby at_46) (by decide) (by decide)
    obtain ⟨b35, g35⟩ : ∃ z, z = h0.size := ⟨_, rfl⟩
    rw [← g35] at A35 D35 st35
    have gn_b35 : n0 ≤ b35 := Nat.le_trans Z0 (Nat.le_of_eq g35.symm)
    have sz_b35 : h0.size ≤ b35 := Nat.le_trans (Keep.refl h0 []).1 (Nat.le_of_eq g35.symm)
    have K36 : Keep h0 h35 [] := (Keep.refl h0 []).ext E35
    have Z37 := Nat.le_trans Z0 E35.1
    have f38 : Fld Z h35 b35 "com/example/vasto/vasto/cluster/TokenRange" "left" "J" (.long (0 : Int64)) := D35 (Or.inr (hw _ (List.mem_of_getElem? (i := 17) rfl))) (ty := .long) (by decide)
    have f39 : Fld Z h35 b35 "com/example/vasto/vasto/cluster/TokenRange" "right" "J" (.long (0 : Int64)) := D35 (Or.inr (hw _ (List.mem_of_getElem? (i := 19) rfl))) (ty := .long) (by decide)
    refine own_by (T' := T35) (g' := (mkF m 49 #[.val (.long q0_0), .second, .val (.long q0_1), .second, .val (.long q0_2), .second, .val (.int p0_3), .val (.long j32), .second, .val (.long j33), .second, .unset, .unset, .unset, .unset, .unset] [(.ref b35)])) st35 ?_
    refine own_by (T' := T35) (g' := (mkF m 54 #[.val (.long q0_0), .second, .val (.long q0_1), .second, .val (.long q0_2), .second, .val (.int p0_3), .val (.long j32), .second, .val (.long j33), .second, .unset, .unset, .unset, .unset, .unset] [(.long j33), (.long j32), (.ref b35), (.ref b35)])) (fun t k => ?_) ?_
    · show Steps p.tables e below (T35.setTop (mkF m 49 #[.val (.long q0_0), .second, .val (.long q0_1), .second, .val (.long q0_2), .second, .val (.int p0_3), .val (.long j32), .second, .val (.long j33), .second, .unset, .unset, .unset, .unset, .unset] [(.ref b35)])) t
      refine XS.dup X35.here hx rfl (hb hby at_49) rfl rfl ?_
      show Steps p.tables e below (T35.setTop (mkF m 50 #[.val (.long q0_0), .second, .val (.long q0_1), .second, .val (.long q0_2), .second, .val (.int p0_3), .val (.long j32), .second, .val (.long j33), .second, .unset, .unset, .unset, .unset, .unset] [(.ref b35), (.ref b35)])) t
      refine XS.lload X35.here hx rfl (hb hby at_50) rfl ?_
      show Steps p.tables e below (T35.setTop (mkF m 52 #[.val (.long q0_0), .second, .val (.long q0_1), .second, .val (.long q0_2), .second, .val (.int p0_3), .val (.long j32), .second, .val (.long j33), .second, .unset, .unset, .unset, .unset, .unset] [(.long j32), (.ref b35), (.ref b35)])) t
      refine XS.lload X35.here hx rfl (hb hby at_52) rfl ?_
      show Steps p.tables e below (T35.setTop (mkF m 54 #[.val (.long q0_0), .second, .val (.long q0_1), .second, .val (.long q0_2), .second, .val (.int p0_3), .val (.long j32), .second, .val (.long j33), .second, .unset, .unset, .unset, .unset, .unset] [(.long j33), (.long j32), (.ref b35), (.ref b35)])) t
      exact k
    obtain ⟨v40, _, ⟨T40, L40, k40, n40⟩, -, X40, ⟨Lc40, hQ40, l40, y40, z40⟩, st40⟩ := X35.specialBack hx (y := (⟨"com/example/vasto/vasto/cluster/TokenRange", "<init>", "(JJ)V"⟩ : MethodName)) rfl hown (mvT hZ (hw _ (List.mem_of_getElem? (i := 10) rfl))) (mvT hZ (hw _ (List.mem_of_getElem? (i := 11) rfl))) (mvT hZ (hw _ (List.mem_of_getElem? (i := 12) rfl))) (by decide) (backOf (W := 1) (own_rm3 l Z a0 hw [] b35 j32 j33 (.long (0 : Int64)) (.long (0 : Int64)) h35 n0 Z37 HLH A35 f38 gn_b35 f39) hZ (hw _ (List.mem_of_getElem? (i := 12) rfl)) (hw _ (List.mem_of_getElem? (i := 9) rfl)) (by decide) (by decide)) (g := (mkF m 54 #[.val (.long q0_0), .second, .val (.long q0_1), .second, .val (.long q0_2), .second, .val (.int p0_3), .val (.long j32), .second, .val (.long j33), .second, .unset, .unset, .unset, .unset, .unset] [(.long j33), (.long j32), (.ref b35), (.ref b35)])) rfl (by rw [hml]; rfl) (Steps.refl _) (a := b35) (argsL := [(.long j32), (.long j33)]) (rest := [(.ref b35)]) (lenOf pd__JJ_V rfl) rfl (by show 2 * 0 + _ ≤ _; exact Nat.le_of_eq rfl) (hb hby at_54) (fun _ _ => ⟨rfl, e35, (by decide : 1 + 0 ≤ _), (by decide : 2 + 0 ≤ _)⟩)
    dsimp only [Pt.U, Pt.locs, Pt.cells, Pt.slots] at X40 l40 y40 z40 st40 hQ40
    subst l40 y40 z40
    obtain ⟨rfl, M40, K40, f41, f42, f43⟩ := hQ40
    have f44 := A35.keep K40
    have K45 : Keep h0 T40.heap [] := K36.trans K40 (allS (Or.inr sz_b35) all0)
    have Z46 := Nat.le_trans Z37 K40.1
    have N47 := Fr.app N34 M40
    refine own_via (T' := T40) (g' := (mkF m 57 #[.val (.long q0_0), .second, .val (.long q0_1), .second, .val (.long q0_2), .second, .val (.int p0_3), .val (.long j32), .second, .val (.long j33), .second, .unset, .unset, .unset, .unset, .unset] [(.ref b35)])) st40 ?_
    refine own_by (T' := T40) (g' := (mkF m 69 #[.val (.long q0_0), .second, .val (.long q0_1), .second, .val (.long q0_2), .second, .val (.int p0_3), .val (.long j32), .second, .val (.long j33), .second, .val (.ref b35), .val (.int (p0_3 &&& (7 : Int32))), .unset, .unset, .unset] [(.int (1 : Int32)), (.int (p0_3 &&& (7 : Int32)))])) (fun t k => ?_) ?_
    · show Steps p.tables e below (T40.setTop (mkF m 57 #[.val (.long q0_0), .second, .val (.long q0_1), .second, .val (.long q0_2), .second, .val (.int p0_3), .val (.long j32), .second, .val (.long j33), .second, .unset, .unset, .unset, .unset, .unset] [(.ref b35)])) t
      refine XS.astore X40.here hx rfl (hb hby at_57) rfl rfl (l' := #[.val (.long q0_0), .second, .val (.long q0_1), .second, .val (.long q0_2), .second, .val (.int p0_3), .val (.long j32), .second, .val (.long j33), .second, .val (.ref b35), .unset, .unset, .unset, .unset]) rfl ?_
      show Steps p.tables e below (T40.setTop (mkF m 59 #[.val (.long q0_0), .second, .val (.long q0_1), .second, .val (.long q0_2), .second, .val (.int p0_3), .val (.long j32), .second, .val (.long j33), .second, .val (.ref b35), .unset, .unset, .unset, .unset] [])) t
      refine XS.iload X40.here hx rfl (hb hby at_59) rfl ?_
      show Steps p.tables e below (T40.setTop (mkF m 61 #[.val (.long q0_0), .second, .val (.long q0_1), .second, .val (.long q0_2), .second, .val (.int p0_3), .val (.long j32), .second, .val (.long j33), .second, .val (.ref b35), .unset, .unset, .unset, .unset] [(.int p0_3)])) t
      refine XS.bipush X40.here hx rfl (hb hby at_61) ?_
      show Steps p.tables e below (T40.setTop (mkF m 63 #[.val (.long q0_0), .second, .val (.long q0_1), .second, .val (.long q0_2), .second, .val (.int p0_3), .val (.long j32), .second, .val (.long j33), .second, .val (.ref b35), .unset, .unset, .unset, .unset] [(.int (7 : Int32)), (.int p0_3)])) t
      refine XS.iand X40.here hx rfl (hb hby at_63) rfl ?_
      show Steps p.tables e below (T40.setTop (mkF m 64 #[.val (.long q0_0), .second, .val (.long q0_1), .second, .val (.long q0_2), .second, .val (.int p0_3), .val (.long j32), .second, .val (.long j33), .second, .val (.ref b35), .unset, .unset, .unset, .unset] [(.int (p0_3 &&& (7 : Int32)))])) t
      refine XS.istore X40.here hx rfl (hb hby at_64) rfl (l' := #[.val (.long q0_0), .second, .val (.long q0_1), .second, .val (.long q0_2), .second, .val (.int p0_3), .val (.long j32), .second, .val (.long j33), .second, .val (.ref b35), .val (.int (p0_3 &&& (7 : Int32))), .unset, .unset, .unset]) rfl ?_
      show Steps p.tables e below (T40.setTop (mkF m 66 #[.val (.long q0_0), .second, .val (.long q0_1), .second, .val (.long q0_2), .second, .val (.int p0_3), .val (.long j32), .second, .val (.long j33), .second, .val (.ref b35), .val (.int (p0_3 &&& (7 : Int32))), .unset, .unset, .unset] [])) t
      refine XS.iload X40.here hx rfl (hb hby at_66) rfl ?_
      show Steps p.tables e below (T40.setTop (mkF m 68 #[.val (.long q0_0), .second, .val (.long q0_1), .second, .val (.long q0_2), .second, .val (.int p0_3), .val (.long j32), .second, .val (.long j33), .second, .val (.ref b35), .val (.int (p0_3 &&& (7 : Int32))), .unset, .unset, .unset] [(.int (p0_3 &&& (7 : Int32)))])) t
      refine XS.iconst X40.here hx rfl (hb hby at_68) ?_
      show Steps p.tables e below (T40.setTop (mkF m 69 #[.val (.long q0_0), .second, .val (.long q0_1), .second, .val (.long q0_2), .second, .val (.int p0_3), .val (.long j32), .second, .val (.long j33), .second, .val (.ref b35), .val (.int (p0_3 &&& (7 : Int32))), .unset, .unset, .unset] [(.int (1 : Int32)), (.int (p0_3 &&& (7 : Int32)))])) t
      exact k
    have J0_5 : ∀ (T77 : State) (L77 : List Loc) (j75 : Int64) (i76 : Int32), Stand p l e room_1 s m #[(.long q0_0), (.long q0_1), (.long q0_2), (.int p0_3)] below meth c T77 L77 1 2 → T77.heap = T40.heap → Fr n0 L77 → own_Go p e below (own_P s below room_1 (own_Q0 (own_F0_252_5 q0_0 q0_1 q0_2 p0_3 j32 j33 j75 i76) h0 n0)) T77 (mkF m 252 #[.val (.long q0_0), .second, .val (.long q0_1), .second, .val (.long q0_2), .second, .val (.int p0_3), .val (.long j32), .second, .val (.long j33), .second, .val (.ref b35), .val (.int (p0_3 &&& (7 : Int32))), .val (.long j75), .second, .val (.int i76)] []) := by
      intro T77 L77 j75 i76 X77 e77 N77
      refine own_by (T' := T77) (g' := (mkF m 256 #[.val (.long q0_0), .second, .val (.long q0_1), .second, .val (.long q0_2), .second, .val (.int p0_3), .val (.long j32), .second, .val (.long j33), .second, .val (.ref b35), .val (.int (p0_3 &&& (7 : Int32))), .val (.long j75), .second, .val (.int i76)] [(.long j75), (.ref b35)])) (fun t k => ?_) ?_
      · show Steps p.tables e below (T77.setTop (mkF m 252 #[.val (.long q0_0), .second, .val (.long q0_1), .second, .val (.long q0_2), .second, .val (.int p0_3), .val (.long j32), .second, .val (.long j33), .second, .val (.ref b35), .val (.int (p0_3 &&& (7 : Int32))), .val (.long j75), .second, .val (.int i76)] [])) t
        refine XS.aload X77.here hx rfl (hb hby at_252) rfl rfl ?_
        show Steps p.tables e below (T77.setTop (mkF m 254 #[.val (.long q0_0), .second, .val (.long q0_1), .second, .val (.long q0_2), .second, .val (.int p0_3), .val (.long j32), .second, .val (.long j33), .second, .val (.ref b35), .val (.int (p0_3 &&& (7 : Int32))), .val (.long j75), .second, .val (.int i76)] [(.ref b35)])) t
        refine XS.lload X77.here hx rfl (hb hby at_254) rfl ?_
        show Steps p.tables e below (T77.setTop (mkF m 256 #[.val (.long q0_0), .second, .val (.long q0_1), .second, .val (.long q0_2), .second, .val (.int p0_3), .val (.long j32), .second, .val (.long j33), .second, .val (.ref b35), .val (.int (p0_3 &&& (7 : Int32))), .val (.long j75), .second, .val (.int i76)] [(.long j75), (.ref b35)])) t
        exact k
      obtain ⟨cq78, kq78, q78a, q78b, q78c⟩ := isOf hZ e77 f41
      obtain ⟨v78, _, ⟨T78, L78, k78, n78⟩, -, X78, ⟨Lc78, hQ78, l78, y78, z78⟩, st78⟩ := X77.virtualBack hx (y := (⟨"com/example/vasto/vasto/cluster/TokenRange", "contains", "(J)Z"⟩ : MethodName)) (z := (⟨"com/example/vasto/vasto/cluster/TokenRange", "contains", "(J)Z"⟩ : MethodName)) hown (mvT hZ (hw _ (List.mem_of_getElem? (i := 20) rfl))) (mvT hZ (hw _ (List.mem_of_getElem? (i := 21) rfl))) (notFace_of_selects (args := #[]) (mvT hZ (hw _ (List.mem_of_getElem? (i := 23) rfl)))) (mvT hZ (hw _ (List.mem_of_getElem? (i := 23) rfl))) (mvT hZ (hw _ (List.mem_of_getElem? (i := 22) rfl))) (by decide) (backOf (W := 0) (own_rm5 l Z a0 hw [] b35 j75 j32 j33 T40.heap n0 Z46 f42 f43) hZ (hw _ (List.mem_of_getElem? (i := 24) rfl)) (hw _ (List.mem_of_getElem? (i := 9) rfl)) (by decide) (by decide)) q78a q78c (g := (mkF m 256 #[.val (.long q0_0), .second, .val (.long q0_1), .second, .val (.long q0_2), .second, .val (.int p0_3), .val (.long j32), .second, .val (.long j33), .second, .val (.ref b35), .val (.int (p0_3 &&& (7 : Int32))), .val (.long j75), .second, .val (.int i76)] [(.long j75), (.ref b35)])) rfl (by rw [hml]; rfl) (Steps.refl _) (argsL := [(.long j75)]) (rest := []) (lenOf pd__J_Z rfl) rfl (by show 2 * 0 + _ ≤ _; exact Nat.le_of_eq rfl) (hb hby at_256) (fun _ _ => ⟨rfl, e77, (by decide : 1 + 0 ≤ _), (by decide : 2 + 0 ≤ _)⟩)
      dsimp only [Pt.U, Pt.locs, Pt.cells, Pt.slots] at X78 l78 y78 z78 st78 hQ78
      subst l78 y78 z78
      obtain ⟨rfl, M78, e78⟩ := hQ78
      have N79 := Fr.app N77 M78
      refine own_via (T' := T78) (g' := (mkF m 259 #[.val (.long q0_0), .second, .val (.long q0_1), .second, .val (.long q0_2), .second, .val (.int p0_3), .val (.long j32), .second, .val (.long j33), .second, .val (.ref b35), .val (.int (p0_3 &&& (7 : Int32))), .val (.long j75), .second, .val (.int i76)] [(.int (own_F5 j75 j32 j33))])) st78 ?_
      refine own_by (T' := T78) (g' := (mkF m 261 #[.val (.long q0_0), .second, .val (.long q0_1), .second, .val (.long q0_2), .second, .val (.int p0_3), .val (.long j32), .second, .val (.long j33), .second, .val (.ref b35), .val (.int (p0_3 &&& (7 : Int32))), .val (.long j75), .second, .val (.int i76)] [(.int i76), (.int (own_F5 j75 j32 j33))])) (fun t k => ?_) ?_
      · show Steps p.tables e below (T78.setTop (mkF m 259 #[.val (.long q0_0), .second, .val (.long q0_1), .second, .val (.long q0_2), .second, .val (.int p0_3), .val (.long j32), .second, .val (.long j33), .second, .val (.ref b35), .val (.int (p0_3 &&& (7 : Int32))), .val (.long j75), .second, .val (.int i76)] [(.int (own_F5 j75 j32 j33))])) t
        refine XS.iload X78.here hx rfl (hb hby at_259) rfl ?_
        show Steps p.tables e below (T78.setTop (mkF m 261 #[.val (.long q0_0), .second, .val (.long q0_1), .second, .val (.long q0_2), .second, .val (.int p0_3), .val (.long j32), .second, .val (.long j33), .second, .val (.ref b35), .val (.int (p0_3 &&& (7 : Int32))), .val (.long j75), .second, .val (.int i76)] [(.int i76), (.int (own_F5 j75 j32 j33))])) t
        exact k
      by_cases hc80 : (own_F5 j75 j32 j33) = i76
      · skip
        refine own_by (T' := T78) (g' := (mkF m 269 #[.val (.long q0_0), .second, .val (.long q0_1), .second, .val (.long q0_2), .second, .val (.int p0_3), .val (.long j32), .second, .val (.long j33), .second, .val (.ref b35), .val (.int (p0_3 &&& (7 : Int32))), .val (.long j75), .second, .val (.int i76)] [(.int (1 : Int32))])) (fun t k => ?_) ?_
        · show Steps p.tables e below (T78.setTop (mkF m 261 #[.val (.long q0_0), .second, .val (.long q0_1), .second, .val (.long q0_2), .second, .val (.int p0_3), .val (.long j32), .second, .val (.long j33), .second, .val (.ref b35), .val (.int (p0_3 &&& (7 : Int32))), .val (.long j75), .second, .val (.int i76)] [(.int i76), (.int (own_F5 j75 j32 j33))])) t
          refine XS.icmpNo X78.here hx rfl (hb hby at_261) rfl (teq hc80).2 ?_
          show Steps p.tables e below (T78.setTop (mkF m 264 #[.val (.long q0_0), .second, .val (.long q0_1), .second, .val (.long q0_2), .second, .val (.int p0_3), .val (.long j32), .second, .val (.long j33), .second, .val (.ref b35), .val (.int (p0_3 &&& (7 : Int32))), .val (.long j75), .second, .val (.int i76)] [])) t
          refine XS.iconst X78.here hx rfl (hb hby at_264) ?_
          show Steps p.tables e below (T78.setTop (mkF m 265 #[.val (.long q0_0), .second, .val (.long q0_1), .second, .val (.long q0_2), .second, .val (.int p0_3), .val (.long j32), .second, .val (.long j33), .second, .val (.ref b35), .val (.int (p0_3 &&& (7 : Int32))), .val (.long j75), .second, .val (.int i76)] [(.int (1 : Int32))])) t
          refine XS.goto X78.here hx rfl (pc0 := 265) (pc' := 269) rfl (hb hby at_265) (by decide) (by decide) ?_
          show Steps p.tables e below (T78.setTop (mkF m 269 #[.val (.long q0_0), .second, .val (.long q0_1), .second, .val (.long q0_2), .second, .val (.int p0_3), .val (.long j32), .second, .val (.long j33), .second, .val (.ref b35), .val (.int (p0_3 &&& (7 : Int32))), .val (.long j75), .second, .val (.int i76)] [(.int (1 : Int32))])) t
          exact k
        rw [show own_F0_252_5 q0_0 q0_1 q0_2 p0_3 j32 j33 j75 i76 = (1 : Int32) from ((if_pos hc80).trans rfl)]
        exact own_retN X78 hx (t := .boolean) Bd.returns (by simp) (hb hby at_269) hlk (by decide) (by decide) ⟨rfl, N79⟩
      · skip
        refine own_by (T' := T78) (g' := (mkF m 269 #[.val (.long q0_0), .second, .val (.long q0_1), .second, .val (.long q0_2), .second, .val (.int p0_3), .val (.long j32), .second, .val (.long j33), .second, .val (.ref b35), .val (.int (p0_3 &&& (7 : Int32))), .val (.long j75), .second, .val (.int i76)] [(.int (0 : Int32))])) (fun t k => ?_) ?_
        · show Steps p.tables e below (T78.setTop (mkF m 261 #[.val (.long q0_0), .second, .val (.long q0_1), .second, .val (.long q0_2), .second, .val (.int p0_3), .val (.long j32), .second, .val (.long j33), .second, .val (.ref b35), .val (.int (p0_3 &&& (7 : Int32))), .val (.long j75), .second, .val (.int i76)] [(.int i76), (.int (own_F5 j75 j32 j33))])) t
          refine XS.icmpYes X78.here hx rfl (pc0 := 261) (pc' := 268) rfl (hb hby at_261) rfl (feq hc80).2 (by decide) (by decide) ?_
          show Steps p.tables e below (T78.setTop (mkF m 268 #[.val (.long q0_0), .second, .val (.long q0_1), .second, .val (.long q0_2), .second, .val (.int p0_3), .val (.long j32), .second, .val (.long j33), .second, .val (.ref b35), .val (.int (p0_3 &&& (7 : Int32))), .val (.long j75), .second, .val (.int i76)] [])) t
          refine XS.iconst X78.here hx rfl (hb hby at_268) ?_
          show Steps p.tables e below (T78.setTop (mkF m 269 #[.val (.long q0_0), .second, .val (.long q0_1), .second, .val (.long q0_2), .second, .val (.int p0_3), .val (.long j32), .second, .val (.long j33), .second, .val (.ref b35), .val (.int (p0_3 &&& (7 : Int32))), .val (.long j75), .second, .val (.int i76)] [(.int (0 : Int32))])) t
          exact k
        rw [show own_F0_252_5 q0_0 q0_1 q0_2 p0_3 j32 j33 j75 i76 = (0 : Int32) from ((if_neg hc80).trans rfl)]
        exact own_retN X78 hx (t := .boolean) Bd.returns (by simp) (hb hby at_269) hlk (by decide) (by decide) ⟨rfl, N79⟩
    by_cases hc48 : (p0_3 &&& (7 : Int32)) = (1 : Int32)
    · skip
      refine own_by (T' := T40) (g' := (mkF m 252 #[.val (.long q0_0), .second, .val (.long q0_1), .second, .val (.long q0_2), .second, .val (.int p0_3), .val (.long j32), .second, .val (.long j33), .second, .val (.ref b35), .val (.int (p0_3 &&& (7 : Int32))), .val (.long j32), .second, .val (.int (0 : Int32))] [])) (fun t k => ?_) ?_
      · show Steps p.tables e below (T40.setTop (mkF m 69 #[.val (.long q0_0), .second, .val (.long q0_1), .second, .val (.long q0_2), .second, .val (.int p0_3), .val (.long j32), .second, .val (.long j33), .second, .val (.ref b35), .val (.int (p0_3 &&& (7 : Int32))), .unset, .unset, .unset] [(.int (1 : Int32)), (.int (p0_3 &&& (7 : Int32)))])) t
        refine XS.icmpNo X40.here hx rfl (hb hby at_69) rfl (teq hc48).2 ?_
        show Steps p.tables e below (T40.setTop (mkF m 72 #[.val (.long q0_0), .second, .val (.long q0_1), .second, .val (.long q0_2), .second, .val (.int p0_3), .val (.long j32), .second, .val (.long j33), .second, .val (.ref b35), .val (.int (p0_3 &&& (7 : Int32))), .unset, .unset, .unset] [])) t
        refine XS.lload X40.here hx rfl (hb hby at_72) rfl ?_
        show Steps p.tables e below (T40.setTop (mkF m 74 #[.val (.long q0_0), .second, .val (.long q0_1), .second, .val (.long q0_2), .second, .val (.int p0_3), .val (.long j32), .second, .val (.long j33), .second, .val (.ref b35), .val (.int (p0_3 &&& (7 : Int32))), .unset, .unset, .unset] [(.long j32)])) t
        refine XS.lstore X40.here hx rfl (hb hby at_74) rfl (l' := #[.val (.long q0_0), .second, .val (.long q0_1), .second, .val (.long q0_2), .second, .val (.int p0_3), .val (.long j32), .second, .val (.long j33), .second, .val (.ref b35), .val (.int (p0_3 &&& (7 : Int32))), .val (.long j32), .second, .unset]) rfl ?_
        show Steps p.tables e below (T40.setTop (mkF m 76 #[.val (.long q0_0), .second, .val (.long q0_1), .second, .val (.long q0_2), .second, .val (.int p0_3), .val (.long j32), .second, .val (.long j33), .second, .val (.ref b35), .val (.int (p0_3 &&& (7 : Int32))), .val (.long j32), .second, .unset] [])) t
        refine XS.iconst X40.here hx rfl (hb hby at_76) ?_
        show Steps p.tables e below (T40.setTop (mkF m 77 #[.val (.long q0_0), .second, .val (.long q0_1), .second, .val (.long q0_2), .second, .val (.int p0_3), .val (.long j32), .second, .val (.long j33), .second, .val (.ref b35), .val (.int (p0_3 &&& (7 : Int32))), .val (.long j32), .second, .unset] [(.int (0 : Int32))])) t
        refine XS.istore X40.here hx rfl (hb hby at_77) rfl (l' := #[.val (.long q0_0), .second, .val (.long q0_1), .second, .val (.long q0_2), .second, .val (.int p0_3), .val (.long j32), .second, .val (.long j33), .second, .val (.ref b35), .val (.int (p0_3 &&& (7 : Int32))), .val (.long j32), .second, .val (.int (0 : Int32))]) rfl ?_
        show Steps p.tables e below (T40.setTop (mkF m 79 #[.val (.long q0_0), .second, .val (.long q0_1), .second, .val (.long q0_2), .second, .val (.int p0_3), .val (.long j32), .second, .val (.long j33), .second, .val (.ref b35), .val (.int (p0_3 &&& (7 : Int32))), .val (.long j32), .second, .val (.int (0 : Int32))] [])) t
        refine XS.goto X40.here hx rfl (pc0 := 79) (pc' := 252) rfl (hb hby at_79) (by decide) (by decide) ?_
        show Steps p.tables e below (T40.setTop (mkF m 252 #[.val (.long q0_0), .second, .val (.long q0_1), .second, .val (.long q0_2), .second, .val (.int p0_3), .val (.long j32), .second, .val (.long j33), .second, .val (.ref b35), .val (.int (p0_3 &&& (7 : Int32))), .val (.long j32), .second, .val (.int (0 : Int32))] [])) t
        exact k
      rw [show own_F0_46_1 q0_0 q0_1 q0_2 p0_3 j32 j33 = (own_F0_252_5 q0_0 q0_1 q0_2 p0_3 j32 j33 j32 (0 : Int32)) from ((if_pos hc48).trans rfl)]
      exact J0_5 _ _ j32 (0 : Int32) X40 rfl N47
    · skip
      refine own_by (T' := T40) (g' := (mkF m 85 #[.val (.long q0_0), .second, .val (.long q0_1), .second, .val (.long q0_2), .second, .val (.int p0_3), .val (.long j32), .second, .val (.long j33), .second, .val (.ref b35), .val (.int (p0_3 &&& (7 : Int32))), .unset, .unset, .unset] [(.int (2 : Int32)), (.int (p0_3 &&& (7 : Int32)))])) (fun t k => ?_) ?_
      · show Steps p.tables e below (T40.setTop (mkF m 69 #[.val (.long q0_0), .second, .val (.long q0_1), .second, .val (.long q0_2), .second, .val (.int p0_3), .val (.long j32), .second, .val (.long j33), .second, .val (.ref b35), .val (.int (p0_3 &&& (7 : Int32))), .unset, .unset, .unset] [(.int (1 : Int32)), (.int (p0_3 &&& (7 : Int32)))])) t
        refine XS.icmpYes X40.here hx rfl (pc0 := 69) (pc' := 82) rfl (hb hby at_69) rfl (feq hc48).2 (by decide) (by decide) ?_
        show Steps p.tables e below (T40.setTop (mkF m 82 #[.val (.long q0_0), .second, .val (.long q0_1), .second, .val (.long q0_2), .second, .val (.int p0_3), .val (.long j32), .second, .val (.long j33), .second, .val (.ref b35), .val (.int (p0_3 &&& (7 : Int32))), .unset, .unset, .unset] [])) t
        refine XS.iload X40.here hx rfl (hb hby at_82) rfl ?_
        show Steps p.tables e below (T40.setTop (mkF m 84 #[.val (.long q0_0), .second, .val (.long q0_1), .second, .val (.long q0_2), .second, .val (.int p0_3), .val (.long j32), .second, .val (.long j33), .second, .val (.ref b35), .val (.int (p0_3 &&& (7 : Int32))), .unset, .unset, .unset] [(.int (p0_3 &&& (7 : Int32)))])) t
        refine XS.iconst X40.here hx rfl (hb hby at_84) ?_
        show Steps p.tables e below (T40.setTop (mkF m 85 #[.val (.long q0_0), .second, .val (.long q0_1), .second, .val (.long q0_2), .second, .val (.int p0_3), .val (.long j32), .second, .val (.long j33), .second, .val (.ref b35), .val (.int (p0_3 &&& (7 : Int32))), .unset, .unset, .unset] [(.int (2 : Int32)), (.int (p0_3 &&& (7 : Int32)))])) t
        exact k
      by_cases hc81 : (p0_3 &&& (7 : Int32)) = (2 : Int32)
      · skip
        refine own_by (T' := T40) (g' := (mkF m 252 #[.val (.long q0_0), .second, .val (.long q0_1), .second, .val (.long q0_2), .second, .val (.int p0_3), .val (.long j32), .second, .val (.long j33), .second, .val (.ref b35), .val (.int (p0_3 &&& (7 : Int32))), .val (.long j33), .second, .val (.int (1 : Int32))] [])) (fun t k => ?_) ?_
        · show Steps p.tables e below (T40.setTop (mkF m 85 #[.val (.long q0_0), .second, .val (.long q0_1), .second, .val (.long q0_2), .second, .val (.int p0_3), .val (.long j32), .second, .val (.long j33), .second, .val (.ref b35), .val (.int (p0_3 &&& (7 : Int32))), .unset, .unset, .unset] [(.int (2 : Int32)), (.int (p0_3 &&& (7 : Int32)))])) t
          refine XS.icmpNo X40.here hx rfl (hb hby at_85) rfl (teq hc81).2 ?_
          show Steps p.tables e below (T40.setTop (mkF m 88 #[.val (.long q0_0), .second, .val (.long q0_1), .second, .val (.long q0_2), .second, .val (.int p0_3), .val (.long j32), .second, .val (.long j33), .second, .val (.ref b35), .val (.int (p0_3 &&& (7 : Int32))), .unset, .unset, .unset] [])) t
          refine XS.lload X40.here hx rfl (hb hby at_88) rfl ?_
          show Steps p.tables e below (T40.setTop (mkF m 90 #[.val (.long q0_0), .second, .val (.long q0_1), .second, .val (.long q0_2), .second, .val (.int p0_3), .val (.long j32), .second, .val (.long j33), .second, .val (.ref b35), .val (.int (p0_3 &&& (7 : Int32))), .unset, .unset, .unset] [(.long j33)])) t
          refine XS.lstore X40.here hx rfl (hb hby at_90) rfl (l' := #[.val (.long q0_0), .second, .val (.long q0_1), .second, .val (.long q0_2), .second, .val (.int p0_3), .val (.long j32), .second, .val (.long j33), .second, .val (.ref b35), .val (.int (p0_3 &&& (7 : Int32))), .val (.long j33), .second, .unset]) rfl ?_
          show Steps p.tables e below (T40.setTop (mkF m 92 #[.val (.long q0_0), .second, .val (.long q0_1), .second, .val (.long q0_2), .second, .val (.int p0_3), .val (.long j32), .second, .val (.long j33), .second, .val (.ref b35), .val (.int (p0_3 &&& (7 : Int32))), .val (.long j33), .second, .unset] [])) t
          refine XS.iconst X40.here hx rfl (hb hby at_92) ?_
          show Steps p.tables e below (T40.setTop (mkF m 93 #[.val (.long q0_0), .second, .val (.long q0_1), .second, .val (.long q0_2), .second, .val (.int p0_3), .val (.long j32), .second, .val (.long j33), .second, .val (.ref b35), .val (.int (p0_3 &&& (7 : Int32))), .val (.long j33), .second, .unset] [(.int (1 : Int32))])) t
          refine XS.istore X40.here hx rfl (hb hby at_93) rfl (l' := #[.val (.long q0_0), .second, .val (.long q0_1), .second, .val (.long q0_2), .second, .val (.int p0_3), .val (.long j32), .second, .val (.long j33), .second, .val (.ref b35), .val (.int (p0_3 &&& (7 : Int32))), .val (.long j33), .second, .val (.int (1 : Int32))]) rfl ?_
          show Steps p.tables e below (T40.setTop (mkF m 95 #[.val (.long q0_0), .second, .val (.long q0_1), .second, .val (.long q0_2), .second, .val (.int p0_3), .val (.long j32), .second, .val (.long j33), .second, .val (.ref b35), .val (.int (p0_3 &&& (7 : Int32))), .val (.long j33), .second, .val (.int (1 : Int32))] [])) t
          refine XS.goto X40.here hx rfl (pc0 := 95) (pc' := 252) rfl (hb hby at_95) (by decide) (by decide) ?_
          show Steps p.tables e below (T40.setTop (mkF m 252 #[.val (.long q0_0), .second, .val (.long q0_1), .second, .val (.long q0_2), .second, .val (.int p0_3), .val (.long j32), .second, .val (.long j33), .second, .val (.ref b35), .val (.int (p0_3 &&& (7 : Int32))), .val (.long j33), .second, .val (.int (1 : Int32))] [])) t
          exact k
        rw [show own_F0_46_1 q0_0 q0_1 q0_2 p0_3 j32 j33 = (own_F0_252_5 q0_0 q0_1 q0_2 p0_3 j32 j33 j33 (1 : Int32)) from ((if_neg hc48).trans ((if_pos hc81).trans rfl))]
        exact J0_5 _ _ j33 (1 : Int32) X40 rfl N47
      · skip
        refine own_by (T' := T40) (g' := (mkF m 101 #[.val (.long q0_0), .second, .val (.long q0_1), .second, .val (.long q0_2), .second, .val (.int p0_3), .val (.long j32), .second, .val (.long j33), .second, .val (.ref b35), .val (.int (p0_3 &&& (7 : Int32))), .unset, .unset, .unset] [(.int (3 : Int32)), (.int (p0_3 &&& (7 : Int32)))])) (fun t k => ?_) ?_
        · show Steps p.tables e below (T40.setTop (mkF m 85 #[.val (.long q0_0), .second, .val (.long q0_1), .second, .val (.long q0_2), .second, .val (.int p0_3), .val (.long j32), .second, .val (.long j33), .second, .val (.ref b35), .val (.int (p0_3 &&& (7 : Int32))), .unset, .unset, .unset] [(.int (2 : Int32)), (.int (p0_3 &&& (7 : Int32)))])) t
          refine XS.icmpYes X40.here hx rfl (pc0 := 85) (pc' := 98) rfl (hb hby at_85) rfl (feq hc81).2 (by decide) (by decide) ?_
          show Steps p.tables e below (T40.setTop (mkF m 98 #[.val (.long q0_0), .second, .val (.long q0_1), .second, .val (.long q0_2), .second, .val (.int p0_3), .val (.long j32), .second, .val (.long j33), .second, .val (.ref b35), .val (.int (p0_3 &&& (7 : Int32))), .unset, .unset, .unset] [])) t
          refine XS.iload X40.here hx rfl (hb hby at_98) rfl ?_
          show Steps p.tables e below (T40.setTop (mkF m 100 #[.val (.long q0_0), .second, .val (.long q0_1), .second, .val (.long q0_2), .second, .val (.int p0_3), .val (.long j32), .second, .val (.long j33), .second, .val (.ref b35), .val (.int (p0_3 &&& (7 : Int32))), .unset, .unset, .unset] [(.int (p0_3 &&& (7 : Int32)))])) t
          refine XS.iconst X40.here hx rfl (hb hby at_100) ?_
          show Steps p.tables e below (T40.setTop (mkF m 101 #[.val (.long q0_0), .second, .val (.long q0_1), .second, .val (.long q0_2), .second, .val (.int p0_3), .val (.long j32), .second, .val (.long j33), .second, .val (.ref b35), .val (.int (p0_3 &&& (7 : Int32))), .unset, .unset, .unset] [(.int (3 : Int32)), (.int (p0_3 &&& (7 : Int32)))])) t
          exact k
        by_cases hc82 : (p0_3 &&& (7 : Int32)) = (3 : Int32)
        · skip
          refine own_by (T' := T40) (g' := (mkF m 252 #[.val (.long q0_0), .second, .val (.long q0_1), .second, .val (.long q0_2), .second, .val (.int p0_3), .val (.long j32), .second, .val (.long j33), .second, .val (.ref b35), .val (.int (p0_3 &&& (7 : Int32))), .val (.long (j32 + (1 : Int64))), .second, .val (.int (1 : Int32))] [])) (fun t k => ?_) ?_
          · show Steps p.tables e below (T40.setTop (mkF m 101 #[.val (.long q0_0), .second, .val (.long q0_1), .second, .val (.long q0_2), .second, .val (.int p0_3), .val (.long j32), .second, .val (.long j33), .second, .val (.ref b35), .val (.int (p0_3 &&& (7 : Int32))), .unset, .unset, .unset] [(.int (3 : Int32)), (.int (p0_3 &&& (7 : Int32)))])) t
            refine XS.icmpNo X40.here hx rfl (hb hby at_101) rfl (teq hc82).2 ?_
            show Steps p.tables e below (T40.setTop (mkF m 104 #[.val (.long q0_0), .second, .val (.long q0_1), .second, .val (.long q0_2), .second, .val (.int p0_3), .val (.long j32), .second, .val (.long j33), .second, .val (.ref b35), .val (.int (p0_3 &&& (7 : Int32))), .unset, .unset, .unset] [])) t
            refine XS.lload X40.here hx rfl (hb hby at_104) rfl ?_
            show Steps p.tables e below (T40.setTop (mkF m 106 #[.val (.long q0_0), .second, .val (.long q0_1), .second, .val (.long q0_2), .second, .val (.int p0_3), .val (.long j32), .second, .val (.long j33), .second, .val (.ref b35), .val (.int (p0_3 &&& (7 : Int32))), .unset, .unset, .unset] [(.long j32)])) t
            refine XS.lconst X40.here hx rfl (hb hby at_106) ?_
            show Steps p.tables e below (T40.setTop (mkF m 107 #[.val (.long q0_0), .second, .val (.long q0_1), .second, .val (.long q0_2), .second, .val (.int p0_3), .val (.long j32), .second, .val (.long j33), .second, .val (.ref b35), .val (.int (p0_3 &&& (7 : Int32))), .unset, .unset, .unset] [(.long (1 : Int64)), (.long j32)])) t
            refine XS.ladd X40.here hx rfl (hb hby at_107) rfl ?_
            show Steps p.tables e below (T40.setTop (mkF m 108 #[.val (.long q0_0), .second, .val (.long q0_1), .second, .val (.long q0_2), .second, .val (.int p0_3), .val (.long j32), .second, .val (.long j33), .second, .val (.ref b35), .val (.int (p0_3 &&& (7 : Int32))), .unset, .unset, .unset] [(.long (j32 + (1 : Int64)))])) t
            refine XS.lstore X40.here hx rfl (hb hby at_108) rfl (l' := #[.val (.long q0_0), .second, .val (.long q0_1), .second, .val (.long q0_2), .second, .val (.int p0_3), .val (.long j32), .second, .val (.long j33), .second, .val (.ref b35), .val (.int (p0_3 &&& (7 : Int32))), .val (.long (j32 + (1 : Int64))), .second, .unset]) rfl ?_
            show Steps p.tables e below (T40.setTop (mkF m 110 #[.val (.long q0_0), .second, .val (.long q0_1), .second, .val (.long q0_2), .second, .val (.int p0_3), .val (.long j32), .second, .val (.long j33), .second, .val (.ref b35), .val (.int (p0_3 &&& (7 : Int32))), .val (.long (j32 + (1 : Int64))), .second, .unset] [])) t
            refine XS.iconst X40.here hx rfl (hb hby at_110) ?_
            show Steps p.tables e below (T40.setTop (mkF m 111 #[.val (.long q0_0), .second, .val (.long q0_1), .second, .val (.long q0_2), .second, .val (.int p0_3), .val (.long j32), .second, .val (.long j33), .second, .val (.ref b35), .val (.int (p0_3 &&& (7 : Int32))), .val (.long (j32 + (1 : Int64))), .second, .unset] [(.int (1 : Int32))])) t
            refine XS.istore X40.here hx rfl (hb hby at_111) rfl (l' := #[.val (.long q0_0), .second, .val (.long q0_1), .second, .val (.long q0_2), .second, .val (.int p0_3), .val (.long j32), .second, .val (.long j33), .second, .val (.ref b35), .val (.int (p0_3 &&& (7 : Int32))), .val (.long (j32 + (1 : Int64))), .second, .val (.int (1 : Int32))]) rfl ?_
            show Steps p.tables e below (T40.setTop (mkF m 113 #[.val (.long q0_0), .second, .val (.long q0_1), .second, .val (.long q0_2), .second, .val (.int p0_3), .val (.long j32), .second, .val (.long j33), .second, .val (.ref b35), .val (.int (p0_3 &&& (7 : Int32))), .val (.long (j32 + (1 : Int64))), .second, .val (.int (1 : Int32))] [])) t
            refine XS.goto X40.here hx rfl (pc0 := 113) (pc' := 252) rfl (hb hby at_113) (by decide) (by decide) ?_
            show Steps p.tables e below (T40.setTop (mkF m 252 #[.val (.long q0_0), .second, .val (.long q0_1), .second, .val (.long q0_2), .second, .val (.int p0_3), .val (.long j32), .second, .val (.long j33), .second, .val (.ref b35), .val (.int (p0_3 &&& (7 : Int32))), .val (.long (j32 + (1 : Int64))), .second, .val (.int (1 : Int32))] [])) t
            exact k
          rw [show own_F0_46_1 q0_0 q0_1 q0_2 p0_3 j32 j33 = (own_F0_252_5 q0_0 q0_1 q0_2 p0_3 j32 j33 (j32 + (1 : Int64)) (1 : Int32)) from ((if_neg hc48).trans ((if_neg hc81).trans ((if_pos hc82).trans rfl)))]
          exact J0_5 _ _ (j32 + (1 : Int64)) (1 : Int32) X40 rfl N47
        · skip
          refine own_by (T' := T40) (g' := (mkF m 119 #[.val (.long q0_0), .second, .val (.long q0_1), .second, .val (.long q0_2), .second, .val (.int p0_3), .val (.long j32), .second, .val (.long j33), .second, .val (.ref b35), .val (.int (p0_3 &&& (7 : Int32))), .unset, .unset, .unset] [(.int (4 : Int32)), (.int (p0_3 &&& (7 : Int32)))])) (fun t k => ?_) ?_
          · show Steps p.tables e below (T40.setTop (mkF m 101 #[.val (.long q0_0), .second, .val (.long q0_1), .second, .val (.long q0_2), .second, .val (.int p0_3), .val (.long j32), .second, .val (.long j33), .second, .val (.ref b35), .val (.int (p0_3 &&& (7 : Int32))), .unset, .unset, .unset] [(.int (3 : Int32)), (.int (p0_3 &&& (7 : Int32)))])) t
            refine XS.icmpYes X40.here hx rfl (pc0 := 101) (pc' := 116) rfl (hb hby at_101) rfl (feq hc82).2 (by decide) (by decide) ?_
            show Steps p.tables e below (T40.setTop (mkF m 116 #[.val (.long q0_0), .second, .val (.long q0_1), .second, .val (.long q0_2), .second, .val (.int p0_3), .val (.long j32), .second, .val (.long j33), .second, .val (.ref b35), .val (.int (p0_3 &&& (7 : Int32))), .unset, .unset, .unset] [])) t
            refine XS.iload X40.here hx rfl (hb hby at_116) rfl ?_
            show Steps p.tables e below (T40.setTop (mkF m 118 #[.val (.long q0_0), .second, .val (.long q0_1), .second, .val (.long q0_2), .second, .val (.int p0_3), .val (.long j32), .second, .val (.long j33), .second, .val (.ref b35), .val (.int (p0_3 &&& (7 : Int32))), .unset, .unset, .unset] [(.int (p0_3 &&& (7 : Int32)))])) t
            refine XS.iconst X40.here hx rfl (hb hby at_118) ?_
            show Steps p.tables e below (T40.setTop (mkF m 119 #[.val (.long q0_0), .second, .val (.long q0_1), .second, .val (.long q0_2), .second, .val (.int p0_3), .val (.long j32), .second, .val (.long j33), .second, .val (.ref b35), .val (.int (p0_3 &&& (7 : Int32))), .unset, .unset, .unset] [(.int (4 : Int32)), (.int (p0_3 &&& (7 : Int32)))])) t
            exact k
          by_cases hc83 : (p0_3 &&& (7 : Int32)) = (4 : Int32)
          · skip
            refine own_by (T' := T40) (g' := (mkF m 252 #[.val (.long q0_0), .second, .val (.long q0_1), .second, .val (.long q0_2), .second, .val (.int p0_3), .val (.long j32), .second, .val (.long j33), .second, .val (.ref b35), .val (.int (p0_3 &&& (7 : Int32))), .val (.long (j33 + (1 : Int64))), .second, .val (.int (0 : Int32))] [])) (fun t k => ?_) ?_
            · show Steps p.tables e below (T40.setTop (mkF m 119 #[.val (.long q0_0), .second, .val (.long q0_1), .second, .val (.long q0_2), .second, .val (.int p0_3), .val (.long j32), .second, .val (.long j33), .second, .val (.ref b35), .val (.int (p0_3 &&& (7 : Int32))), .unset, .unset, .unset] [(.int (4 : Int32)), (.int (p0_3 &&& (7 : Int32)))])) t
              refine XS.icmpNo X40.here hx rfl (hb hby at_119) rfl (teq hc83).2 ?_
              show Steps p.tables e below (T40.setTop (mkF m 122 #[.val (.long q0_0), .second, .val (.long q0_1), .second, .val (.long q0_2), .second, .val (.int p0_3), .val (.long j32), .second, .val (.long j33), .second, .val (.ref b35), .val (.int (p0_3 &&& (7 : Int32))), .unset, .unset, .unset] [])) t
              refine XS.lload X40.here hx rfl (hb hby at_122) rfl ?_
              show Steps p.tables e below (T40.setTop (mkF m 124 #[.val (.long q0_0), .second, .val (.long q0_1), .second, .val (.long q0_2), .second, .val (.int p0_3), .val (.long j32), .second, .val (.long j33), .second, .val (.ref b35), .val (.int (p0_3 &&& (7 : Int32))), .unset, .unset, .unset] [(.long j33)])) t
              refine XS.lconst X40.here hx rfl (hb hby at_124) ?_
              show Steps p.tables e below (T40.setTop (mkF m 125 #[.val (.long q0_0), .second, .val (.long q0_1), .second, .val (.long q0_2), .second, .val (.int p0_3), .val (.long j32), .second, .val (.long j33), .second, .val (.ref b35), .val (.int (p0_3 &&& (7 : Int32))), .unset, .unset, .unset] [(.long (1 : Int64)), (.long j33)])) t
              refine XS.ladd X40.here hx rfl (hb hby at_125) rfl ?_
              show Steps p.tables e below (T40.setTop (mkF m 126 #[.val (.long q0_0), .second, .val (.long q0_1), .second, .val (.long q0_2), .second, .val (.int p0_3), .val (.long j32), .second, .val (.long j33), .second, .val (.ref b35), .val (.int (p0_3 &&& (7 : Int32))), .unset, .unset, .unset] [(.long (j33 + (1 : Int64)))])) t
              refine XS.lstore X40.here hx rfl (hb hby at_126) rfl (l' := #[.val (.long q0_0), .second, .val (.long q0_1), .second, .val (.long q0_2), .second, .val (.int p0_3), .val (.long j32), .second, .val (.long j33), .second, .val (.ref b35), .val (.int (p0_3 &&& (7 : Int32))), .val (.long (j33 + (1 : Int64))), .second, .unset]) rfl ?_
              show Steps p.tables e below (T40.setTop (mkF m 128 #[.val (.long q0_0), .second, .val (.long q0_1), .second, .val (.long q0_2), .second, .val (.int p0_3), .val (.long j32), .second, .val (.long j33), .second, .val (.ref b35), .val (.int (p0_3 &&& (7 : Int32))), .val (.long (j33 + (1 : Int64))), .second, .unset] [])) t
              refine XS.iconst X40.here hx rfl (hb hby at_128) ?_
              show Steps p.tables e below (T40.setTop (mkF m 129 #[.val (.long q0_0), .second, .val (.long q0_1), .second, .val (.long q0_2), .second, .val (.int p0_3), .val (.long j32), .second, .val (.long j33), .second, .val (.ref b35), .val (.int (p0_3 &&& (7 : Int32))), .val (.long (j33 + (1 : Int64))), .second, .unset] [(.int (0 : Int32))])) t
              refine XS.istore X40.here hx rfl (hb hby at_129) rfl (l' := #[.val (.long q0_0), .second, .val (.long q0_1), .second, .val (.long q0_2), .second, .val (.int p0_3), .val (.long j32), .second, .val (.long j33), .second, .val (.ref b35), .val (.int (p0_3 &&& (7 : Int32))), .val (.long (j33 + (1 : Int64))), .second, .val (.int (0 : Int32))]) rfl ?_
              show Steps p.tables e below (T40.setTop (mkF m 131 #[.val (.long q0_0), .second, .val (.long q0_1), .second, .val (.long q0_2), .second, .val (.int p0_3), .val (.long j32), .second, .val (.long j33), .second, .val (.ref b35), .val (.int (p0_3 &&& (7 : Int32))), .val (.long (j33 + (1 : Int64))), .second, .val (.int (0 : Int32))] [])) t
              refine XS.goto X40.here hx rfl (pc0 := 131) (pc' := 252) rfl (hb hby at_131) (by decide) (by decide) ?_
              show Steps p.tables e below (T40.setTop (mkF m 252 #[.val (.long q0_0), .second, .val (.long q0_1), .second, .val (.long q0_2), .second, .val (.int p0_3), .val (.long j32), .second, .val (.long j33), .second, .val (.ref b35), .val (.int (p0_3 &&& (7 : Int32))), .val (.long (j33 + (1 : Int64))), .second, .val (.int (0 : Int32))] [])) t
              exact k
            rw [show own_F0_46_1 q0_0 q0_1 q0_2 p0_3 j32 j33 = (own_F0_252_5 q0_0 q0_1 q0_2 p0_3 j32 j33 (j33 + (1 : Int64)) (0 : Int32)) from ((if_neg hc48).trans ((if_neg hc81).trans ((if_neg hc82).trans ((if_pos hc83).trans rfl))))]
            exact J0_5 _ _ (j33 + (1 : Int64)) (0 : Int32) X40 rfl N47
          · skip
            refine own_by (T' := T40) (g' := (mkF m 137 #[.val (.long q0_0), .second, .val (.long q0_1), .second, .val (.long q0_2), .second, .val (.int p0_3), .val (.long j32), .second, .val (.long j33), .second, .val (.ref b35), .val (.int (p0_3 &&& (7 : Int32))), .unset, .unset, .unset] [(.int (5 : Int32)), (.int (p0_3 &&& (7 : Int32)))])) (fun t k => ?_) ?_
            · show Steps p.tables e below (T40.setTop (mkF m 119 #[.val (.long q0_0), .second, .val (.long q0_1), .second, .val (.long q0_2), .second, .val (.int p0_3), .val (.long j32), .second, .val (.long j33), .second, .val (.ref b35), .val (.int (p0_3 &&& (7 : Int32))), .unset, .unset, .unset] [(.int (4 : Int32)), (.int (p0_3 &&& (7 : Int32)))])) t
              refine XS.icmpYes X40.here hx rfl (pc0 := 119) (pc' := 134) rfl (hb hby at_119) rfl (feq hc83).2 (by decide) (by decide) ?_
              show Steps p.tables e below (T40.setTop (mkF m 134 #[.val (.long q0_0), .second, .val (.long q0_1), .second, .val (.long q0_2), .second, .val (.int p0_3), .val (.long j32), .second, .val (.long j33), .second, .val (.ref b35), .val (.int (p0_3 &&& (7 : Int32))), .unset, .unset, .unset] [])) t
              refine XS.iload X40.here hx rfl (hb hby at_134) rfl ?_
              show Steps p.tables e below (T40.setTop (mkF m 136 #[.val (.long q0_0), .second, .val (.long q0_1), .second, .val (.long q0_2), .second, .val (.int p0_3), .val (.long j32), .second, .val (.long j33), .second, .val (.ref b35), .val (.int (p0_3 &&& (7 : Int32))), .unset, .unset, .unset] [(.int (p0_3 &&& (7 : Int32)))])) t
              refine XS.iconst X40.here hx rfl (hb hby at_136) ?_
              show Steps p.tables e below (T40.setTop (mkF m 137 #[.val (.long q0_0), .second, .val (.long q0_1), .second, .val (.long q0_2), .second, .val (.int p0_3), .val (.long j32), .second, .val (.long j33), .second, .val (.ref b35), .val (.int (p0_3 &&& (7 : Int32))), .unset, .unset, .unset] [(.int (5 : Int32)), (.int (p0_3 &&& (7 : Int32)))])) t
              exact k
            by_cases hc84 : (p0_3 &&& (7 : Int32)) = (5 : Int32)
            · skip
              refine own_by (T' := T40) (g' := (mkF m 152 #[.val (.long q0_0), .second, .val (.long q0_1), .second, .val (.long q0_2), .second, .val (.int p0_3), .val (.long j32), .second, .val (.long j33), .second, .val (.ref b35), .val (.int (p0_3 &&& (7 : Int32))), .val (.long (j32 - (1 : Int64))), .second, .unset] [(.int (lcmpW j32 (-9223372036854775808 : Int64)))])) (fun t k => ?_) ?_
              · show Steps p.tables e below (T40.setTop (mkF m 137 #[.val (.long q0_0), .second, .val (.long q0_1), .second, .val (.long q0_2), .second, .val (.int p0_3), .val (.long j32), .second, .val (.long j33), .second, .val (.ref b35), .val (.int (p0_3 &&& (7 : Int32))), .unset, .unset, .unset] [(.int (5 : Int32)), (.int (p0_3 &&& (7 : Int32)))])) t
                refine XS.icmpNo X40.here hx rfl (hb hby at_137) rfl (teq hc84).2 ?_
                show Steps p.tables e below (T40.setTop (mkF m 140 #[.val (.long q0_0), .second, .val (.long q0_1), .second, .val (.long q0_2), .second, .val (.int p0_3), .val (.long j32), .second, .val (.long j33), .second, .val (.ref b35), .val (.int (p0_3 &&& (7 : Int32))), .unset, .unset, .unset] [])) t
                refine XS.lload X40.here hx rfl (hb hby at_140) rfl ?_
                show Steps p.tables e below (T40.setTop (mkF m 142 #[.val (.long q0_0), .second, .val (.long q0_1), .second, .val (.long q0_2), .second, .val (.int p0_3), .val (.long j32), .second, .val (.long j33), .second, .val (.ref b35), .val (.int (p0_3 &&& (7 : Int32))), .unset, .unset, .unset] [(.long j32)])) t
                refine XS.lconst X40.here hx rfl (hb hby at_142) ?_
                show Steps p.tables e below (T40.setTop (mkF m 143 #[.val (.long q0_0), .second, .val (.long q0_1), .second, .val (.long q0_2), .second, .val (.int p0_3), .val (.long j32), .second, .val (.long j33), .second, .val (.ref b35), .val (.int (p0_3 &&& (7 : Int32))), .unset, .unset, .unset] [(.long (1 : Int64)), (.long j32)])) t
                refine XS.lsub X40.here hx rfl (hb hby at_143) rfl ?_
                show Steps p.tables e below (T40.setTop (mkF m 144 #[.val (.long q0_0), .second, .val (.long q0_1), .second, .val (.long q0_2), .second, .val (.int p0_3), .val (.long j32), .second, .val (.long j33), .second, .val (.ref b35), .val (.int (p0_3 &&& (7 : Int32))), .unset, .unset, .unset] [(.long (j32 - (1 : Int64)))])) t
                refine XS.lstore X40.here hx rfl (hb hby at_144) rfl (l' := #[.val (.long q0_0), .second, .val (.long q0_1), .second, .val (.long q0_2), .second, .val (.int p0_3), .val (.long j32), .second, .val (.long j33), .second, .val (.ref b35), .val (.int (p0_3 &&& (7 : Int32))), .val (.long (j32 - (1 : Int64))), .second, .unset]) rfl ?_
                show Steps p.tables e below (T40.setTop (mkF m 146 #[.val (.long q0_0), .second, .val (.long q0_1), .second, .val (.long q0_2), .second, .val (.int p0_3), .val (.long j32), .second, .val (.long j33), .second, .val (.ref b35), .val (.int (p0_3 &&& (7 : Int32))), .val (.long (j32 - (1 : Int64))), .second, .unset] [])) t
                refine XS.lload X40.here hx rfl (hb hby at_146) rfl ?_
                show Steps p.tables e below (T40.setTop (mkF m 148 #[.val (.long q0_0), .second, .val (.long q0_1), .second, .val (.long q0_2), .second, .val (.int p0_3), .val (.long j32), .second, .val (.long j33), .second, .val (.ref b35), .val (.int (p0_3 &&& (7 : Int32))), .val (.long (j32 - (1 : Int64))), .second, .unset] [(.long j32)])) t
                refine X40.ldc2Long hx hown (mvT hZ (hw _ (List.mem_of_getElem? (i := 25) rfl))) (g := (mkF m 148 #[.val (.long q0_0), .second, .val (.long q0_1), .second, .val (.long q0_2), .second, .val (.int p0_3), .val (.long j32), .second, .val (.long j33), .second, .val (.ref b35), .val (.int (p0_3 &&& (7 : Int32))), .val (.long (j32 - (1 : Int64))), .second, .unset] [(.long j32)])) rfl (hb hby at_148) _ ?_
                show Steps p.tables e below (T40.setTop (mkF m 151 #[.val (.long q0_0), .second, .val (.long q0_1), .second, .val (.long q0_2), .second, .val (.int p0_3), .val (.long j32), .second, .val (.long j33), .second, .val (.ref b35), .val (.int (p0_3 &&& (7 : Int32))), .val (.long (j32 - (1 : Int64))), .second, .unset] [(.long (-9223372036854775808 : Int64)), (.long j32)])) t
                refine XS.lcmp X40.here hx rfl (hb hby at_151) rfl ?_
                show Steps p.tables e below (T40.setTop (mkF m 152 #[.val (.long q0_0), .second, .val (.long q0_1), .second, .val (.long q0_2), .second, .val (.int p0_3), .val (.long j32), .second, .val (.long j33), .second, .val (.ref b35), .val (.int (p0_3 &&& (7 : Int32))), .val (.long (j32 - (1 : Int64))), .second, .unset] [(.int (lcmpW j32 (-9223372036854775808 : Int64)))])) t
                exact k
              have J0_6 : ∀ (T88 : State) (L88 : List Loc) (i87 : Int32), Stand p l e room_1 s m #[(.long q0_0), (.long q0_1), (.long q0_2), (.int p0_3)] below meth c T88 L88 1 2 → T88.heap = T40.heap → Fr n0 L88 → own_Go p e below (own_P s below room_1 (own_Q0 (own_F0_169_6 q0_0 q0_1 q0_2 p0_3 j32 j33 i87) h0 n0)) T88 (mkF m 169 #[.val (.long q0_0), .second, .val (.long q0_1), .second, .val (.long q0_2), .second, .val (.int p0_3), .val (.long j32), .second, .val (.long j33), .second, .val (.ref b35), .val (.int (p0_3 &&& (7 : Int32))), .val (.long (j32 - (1 : Int64))), .second, .unset] [(.int i87)]) := by
                intro T88 L88 i87 X88 e88 N88
                refine own_by (T' := T88) (g' := (mkF m 252 #[.val (.long q0_0), .second, .val (.long q0_1), .second, .val (.long q0_2), .second, .val (.int p0_3), .val (.long j32), .second, .val (.long j33), .second, .val (.ref b35), .val (.int (p0_3 &&& (7 : Int32))), .val (.long (j32 - (1 : Int64))), .second, .val (.int i87)] [])) (fun t k => ?_) ?_
                · show Steps p.tables e below (T88.setTop (mkF m 169 #[.val (.long q0_0), .second, .val (.long q0_1), .second, .val (.long q0_2), .second, .val (.int p0_3), .val (.long j32), .second, .val (.long j33), .second, .val (.ref b35), .val (.int (p0_3 &&& (7 : Int32))), .val (.long (j32 - (1 : Int64))), .second, .unset] [(.int i87)])) t
                  refine XS.istore X88.here hx rfl (hb hby at_169) rfl (l' := #[.val (.long q0_0), .second, .val (.long q0_1), .second, .val (.long q0_2), .second, .val (.int p0_3), .val (.long j32), .second, .val (.long j33), .second, .val (.ref b35), .val (.int (p0_3 &&& (7 : Int32))), .val (.long (j32 - (1 : Int64))), .second, .val (.int i87)]) rfl ?_
                  show Steps p.tables e below (T88.setTop (mkF m 171 #[.val (.long q0_0), .second, .val (.long q0_1), .second, .val (.long q0_2), .second, .val (.int p0_3), .val (.long j32), .second, .val (.long j33), .second, .val (.ref b35), .val (.int (p0_3 &&& (7 : Int32))), .val (.long (j32 - (1 : Int64))), .second, .val (.int i87)] [])) t
                  refine XS.goto X88.here hx rfl (pc0 := 171) (pc' := 252) rfl (hb hby at_171) (by decide) (by decide) ?_
                  show Steps p.tables e below (T88.setTop (mkF m 252 #[.val (.long q0_0), .second, .val (.long q0_1), .second, .val (.long q0_2), .second, .val (.int p0_3), .val (.long j32), .second, .val (.long j33), .second, .val (.ref b35), .val (.int (p0_3 &&& (7 : Int32))), .val (.long (j32 - (1 : Int64))), .second, .val (.int i87)] [])) t
                  exact k
                rw [show own_F0_169_6 q0_0 q0_1 q0_2 p0_3 j32 j33 i87 = (own_F0_252_5 q0_0 q0_1 q0_2 p0_3 j32 j33 (j32 - (1 : Int64)) i87) from rfl]
                exact J0_5 _ _ (j32 - (1 : Int64)) i87 X88 e88 N88
              by_cases hc85 : j32 = (-9223372036854775808 : Int64)
              · skip
                refine own_by (T' := T40) (g' := (mkF m 161 #[.val (.long q0_0), .second, .val (.long q0_1), .second, .val (.long q0_2), .second, .val (.int p0_3), .val (.long j32), .second, .val (.long j33), .second, .val (.ref b35), .val (.int (p0_3 &&& (7 : Int32))), .val (.long (j32 - (1 : Int64))), .second, .unset] [(.int (lcmpW j33 (9223372036854775807 : Int64)))])) (fun t k => ?_) ?_
                · show Steps p.tables e below (T40.setTop (mkF m 152 #[.val (.long q0_0), .second, .val (.long q0_1), .second, .val (.long q0_2), .second, .val (.int p0_3), .val (.long j32), .second, .val (.long j33), .second, .val (.ref b35), .val (.int (p0_3 &&& (7 : Int32))), .val (.long (j32 - (1 : Int64))), .second, .unset] [(.int (lcmpW j32 (-9223372036854775808 : Int64)))])) t
                  refine XS.ifNo X40.here hx rfl (hb hby at_152) rfl ((if0 _ _).trans (teq ((lw_eq _ _).mpr hc85)).2) ?_
                  show Steps p.tables e below (T40.setTop (mkF m 155 #[.val (.long q0_0), .second, .val (.long q0_1), .second, .val (.long q0_2), .second, .val (.int p0_3), .val (.long j32), .second, .val (.long j33), .second, .val (.ref b35), .val (.int (p0_3 &&& (7 : Int32))), .val (.long (j32 - (1 : Int64))), .second, .unset] [])) t
                  refine XS.lload X40.here hx rfl (hb hby at_155) rfl ?_
                  show Steps p.tables e below (T40.setTop (mkF m 157 #[.val (.long q0_0), .second, .val (.long q0_1), .second, .val (.long q0_2), .second, .val (.int p0_3), .val (.long j32), .second, .val (.long j33), .second, .val (.ref b35), .val (.int (p0_3 &&& (7 : Int32))), .val (.long (j32 - (1 : Int64))), .second, .unset] [(.long j33)])) t
                  refine X40.ldc2Long hx hown (mvT hZ (hw _ (List.mem_of_getElem? (i := 26) rfl))) (g := (mkF m 157 #[.val (.long q0_0), .second, .val (.long q0_1), .second, .val (.long q0_2), .second, .val (.int p0_3), .val (.long j32), .second, .val (.long j33), .second, .val (.ref b35), .val (.int (p0_3 &&& (7 : Int32))), .val (.long (j32 - (1 : Int64))), .second, .unset] [(.long j33)])) rfl (hb hby at_157) _ ?_
                  show Steps p.tables e below (T40.setTop (mkF m 160 #[.val (.long q0_0), .second, .val (.long q0_1), .second, .val (.long q0_2), .second, .val (.int p0_3), .val (.long j32), .second, .val (.long j33), .second, .val (.ref b35), .val (.int (p0_3 &&& (7 : Int32))), .val (.long (j32 - (1 : Int64))), .second, .unset] [(.long (9223372036854775807 : Int64)), (.long j33)])) t
                  refine XS.lcmp X40.here hx rfl (hb hby at_160) rfl ?_
                  show Steps p.tables e below (T40.setTop (mkF m 161 #[.val (.long q0_0), .second, .val (.long q0_1), .second, .val (.long q0_2), .second, .val (.int p0_3), .val (.long j32), .second, .val (.long j33), .second, .val (.ref b35), .val (.int (p0_3 &&& (7 : Int32))), .val (.long (j32 - (1 : Int64))), .second, .unset] [(.int (lcmpW j33 (9223372036854775807 : Int64)))])) t
                  exact k
                by_cases hc89 : j33 = (9223372036854775807 : Int64)
                · skip
                  refine own_by (T' := T40) (g' := (mkF m 169 #[.val (.long q0_0), .second, .val (.long q0_1), .second, .val (.long q0_2), .second, .val (.int p0_3), .val (.long j32), .second, .val (.long j33), .second, .val (.ref b35), .val (.int (p0_3 &&& (7 : Int32))), .val (.long (j32 - (1 : Int64))), .second, .unset] [(.int (1 : Int32))])) (fun t k => ?_) ?_
                  · show Steps p.tables e below (T40.setTop (mkF m 161 #[.val (.long q0_0), .second, .val (.long q0_1), .second, .val (.long q0_2), .second, .val (.int p0_3), .val (.long j32), .second, .val (.long j33), .second, .val (.ref b35), .val (.int (p0_3 &&& (7 : Int32))), .val (.long (j32 - (1 : Int64))), .second, .unset] [(.int (lcmpW j33 (9223372036854775807 : Int64)))])) t
                    refine XS.ifNo X40.here hx rfl (hb hby at_161) rfl ((if0 _ _).trans (teq ((lw_eq _ _).mpr hc89)).2) ?_
                    show Steps p.tables e below (T40.setTop (mkF m 164 #[.val (.long q0_0), .second, .val (.long q0_1), .second, .val (.long q0_2), .second, .val (.int p0_3), .val (.long j32), .second, .val (.long j33), .second, .val (.ref b35), .val (.int (p0_3 &&& (7 : Int32))), .val (.long (j32 - (1 : Int64))), .second, .unset] [])) t
                    refine XS.iconst X40.here hx rfl (hb hby at_164) ?_
                    show Steps p.tables e below (T40.setTop (mkF m 165 #[.val (.long q0_0), .second, .val (.long q0_1), .second, .val (.long q0_2), .second, .val (.int p0_3), .val (.long j32), .second, .val (.long j33), .second, .val (.ref b35), .val (.int (p0_3 &&& (7 : Int32))), .val (.long (j32 - (1 : Int64))), .second, .unset] [(.int (1 : Int32))])) t
                    refine XS.goto X40.here hx rfl (pc0 := 165) (pc' := 169) rfl (hb hby at_165) (by decide) (by decide) ?_
                    show Steps p.tables e below (T40.setTop (mkF m 169 #[.val (.long q0_0), .second, .val (.long q0_1), .second, .val (.long q0_2), .second, .val (.int p0_3), .val (.long j32), .second, .val (.long j33), .second, .val (.ref b35), .val (.int (p0_3 &&& (7 : Int32))), .val (.long (j32 - (1 : Int64))), .second, .unset] [(.int (1 : Int32))])) t
                    exact k
                  rw [show own_F0_46_1 q0_0 q0_1 q0_2 p0_3 j32 j33 = (own_F0_169_6 q0_0 q0_1 q0_2 p0_3 j32 j33 (1 : Int32)) from ((if_neg hc48).trans ((if_neg hc81).trans ((if_neg hc82).trans ((if_neg hc83).trans ((if_pos hc84).trans ((if_pos hc85).trans ((if_pos hc89).trans rfl)))))))]
                  exact J0_6 _ _ (1 : Int32) X40 rfl N47
                · skip
                  refine own_by (T' := T40) (g' := (mkF m 169 #[.val (.long q0_0), .second, .val (.long q0_1), .second, .val (.long q0_2), .second, .val (.int p0_3), .val (.long j32), .second, .val (.long j33), .second, .val (.ref b35), .val (.int (p0_3 &&& (7 : Int32))), .val (.long (j32 - (1 : Int64))), .second, .unset] [(.int (0 : Int32))])) (fun t k => ?_) ?_
                  · show Steps p.tables e below (T40.setTop (mkF m 161 #[.val (.long q0_0), .second, .val (.long q0_1), .second, .val (.long q0_2), .second, .val (.int p0_3), .val (.long j32), .second, .val (.long j33), .second, .val (.ref b35), .val (.int (p0_3 &&& (7 : Int32))), .val (.long (j32 - (1 : Int64))), .second, .unset] [(.int (lcmpW j33 (9223372036854775807 : Int64)))])) t
                    refine XS.ifYes X40.here hx rfl (pc0 := 161) (pc' := 168) rfl (hb hby at_161) rfl ((if0 _ _).trans (feq (fun q => hc89 ((lw_eq _ _).mp q))).2) (by decide) (by decide) ?_
                    show Steps p.tables e below (T40.setTop (mkF m 168 #[.val (.long q0_0), .second, .val (.long q0_1), .second, .val (.long q0_2), .second, .val (.int p0_3), .val (.long j32), .second, .val (.long j33), .second, .val (.ref b35), .val (.int (p0_3 &&& (7 : Int32))), .val (.long (j32 - (1 : Int64))), .second, .unset] [])) t
                    refine XS.iconst X40.here hx rfl (hb hby at_168) ?_
                    show Steps p.tables e below (T40.setTop (mkF m 169 #[.val (.long q0_0), .second, .val (.long q0_1), .second, .val (.long q0_2), .second, .val (.int p0_3), .val (.long j32), .second, .val (.long j33), .second, .val (.ref b35), .val (.int (p0_3 &&& (7 : Int32))), .val (.long (j32 - (1 : Int64))), .second, .unset] [(.int (0 : Int32))])) t
                    exact k
                  rw [show own_F0_46_1 q0_0 q0_1 q0_2 p0_3 j32 j33 = (own_F0_169_6 q0_0 q0_1 q0_2 p0_3 j32 j33 (0 : Int32)) from ((if_neg hc48).trans ((if_neg hc81).trans ((if_neg hc82).trans ((if_neg hc83).trans ((if_pos hc84).trans ((if_pos hc85).trans ((if_neg hc89).trans rfl)))))))]
                  exact J0_6 _ _ (0 : Int32) X40 rfl N47
              · skip
                refine own_by (T' := T40) (g' := (mkF m 169 #[.val (.long q0_0), .second, .val (.long q0_1), .second, .val (.long q0_2), .second, .val (.int p0_3), .val (.long j32), .second, .val (.long j33), .second, .val (.ref b35), .val (.int (p0_3 &&& (7 : Int32))), .val (.long (j32 - (1 : Int64))), .second, .unset] [(.int (0 : Int32))])) (fun t k => ?_) ?_
                · show Steps p.tables e below (T40.setTop (mkF m 152 #[.val (.long q0_0), .second, .val (.long q0_1), .second, .val (.long q0_2), .second, .val (.int p0_3), .val (.long j32), .second, .val (.long j33), .second, .val (.ref b35), .val (.int (p0_3 &&& (7 : Int32))), .val (.long (j32 - (1 : Int64))), .second, .unset] [(.int (lcmpW j32 (-9223372036854775808 : Int64)))])) t
                  refine XS.ifYes X40.here hx rfl (pc0 := 152) (pc' := 168) rfl (hb hby at_152) rfl ((if0 _ _).trans (feq (fun q => hc85 ((lw_eq _ _).mp q))).2) (by decide) (by decide) ?_
                  show Steps p.tables e below (T40.setTop (mkF m 168 #[.val (.long q0_0), .second, .val (.long q0_1), .second, .val (.long q0_2), .second, .val (.int p0_3), .val (.long j32), .second, .val (.long j33), .second, .val (.ref b35), .val (.int (p0_3 &&& (7 : Int32))), .val (.long (j32 - (1 : Int64))), .second, .unset] [])) t
                  refine XS.iconst X40.here hx rfl (hb hby at_168) ?_
                  show Steps p.tables e below (T40.setTop (mkF m 169 #[.val (.long q0_0), .second, .val (.long q0_1), .second, .val (.long q0_2), .second, .val (.int p0_3), .val (.long j32), .second, .val (.long j33), .second, .val (.ref b35), .val (.int (p0_3 &&& (7 : Int32))), .val (.long (j32 - (1 : Int64))), .second, .unset] [(.int (0 : Int32))])) t
                  exact k
                rw [show own_F0_46_1 q0_0 q0_1 q0_2 p0_3 j32 j33 = (own_F0_169_6 q0_0 q0_1 q0_2 p0_3 j32 j33 (0 : Int32)) from ((if_neg hc48).trans ((if_neg hc81).trans ((if_neg hc82).trans ((if_neg hc83).trans ((if_pos hc84).trans ((if_neg hc85).trans rfl))))))]
                exact J0_6 _ _ (0 : Int32) X40 rfl N47
            · skip
              refine own_by (T' := T40) (g' := (mkF m 178 #[.val (.long q0_0), .second, .val (.long q0_1), .second, .val (.long q0_2), .second, .val (.int p0_3), .val (.long j32), .second, .val (.long j33), .second, .val (.ref b35), .val (.int (p0_3 &&& (7 : Int32))), .unset, .unset, .unset] [(.int (6 : Int32)), (.int (p0_3 &&& (7 : Int32)))])) (fun t k => ?_) ?_
              · show Steps p.tables e below (T40.setTop (mkF m 137 #[.val (.long q0_0), .second, .val (.long q0_1), .second, .val (.long q0_2), .second, .val (.int p0_3), .val (.long j32), .second, .val (.long j33), .second, .val (.ref b35), .val (.int (p0_3 &&& (7 : Int32))), .unset, .unset, .unset] [(.int (5 : Int32)), (.int (p0_3 &&& (7 : Int32)))])) t
                refine XS.icmpYes X40.here hx rfl (pc0 := 137) (pc' := 174) rfl (hb hby at_137) rfl (feq hc84).2 (by decide) (by decide) ?_
                show Steps p.tables e below (T40.setTop (mkF m 174 #[.val (.long q0_0), .second, .val (.long q0_1), .second, .val (.long q0_2), .second, .val (.int p0_3), .val (.long j32), .second, .val (.long j33), .second, .val (.ref b35), .val (.int (p0_3 &&& (7 : Int32))), .unset, .unset, .unset] [])) t
                refine XS.iload X40.here hx rfl (hb hby at_174) rfl ?_
                show Steps p.tables e below (T40.setTop (mkF m 176 #[.val (.long q0_0), .second, .val (.long q0_1), .second, .val (.long q0_2), .second, .val (.int p0_3), .val (.long j32), .second, .val (.long j33), .second, .val (.ref b35), .val (.int (p0_3 &&& (7 : Int32))), .unset, .unset, .unset] [(.int (p0_3 &&& (7 : Int32)))])) t
                refine XS.bipush X40.here hx rfl (hb hby at_176) ?_
                show Steps p.tables e below (T40.setTop (mkF m 178 #[.val (.long q0_0), .second, .val (.long q0_1), .second, .val (.long q0_2), .second, .val (.int p0_3), .val (.long j32), .second, .val (.long j33), .second, .val (.ref b35), .val (.int (p0_3 &&& (7 : Int32))), .unset, .unset, .unset] [(.int (6 : Int32)), (.int (p0_3 &&& (7 : Int32)))])) t
                exact k
              by_cases hc90 : (p0_3 &&& (7 : Int32)) = (6 : Int32)
              · skip
                refine own_by (T' := T40) (g' := (mkF m 194 #[.val (.long q0_0), .second, .val (.long q0_1), .second, .val (.long q0_2), .second, .val (.int p0_3), .val (.long j32), .second, .val (.long j33), .second, .val (.ref b35), .val (.int (p0_3 &&& (7 : Int32))), .val (.long (j33 - (1 : Int64))), .second, .unset] [(.int (lcmpW (j33 - (1 : Int64)) j32))])) (fun t k => ?_) ?_
                · show Steps p.tables e below (T40.setTop (mkF m 178 #[.val (.long q0_0), .second, .val (.long q0_1), .second, .val (.long q0_2), .second, .val (.int p0_3), .val (.long j32), .second, .val (.long j33), .second, .val (.ref b35), .val (.int (p0_3 &&& (7 : Int32))), .unset, .unset, .unset] [(.int (6 : Int32)), (.int (p0_3 &&& (7 : Int32)))])) t
                  refine XS.icmpNo X40.here hx rfl (hb hby at_178) rfl (teq hc90).2 ?_
                  show Steps p.tables e below (T40.setTop (mkF m 181 #[.val (.long q0_0), .second, .val (.long q0_1), .second, .val (.long q0_2), .second, .val (.int p0_3), .val (.long j32), .second, .val (.long j33), .second, .val (.ref b35), .val (.int (p0_3 &&& (7 : Int32))), .unset, .unset, .unset] [])) t
                  refine XS.lload X40.here hx rfl (hb hby at_181) rfl ?_
                  show Steps p.tables e below (T40.setTop (mkF m 183 #[.val (.long q0_0), .second, .val (.long q0_1), .second, .val (.long q0_2), .second, .val (.int p0_3), .val (.long j32), .second, .val (.long j33), .second, .val (.ref b35), .val (.int (p0_3 &&& (7 : Int32))), .unset, .unset, .unset] [(.long j33)])) t
                  refine XS.lconst X40.here hx rfl (hb hby at_183) ?_
                  show Steps p.tables e below (T40.setTop (mkF m 184 #[.val (.long q0_0), .second, .val (.long q0_1), .second, .val (.long q0_2), .second, .val (.int p0_3), .val (.long j32), .second, .val (.long j33), .second, .val (.ref b35), .val (.int (p0_3 &&& (7 : Int32))), .unset, .unset, .unset] [(.long (1 : Int64)), (.long j33)])) t
                  refine XS.lsub X40.here hx rfl (hb hby at_184) rfl ?_
                  show Steps p.tables e below (T40.setTop (mkF m 185 #[.val (.long q0_0), .second, .val (.long q0_1), .second, .val (.long q0_2), .second, .val (.int p0_3), .val (.long j32), .second, .val (.long j33), .second, .val (.ref b35), .val (.int (p0_3 &&& (7 : Int32))), .unset, .unset, .unset] [(.long (j33 - (1 : Int64)))])) t
                  refine XS.lstore X40.here hx rfl (hb hby at_185) rfl (l' := #[.val (.long q0_0), .second, .val (.long q0_1), .second, .val (.long q0_2), .second, .val (.int p0_3), .val (.long j32), .second, .val (.long j33), .second, .val (.ref b35), .val (.int (p0_3 &&& (7 : Int32))), .val (.long (j33 - (1 : Int64))), .second, .unset]) rfl ?_
                  show Steps p.tables e below (T40.setTop (mkF m 187 #[.val (.long q0_0), .second, .val (.long q0_1), .second, .val (.long q0_2), .second, .val (.int p0_3), .val (.long j32), .second, .val (.long j33), .second, .val (.ref b35), .val (.int (p0_3 &&& (7 : Int32))), .val (.long (j33 - (1 : Int64))), .second, .unset] [])) t
                  refine XS.lload X40.here hx rfl (hb hby at_187) rfl ?_
                  show Steps p.tables e below (T40.setTop (mkF m 189 #[.val (.long q0_0), .second, .val (.long q0_1), .second, .val (.long q0_2), .second, .val (.int p0_3), .val (.long j32), .second, .val (.long j33), .second, .val (.ref b35), .val (.int (p0_3 &&& (7 : Int32))), .val (.long (j33 - (1 : Int64))), .second, .unset] [(.long j33)])) t
                  refine XS.lconst X40.here hx rfl (hb hby at_189) ?_
                  show Steps p.tables e below (T40.setTop (mkF m 190 #[.val (.long q0_0), .second, .val (.long q0_1), .second, .val (.long q0_2), .second, .val (.int p0_3), .val (.long j32), .second, .val (.long j33), .second, .val (.ref b35), .val (.int (p0_3 &&& (7 : Int32))), .val (.long (j33 - (1 : Int64))), .second, .unset] [(.long (1 : Int64)), (.long j33)])) t
                  refine XS.lsub X40.here hx rfl (hb hby at_190) rfl ?_
                  show Steps p.tables e below (T40.setTop (mkF m 191 #[.val (.long q0_0), .second, .val (.long q0_1), .second, .val (.long q0_2), .second, .val (.int p0_3), .val (.long j32), .second, .val (.long j33), .second, .val (.ref b35), .val (.int (p0_3 &&& (7 : Int32))), .val (.long (j33 - (1 : Int64))), .second, .unset] [(.long (j33 - (1 : Int64)))])) t
                  refine XS.lload X40.here hx rfl (hb hby at_191) rfl ?_
                  show Steps p.tables e below (T40.setTop (mkF m 193 #[.val (.long q0_0), .second, .val (.long q0_1), .second, .val (.long q0_2), .second, .val (.int p0_3), .val (.long j32), .second, .val (.long j33), .second, .val (.ref b35), .val (.int (p0_3 &&& (7 : Int32))), .val (.long (j33 - (1 : Int64))), .second, .unset] [(.long j32), (.long (j33 - (1 : Int64)))])) t
                  refine XS.lcmp X40.here hx rfl (hb hby at_193) rfl ?_
                  show Steps p.tables e below (T40.setTop (mkF m 194 #[.val (.long q0_0), .second, .val (.long q0_1), .second, .val (.long q0_2), .second, .val (.int p0_3), .val (.long j32), .second, .val (.long j33), .second, .val (.ref b35), .val (.int (p0_3 &&& (7 : Int32))), .val (.long (j33 - (1 : Int64))), .second, .unset] [(.int (lcmpW (j33 - (1 : Int64)) j32))])) t
                  exact k
                have J0_7 : ∀ (T93 : State) (L93 : List Loc) (i92 : Int32), Stand p l e room_1 s m #[(.long q0_0), (.long q0_1), (.long q0_2), (.int p0_3)] below meth c T93 L93 1 2 → T93.heap = T40.heap → Fr n0 L93 → own_Go p e below (own_P s below room_1 (own_Q0 (own_F0_202_7 q0_0 q0_1 q0_2 p0_3 j32 j33 i92) h0 n0)) T93 (mkF m 202 #[.val (.long q0_0), .second, .val (.long q0_1), .second, .val (.long q0_2), .second, .val (.int p0_3), .val (.long j32), .second, .val (.long j33), .second, .val (.ref b35), .val (.int (p0_3 &&& (7 : Int32))), .val (.long (j33 - (1 : Int64))), .second, .unset] [(.int i92)]) := by
                  intro T93 L93 i92 X93 e93 N93
                  refine own_by (T' := T93) (g' := (mkF m 252 #[.val (.long q0_0), .second, .val (.long q0_1), .second, .val (.long q0_2), .second, .val (.int p0_3), .val (.long j32), .second, .val (.long j33), .second, .val (.ref b35), .val (.int (p0_3 &&& (7 : Int32))), .val (.long (j33 - (1 : Int64))), .second, .val (.int i92)] [])) (fun t k => ?_) ?_
                  · show Steps p.tables e below (T93.setTop (mkF m 202 #[.val (.long q0_0), .second, .val (.long q0_1), .second, .val (.long q0_2), .second, .val (.int p0_3), .val (.long j32), .second, .val (.long j33), .second, .val (.ref b35), .val (.int (p0_3 &&& (7 : Int32))), .val (.long (j33 - (1 : Int64))), .second, .unset] [(.int i92)])) t
                    refine XS.istore X93.here hx rfl (hb hby at_202) rfl (l' := #[.val (.long q0_0), .second, .val (.long q0_1), .second, .val (.long q0_2), .second, .val (.int p0_3), .val (.long j32), .second, .val (.long j33), .second, .val (.ref b35), .val (.int (p0_3 &&& (7 : Int32))), .val (.long (j33 - (1 : Int64))), .second, .val (.int i92)]) rfl ?_
                    show Steps p.tables e below (T93.setTop (mkF m 204 #[.val (.long q0_0), .second, .val (.long q0_1), .second, .val (.long q0_2), .second, .val (.int p0_3), .val (.long j32), .second, .val (.long j33), .second, .val (.ref b35), .val (.int (p0_3 &&& (7 : Int32))), .val (.long (j33 - (1 : Int64))), .second, .val (.int i92)] [])) t
                    refine XS.goto X93.here hx rfl (pc0 := 204) (pc' := 252) rfl (hb hby at_204) (by decide) (by decide) ?_
                    show Steps p.tables e below (T93.setTop (mkF m 252 #[.val (.long q0_0), .second, .val (.long q0_1), .second, .val (.long q0_2), .second, .val (.int p0_3), .val (.long j32), .second, .val (.long j33), .second, .val (.ref b35), .val (.int (p0_3 &&& (7 : Int32))), .val (.long (j33 - (1 : Int64))), .second, .val (.int i92)] [])) t
                    exact k
                  rw [show own_F0_202_7 q0_0 q0_1 q0_2 p0_3 j32 j33 i92 = (own_F0_252_5 q0_0 q0_1 q0_2 p0_3 j32 j33 (j33 - (1 : Int64)) i92) from rfl]
                  exact J0_5 _ _ (j33 - (1 : Int64)) i92 X93 e93 N93
                by_cases hc91 : (j33 - (1 : Int64)) = j32
                · skip
                  refine own_by (T' := T40) (g' := (mkF m 202 #[.val (.long q0_0), .second, .val (.long q0_1), .second, .val (.long q0_2), .second, .val (.int p0_3), .val (.long j32), .second, .val (.long j33), .second, .val (.ref b35), .val (.int (p0_3 &&& (7 : Int32))), .val (.long (j33 - (1 : Int64))), .second, .unset] [(.int (0 : Int32))])) (fun t k => ?_) ?_
                  · show Steps p.tables e below (T40.setTop (mkF m 194 #[.val (.long q0_0), .second, .val (.long q0_1), .second, .val (.long q0_2), .second, .val (.int p0_3), .val (.long j32), .second, .val (.long j33), .second, .val (.ref b35), .val (.int (p0_3 &&& (7 : Int32))), .val (.long (j33 - (1 : Int64))), .second, .unset] [(.int (lcmpW (j33 - (1 : Int64)) j32))])) t
                    refine XS.ifYes X40.here hx rfl (pc0 := 194) (pc' := 201) rfl (hb hby at_194) rfl ((if0 _ _).trans (teq ((lw_eq _ _).mpr hc91)).1) (by decide) (by decide) ?_
                    show Steps p.tables e below (T40.setTop (mkF m 201 #[.val (.long q0_0), .second, .val (.long q0_1), .second, .val (.long q0_2), .second, .val (.int p0_3), .val (.long j32), .second, .val (.long j33), .second, .val (.ref b35), .val (.int (p0_3 &&& (7 : Int32))), .val (.long (j33 - (1 : Int64))), .second, .unset] [])) t
                    refine XS.iconst X40.here hx rfl (hb hby at_201) ?_
                    show Steps p.tables e below (T40.setTop (mkF m 202 #[.val (.long q0_0), .second, .val (.long q0_1), .second, .val (.long q0_2), .second, .val (.int p0_3), .val (.long j32), .second, .val (.long j33), .second, .val (.ref b35), .val (.int (p0_3 &&& (7 : Int32))), .val (.long (j33 - (1 : Int64))), .second, .unset] [(.int (0 : Int32))])) t
                    exact k
                  rw [show own_F0_46_1 q0_0 q0_1 q0_2 p0_3 j32 j33 = (own_F0_202_7 q0_0 q0_1 q0_2 p0_3 j32 j33 (0 : Int32)) from ((if_neg hc48).trans ((if_neg hc81).trans ((if_neg hc82).trans ((if_neg hc83).trans ((if_neg hc84).trans ((if_pos hc90).trans ((if_pos hc91).trans rfl)))))))]
                  exact J0_7 _ _ (0 : Int32) X40 rfl N47
                · skip
                  refine own_by (T' := T40) (g' := (mkF m 202 #[.val (.long q0_0), .second, .val (.long q0_1), .second, .val (.long q0_2), .second, .val (.int p0_3), .val (.long j32), .second, .val (.long j33), .second, .val (.ref b35), .val (.int (p0_3 &&& (7 : Int32))), .val (.long (j33 - (1 : Int64))), .second, .unset] [(.int (1 : Int32))])) (fun t k => ?_) ?_
                  · show Steps p.tables e below (T40.setTop (mkF m 194 #[.val (.long q0_0), .second, .val (.long q0_1), .second, .val (.long q0_2), .second, .val (.int p0_3), .val (.long j32), .second, .val (.long j33), .second, .val (.ref b35), .val (.int (p0_3 &&& (7 : Int32))), .val (.long (j33 - (1 : Int64))), .second, .unset] [(.int (lcmpW (j33 - (1 : Int64)) j32))])) t
                    refine XS.ifNo X40.here hx rfl (hb hby at_194) rfl ((if0 _ _).trans (feq (fun q => hc91 ((lw_eq _ _).mp q))).1) ?_
                    show Steps p.tables e below (T40.setTop (mkF m 197 #[.val (.long q0_0), .second, .val (.long q0_1), .second, .val (.long q0_2), .second, .val (.int p0_3), .val (.long j32), .second, .val (.long j33), .second, .val (.ref b35), .val (.int (p0_3 &&& (7 : Int32))), .val (.long (j33 - (1 : Int64))), .second, .unset] [])) t
                    refine XS.iconst X40.here hx rfl (hb hby at_197) ?_
                    show Steps p.tables e below (T40.setTop (mkF m 198 #[.val (.long q0_0), .second, .val (.long q0_1), .second, .val (.long q0_2), .second, .val (.int p0_3), .val (.long j32), .second, .val (.long j33), .second, .val (.ref b35), .val (.int (p0_3 &&& (7 : Int32))), .val (.long (j33 - (1 : Int64))), .second, .unset] [(.int (1 : Int32))])) t
                    refine XS.goto X40.here hx rfl (pc0 := 198) (pc' := 202) rfl (hb hby at_198) (by decide) (by decide) ?_
                    show Steps p.tables e below (T40.setTop (mkF m 202 #[.val (.long q0_0), .second, .val (.long q0_1), .second, .val (.long q0_2), .second, .val (.int p0_3), .val (.long j32), .second, .val (.long j33), .second, .val (.ref b35), .val (.int (p0_3 &&& (7 : Int32))), .val (.long (j33 - (1 : Int64))), .second, .unset] [(.int (1 : Int32))])) t
                    exact k
                  rw [show own_F0_46_1 q0_0 q0_1 q0_2 p0_3 j32 j33 = (own_F0_202_7 q0_0 q0_1 q0_2 p0_3 j32 j33 (1 : Int32)) from ((if_neg hc48).trans ((if_neg hc81).trans ((if_neg hc82).trans ((if_neg hc83).trans ((if_neg hc84).trans ((if_pos hc90).trans ((if_neg hc91).trans rfl)))))))]
                  exact J0_7 _ _ (1 : Int32) X40 rfl N47
              · skip
                refine own_by (T' := T40) (g' := (mkF m 215 #[.val (.long q0_0), .second, .val (.long q0_1), .second, .val (.long q0_2), .second, .val (.int p0_3), .val (.long j32), .second, .val (.long j33), .second, .val (.ref b35), .val (.int (p0_3 &&& (7 : Int32))), .val (.long q0_2), .second, .unset] [(.long q0_2), (.long j32)])) (fun t k => ?_) ?_
                · show Steps p.tables e below (T40.setTop (mkF m 178 #[.val (.long q0_0), .second, .val (.long q0_1), .second, .val (.long q0_2), .second, .val (.int p0_3), .val (.long j32), .second, .val (.long j33), .second, .val (.ref b35), .val (.int (p0_3 &&& (7 : Int32))), .unset, .unset, .unset] [(.int (6 : Int32)), (.int (p0_3 &&& (7 : Int32)))])) t
                  refine XS.icmpYes X40.here hx rfl (pc0 := 178) (pc' := 207) rfl (hb hby at_178) rfl (feq hc90).2 (by decide) (by decide) ?_
                  show Steps p.tables e below (T40.setTop (mkF m 207 #[.val (.long q0_0), .second, .val (.long q0_1), .second, .val (.long q0_2), .second, .val (.int p0_3), .val (.long j32), .second, .val (.long j33), .second, .val (.ref b35), .val (.int (p0_3 &&& (7 : Int32))), .unset, .unset, .unset] [])) t
                  refine XS.lload X40.here hx rfl (hb hby at_207) rfl ?_
                  show Steps p.tables e below (T40.setTop (mkF m 209 #[.val (.long q0_0), .second, .val (.long q0_1), .second, .val (.long q0_2), .second, .val (.int p0_3), .val (.long j32), .second, .val (.long j33), .second, .val (.ref b35), .val (.int (p0_3 &&& (7 : Int32))), .unset, .unset, .unset] [(.long q0_2)])) t
                  refine XS.lstore X40.here hx rfl (hb hby at_209) rfl (l' := #[.val (.long q0_0), .second, .val (.long q0_1), .second, .val (.long q0_2), .second, .val (.int p0_3), .val (.long j32), .second, .val (.long j33), .second, .val (.ref b35), .val (.int (p0_3 &&& (7 : Int32))), .val (.long q0_2), .second, .unset]) rfl ?_
                  show Steps p.tables e below (T40.setTop (mkF m 211 #[.val (.long q0_0), .second, .val (.long q0_1), .second, .val (.long q0_2), .second, .val (.int p0_3), .val (.long j32), .second, .val (.long j33), .second, .val (.ref b35), .val (.int (p0_3 &&& (7 : Int32))), .val (.long q0_2), .second, .unset] [])) t
                  refine XS.lload X40.here hx rfl (hb hby at_211) rfl ?_
                  show Steps p.tables e below (T40.setTop (mkF m 213 #[.val (.long q0_0), .second, .val (.long q0_1), .second, .val (.long q0_2), .second, .val (.int p0_3), .val (.long j32), .second, .val (.long j33), .second, .val (.ref b35), .val (.int (p0_3 &&& (7 : Int32))), .val (.long q0_2), .second, .unset] [(.long j32)])) t
                  refine XS.lload X40.here hx rfl (hb hby at_213) rfl ?_
                  show Steps p.tables e below (T40.setTop (mkF m 215 #[.val (.long q0_0), .second, .val (.long q0_1), .second, .val (.long q0_2), .second, .val (.int p0_3), .val (.long j32), .second, .val (.long j33), .second, .val (.ref b35), .val (.int (p0_3 &&& (7 : Int32))), .val (.long q0_2), .second, .unset] [(.long q0_2), (.long j32)])) t
                  exact k
                obtain ⟨v94, _, ⟨T94, L94, k94, n94⟩, -, X94, ⟨Lc94, hQ94, l94, y94, z94⟩, st94⟩ := Jvm.LawKit.callS X40 hx (y := (⟨"java/lang/Math", "max", "(JJ)J"⟩ : MethodName)) hown (mvT hZ (hw _ (List.mem_of_getElem? (i := 4) rfl))) (mvT hZ (hw _ (List.mem_of_getElem? (i := 5) rfl))) (mvT hZ (hw _ (List.mem_of_getElem? (i := 2) rfl))) (mvT hZ (hw _ (List.mem_of_getElem? (i := 6) rfl))) (by decide) (backOf (W := 0) (own_rm2 l Z a0 hw [] j32 q0_2 T40.heap n0 Z46) hZ (hw _ (List.mem_of_getElem? (i := 6) rfl)) (hw _ (List.mem_of_getElem? (i := 2) rfl)) (by decide) (by decide)) (g := (mkF m 215 #[.val (.long q0_0), .second, .val (.long q0_1), .second, .val (.long q0_2), .second, .val (.int p0_3), .val (.long j32), .second, .val (.long j33), .second, .val (.ref b35), .val (.int (p0_3 &&& (7 : Int32))), .val (.long q0_2), .second, .unset] [(.long q0_2), (.long j32)])) rfl (by rw [hml]; rfl) (argsL := [(.long j32), (.long q0_2)]) (rest := []) (lenOf pd__JJ_J rfl) rfl (by show 2 * 0 + _ ≤ _; exact Nat.le_of_eq rfl) (hb hby at_215) (fun _ _ => ⟨rfl, rfl, (by decide : 1 + 0 ≤ _), (by decide : 2 + 0 ≤ _)⟩)
                dsimp only [Pt.U, Pt.locs, Pt.cells, Pt.slots] at X94 l94 y94 z94 st94 hQ94
                subst l94 y94 z94
                obtain ⟨rfl, M94, e94⟩ := hQ94
                have N95 := Fr.app N47 M94
                refine own_by (T' := T94) (g' := (mkF m 218 #[.val (.long q0_0), .second, .val (.long q0_1), .second, .val (.long q0_2), .second, .val (.int p0_3), .val (.long j32), .second, .val (.long j33), .second, .val (.ref b35), .val (.int (p0_3 &&& (7 : Int32))), .val (.long q0_2), .second, .unset] [(.long (own_F2 j32 q0_2))])) st94 ?_
                refine own_by (T' := T94) (g' := (mkF m 221 #[.val (.long q0_0), .second, .val (.long q0_1), .second, .val (.long q0_2), .second, .val (.int p0_3), .val (.long j32), .second, .val (.long j33), .second, .val (.ref b35), .val (.int (p0_3 &&& (7 : Int32))), .val (.long q0_2), .second, .unset] [(.int (lcmpW (own_F2 j32 q0_2) q0_2))])) (fun t k => ?_) ?_
                · show Steps p.tables e below (T94.setTop (mkF m 218 #[.val (.long q0_0), .second, .val (.long q0_1), .second, .val (.long q0_2), .second, .val (.int p0_3), .val (.long j32), .second, .val (.long j33), .second, .val (.ref b35), .val (.int (p0_3 &&& (7 : Int32))), .val (.long q0_2), .second, .unset] [(.long (own_F2 j32 q0_2))])) t
                  refine XS.lload X94.here hx rfl (hb hby at_218) rfl ?_
                  show Steps p.tables e below (T94.setTop (mkF m 220 #[.val (.long q0_0), .second, .val (.long q0_1), .second, .val (.long q0_2), .second, .val (.int p0_3), .val (.long j32), .second, .val (.long j33), .second, .val (.ref b35), .val (.int (p0_3 &&& (7 : Int32))), .val (.long q0_2), .second, .unset] [(.long q0_2), (.long (own_F2 j32 q0_2))])) t
                  refine XS.lcmp X94.here hx rfl (hb hby at_220) rfl ?_
                  show Steps p.tables e below (T94.setTop (mkF m 221 #[.val (.long q0_0), .second, .val (.long q0_1), .second, .val (.long q0_2), .second, .val (.int p0_3), .val (.long j32), .second, .val (.long j33), .second, .val (.ref b35), .val (.int (p0_3 &&& (7 : Int32))), .val (.long q0_2), .second, .unset] [(.int (lcmpW (own_F2 j32 q0_2) q0_2))])) t
                  exact k
                have J0_8 : ∀ (T102 : State) (L102 : List Loc) (i101 : Int32), Stand p l e room_1 s m #[(.long q0_0), (.long q0_1), (.long q0_2), (.int p0_3)] below meth c T102 L102 1 2 → T102.heap = T40.heap → Fr n0 L102 → own_Go p e below (own_P s below room_1 (own_Q0 (own_F0_250_8 q0_0 q0_1 q0_2 p0_3 j32 j33 i101) h0 n0)) T102 (mkF m 250 #[.val (.long q0_0), .second, .val (.long q0_1), .second, .val (.long q0_2), .second, .val (.int p0_3), .val (.long j32), .second, .val (.long j33), .second, .val (.ref b35), .val (.int (p0_3 &&& (7 : Int32))), .val (.long q0_2), .second, .unset] [(.int i101)]) := by
                  intro T102 L102 i101 X102 e102 N102
                  refine own_by (T' := T102) (g' := (mkF m 252 #[.val (.long q0_0), .second, .val (.long q0_1), .second, .val (.long q0_2), .second, .val (.int p0_3), .val (.long j32), .second, .val (.long j33), .second, .val (.ref b35), .val (.int (p0_3 &&& (7 : Int32))), .val (.long q0_2), .second, .val (.int i101)] [])) (fun t k => ?_) ?_
                  · show Steps p.tables e below (T102.setTop (mkF m 250 #[.val (.long q0_0), .second, .val (.long q0_1), .second, .val (.long q0_2), .second, .val (.int p0_3), .val (.long j32), .second, .val (.long j33), .second, .val (.ref b35), .val (.int (p0_3 &&& (7 : Int32))), .val (.long q0_2), .second, .unset] [(.int i101)])) t
                    refine XS.istore X102.here hx rfl (hb hby at_250) rfl (l' := #[.val (.long q0_0), .second, .val (.long q0_1), .second, .val (.long q0_2), .second, .val (.int p0_3), .val (.long j32), .second, .val (.long j33), .second, .val (.ref b35), .val (.int (p0_3 &&& (7 : Int32))), .val (.long q0_2), .second, .val (.int i101)]) rfl ?_
                    show Steps p.tables e below (T102.setTop (mkF m 252 #[.val (.long q0_0), .second, .val (.long q0_1), .second, .val (.long q0_2), .second, .val (.int p0_3), .val (.long j32), .second, .val (.long j33), .second, .val (.ref b35), .val (.int (p0_3 &&& (7 : Int32))), .val (.long q0_2), .second, .val (.int i101)] [])) t
                    exact k
                  rw [show own_F0_250_8 q0_0 q0_1 q0_2 p0_3 j32 j33 i101 = (own_F0_252_5 q0_0 q0_1 q0_2 p0_3 j32 j33 q0_2 i101) from rfl]
                  exact J0_5 _ _ q0_2 i101 X102 e102 N102
                by_cases hc96 : (own_F2 j32 q0_2) = q0_2
                · skip
                  refine own_by (T' := T94) (g' := (mkF m 229 #[.val (.long q0_0), .second, .val (.long q0_1), .second, .val (.long q0_2), .second, .val (.int p0_3), .val (.long j32), .second, .val (.long j33), .second, .val (.ref b35), .val (.int (p0_3 &&& (7 : Int32))), .val (.long q0_2), .second, .unset] [(.int (lcmpW q0_2 j32))])) (fun t k => ?_) ?_
                  · show Steps p.tables e below (T94.setTop (mkF m 221 #[.val (.long q0_0), .second, .val (.long q0_1), .second, .val (.long q0_2), .second, .val (.int p0_3), .val (.long j32), .second, .val (.long j33), .second, .val (.ref b35), .val (.int (p0_3 &&& (7 : Int32))), .val (.long q0_2), .second, .unset] [(.int (lcmpW (own_F2 j32 q0_2) q0_2))])) t
                    refine XS.ifNo X94.here hx rfl (hb hby at_221) rfl ((if0 _ _).trans (teq ((lw_eq _ _).mpr hc96)).2) ?_
                    show Steps p.tables e below (T94.setTop (mkF m 224 #[.val (.long q0_0), .second, .val (.long q0_1), .second, .val (.long q0_2), .second, .val (.int p0_3), .val (.long j32), .second, .val (.long j33), .second, .val (.ref b35), .val (.int (p0_3 &&& (7 : Int32))), .val (.long q0_2), .second, .unset] [])) t
                    refine XS.lload X94.here hx rfl (hb hby at_224) rfl ?_
                    show Steps p.tables e below (T94.setTop (mkF m 226 #[.val (.long q0_0), .second, .val (.long q0_1), .second, .val (.long q0_2), .second, .val (.int p0_3), .val (.long j32), .second, .val (.long j33), .second, .val (.ref b35), .val (.int (p0_3 &&& (7 : Int32))), .val (.long q0_2), .second, .unset] [(.long q0_2)])) t
                    refine XS.lload X94.here hx rfl (hb hby at_226) rfl ?_
                    show Steps p.tables e below (T94.setTop (mkF m 228 #[.val (.long q0_0), .second, .val (.long q0_1), .second, .val (.long q0_2), .second, .val (.int p0_3), .val (.long j32), .second, .val (.long j33), .second, .val (.ref b35), .val (.int (p0_3 &&& (7 : Int32))), .val (.long q0_2), .second, .unset] [(.long j32), (.long q0_2)])) t
                    refine XS.lcmp X94.here hx rfl (hb hby at_228) rfl ?_
                    show Steps p.tables e below (T94.setTop (mkF m 229 #[.val (.long q0_0), .second, .val (.long q0_1), .second, .val (.long q0_2), .second, .val (.int p0_3), .val (.long j32), .second, .val (.long j33), .second, .val (.ref b35), .val (.int (p0_3 &&& (7 : Int32))), .val (.long q0_2), .second, .unset] [(.int (lcmpW q0_2 j32))])) t
                    exact k
                  by_cases hc103 : q0_2 = j32
                  · skip
                    refine own_by (T' := T94) (g' := (mkF m 250 #[.val (.long q0_0), .second, .val (.long q0_1), .second, .val (.long q0_2), .second, .val (.int p0_3), .val (.long j32), .second, .val (.long j33), .second, .val (.ref b35), .val (.int (p0_3 &&& (7 : Int32))), .val (.long q0_2), .second, .unset] [(.int (0 : Int32))])) (fun t k => ?_) ?_
                    · show Steps p.tables e below (T94.setTop (mkF m 229 #[.val (.long q0_0), .second, .val (.long q0_1), .second, .val (.long q0_2), .second, .val (.int p0_3), .val (.long j32), .second, .val (.long j33), .second, .val (.ref b35), .val (.int (p0_3 &&& (7 : Int32))), .val (.long q0_2), .second, .unset] [(.int (lcmpW q0_2 j32))])) t
                      refine XS.ifYes X94.here hx rfl (pc0 := 229) (pc' := 249) rfl (hb hby at_229) rfl ((if0 _ _).trans (teq ((lw_eq _ _).mpr hc103)).1) (by decide) (by decide) ?_
                      show Steps p.tables e below (T94.setTop (mkF m 249 #[.val (.long q0_0), .second, .val (.long q0_1), .second, .val (.long q0_2), .second, .val (.int p0_3), .val (.long j32), .second, .val (.long j33), .second, .val (.ref b35), .val (.int (p0_3 &&& (7 : Int32))), .val (.long q0_2), .second, .unset] [])) t
                      refine XS.iconst X94.here hx rfl (hb hby at_249) ?_
                      show Steps p.tables e below (T94.setTop (mkF m 250 #[.val (.long q0_0), .second, .val (.long q0_1), .second, .val (.long q0_2), .second, .val (.int p0_3), .val (.long j32), .second, .val (.long j33), .second, .val (.ref b35), .val (.int (p0_3 &&& (7 : Int32))), .val (.long q0_2), .second, .unset] [(.int (0 : Int32))])) t
                      exact k
                    rw [show own_F0_46_1 q0_0 q0_1 q0_2 p0_3 j32 j33 = (own_F0_250_8 q0_0 q0_1 q0_2 p0_3 j32 j33 (0 : Int32)) from ((if_neg hc48).trans ((if_neg hc81).trans ((if_neg hc82).trans ((if_neg hc83).trans ((if_neg hc84).trans ((if_neg hc90).trans ((if_pos hc96).trans ((if_pos hc103).trans rfl))))))))]
                    exact J0_8 _ _ (0 : Int32) X94 e94 N95
                  · skip
                    refine own_by (T' := T94) (g' := (mkF m 236 #[.val (.long q0_0), .second, .val (.long q0_1), .second, .val (.long q0_2), .second, .val (.int p0_3), .val (.long j32), .second, .val (.long j33), .second, .val (.ref b35), .val (.int (p0_3 &&& (7 : Int32))), .val (.long q0_2), .second, .unset] [(.long q0_2), (.long j33)])) (fun t k => ?_) ?_
                    · show Steps p.tables e below (T94.setTop (mkF m 229 #[.val (.long q0_0), .second, .val (.long q0_1), .second, .val (.long q0_2), .second, .val (.int p0_3), .val (.long j32), .second, .val (.long j33), .second, .val (.ref b35), .val (.int (p0_3 &&& (7 : Int32))), .val (.long q0_2), .second, .unset] [(.int (lcmpW q0_2 j32))])) t
                      refine XS.ifNo X94.here hx rfl (hb hby at_229) rfl ((if0 _ _).trans (feq (fun q => hc103 ((lw_eq _ _).mp q))).1) ?_
                      show Steps p.tables e below (T94.setTop (mkF m 232 #[.val (.long q0_0), .second, .val (.long q0_1), .second, .val (.long q0_2), .second, .val (.int p0_3), .val (.long j32), .second, .val (.long j33), .second, .val (.ref b35), .val (.int (p0_3 &&& (7 : Int32))), .val (.long q0_2), .second, .unset] [])) t
                      refine XS.lload X94.here hx rfl (hb hby at_232) rfl ?_
                      show Steps p.tables e below (T94.setTop (mkF m 234 #[.val (.long q0_0), .second, .val (.long q0_1), .second, .val (.long q0_2), .second, .val (.int p0_3), .val (.long j32), .second, .val (.long j33), .second, .val (.ref b35), .val (.int (p0_3 &&& (7 : Int32))), .val (.long q0_2), .second, .unset] [(.long j33)])) t
                      refine XS.lload X94.here hx rfl (hb hby at_234) rfl ?_
                      show Steps p.tables e below (T94.setTop (mkF m 236 #[.val (.long q0_0), .second, .val (.long q0_1), .second, .val (.long q0_2), .second, .val (.int p0_3), .val (.long j32), .second, .val (.long j33), .second, .val (.ref b35), .val (.int (p0_3 &&& (7 : Int32))), .val (.long q0_2), .second, .unset] [(.long q0_2), (.long j33)])) t
                      exact k
                    obtain ⟨v104, _, ⟨T104, L104, k104, n104⟩, -, X104, ⟨Lc104, hQ104, l104, y104, z104⟩, st104⟩ := Jvm.LawKit.callS X94 hx (y := (⟨"java/lang/Math", "min", "(JJ)J"⟩ : MethodName)) hown (mvT hZ (hw _ (List.mem_of_getElem? (i := 0) rfl))) (mvT hZ (hw _ (List.mem_of_getElem? (i := 1) rfl))) (mvT hZ (hw _ (List.mem_of_getElem? (i := 2) rfl))) (mvT hZ (hw _ (List.mem_of_getElem? (i := 3) rfl))) (by decide) (backOf (W := 0) (own_rm1 l Z a0 hw [] j33 q0_2 T40.heap n0 Z46) hZ (hw _ (List.mem_of_getElem? (i := 3) rfl)) (hw _ (List.mem_of_getElem? (i := 2) rfl)) (by decide) (by decide)) (g := (mkF m 236 #[.val (.long q0_0), .second, .val (.long q0_1), .second, .val (.long q0_2), .second, .val (.int p0_3), .val (.long j32), .second, .val (.long j33), .second, .val (.ref b35), .val (.int (p0_3 &&& (7 : Int32))), .val (.long q0_2), .second, .unset] [(.long q0_2), (.long j33)])) rfl (by rw [hml]; rfl) (argsL := [(.long j33), (.long q0_2)]) (rest := []) (lenOf pd__JJ_J rfl) rfl (by show 2 * 0 + _ ≤ _; exact Nat.le_of_eq rfl) (hb hby at_236) (fun _ _ => ⟨rfl, e94, (by decide : 1 + 0 ≤ _), (by decide : 2 + 0 ≤ _)⟩)
                    dsimp only [Pt.U, Pt.locs, Pt.cells, Pt.slots] at X104 l104 y104 z104 st104 hQ104
                    subst l104 y104 z104
                    obtain ⟨rfl, M104, e104⟩ := hQ104
                    have N105 := Fr.app N95 M104
                    refine own_by (T' := T104) (g' := (mkF m 239 #[.val (.long q0_0), .second, .val (.long q0_1), .second, .val (.long q0_2), .second, .val (.int p0_3), .val (.long j32), .second, .val (.long j33), .second, .val (.ref b35), .val (.int (p0_3 &&& (7 : Int32))), .val (.long q0_2), .second, .unset] [(.long (own_F1 j33 q0_2))])) st104 ?_
                    refine own_by (T' := T104) (g' := (mkF m 242 #[.val (.long q0_0), .second, .val (.long q0_1), .second, .val (.long q0_2), .second, .val (.int p0_3), .val (.long j32), .second, .val (.long j33), .second, .val (.ref b35), .val (.int (p0_3 &&& (7 : Int32))), .val (.long q0_2), .second, .unset] [(.int (lcmpW (own_F1 j33 q0_2) q0_2))])) (fun t k => ?_) ?_
                    · show Steps p.tables e below (T104.setTop (mkF m 239 #[.val (.long q0_0), .second, .val (.long q0_1), .second, .val (.long q0_2), .second, .val (.int p0_3), .val (.long j32), .second, .val (.long j33), .second, .val (.ref b35), .val (.int (p0_3 &&& (7 : Int32))), .val (.long q0_2), .second, .unset] [(.long (own_F1 j33 q0_2))])) t
                      refine XS.lload X104.here hx rfl (hb hby at_239) rfl ?_
                      show Steps p.tables e below (T104.setTop (mkF m 241 #[.val (.long q0_0), .second, .val (.long q0_1), .second, .val (.long q0_2), .second, .val (.int p0_3), .val (.long j32), .second, .val (.long j33), .second, .val (.ref b35), .val (.int (p0_3 &&& (7 : Int32))), .val (.long q0_2), .second, .unset] [(.long q0_2), (.long (own_F1 j33 q0_2))])) t
                      refine XS.lcmp X104.here hx rfl (hb hby at_241) rfl ?_
                      show Steps p.tables e below (T104.setTop (mkF m 242 #[.val (.long q0_0), .second, .val (.long q0_1), .second, .val (.long q0_2), .second, .val (.int p0_3), .val (.long j32), .second, .val (.long j33), .second, .val (.ref b35), .val (.int (p0_3 &&& (7 : Int32))), .val (.long q0_2), .second, .unset] [(.int (lcmpW (own_F1 j33 q0_2) q0_2))])) t
                      exact k
                    by_cases hc106 : (own_F1 j33 q0_2) = q0_2
                    · skip
                      refine own_by (T' := T104) (g' := (mkF m 250 #[.val (.long q0_0), .second, .val (.long q0_1), .second, .val (.long q0_2), .second, .val (.int p0_3), .val (.long j32), .second, .val (.long j33), .second, .val (.ref b35), .val (.int (p0_3 &&& (7 : Int32))), .val (.long q0_2), .second, .unset] [(.int (1 : Int32))])) (fun t k => ?_) ?_
                      · show Steps p.tables e below (T104.setTop (mkF m 242 #[.val (.long q0_0), .second, .val (.long q0_1), .second, .val (.long q0_2), .second, .val (.int p0_3), .val (.long j32), .second, .val (.long j33), .second, .val (.ref b35), .val (.int (p0_3 &&& (7 : Int32))), .val (.long q0_2), .second, .unset] [(.int (lcmpW (own_F1 j33 q0_2) q0_2))])) t
                        refine XS.ifNo X104.here hx rfl (hb hby at_242) rfl ((if0 _ _).trans (teq ((lw_eq _ _).mpr hc106)).2) ?_
                        show Steps p.tables e below (T104.setTop (mkF m 245 #[.val (.long q0_0), .second, .val (.long q0_1), .second, .val (.long q0_2), .second, .val (.int p0_3), .val (.long j32), .second, .val (.long j33), .second, .val (.ref b35), .val (.int (p0_3 &&& (7 : Int32))), .val (.long q0_2), .second, .unset] [])) t
                        refine XS.iconst X104.here hx rfl (hb hby at_245) ?_
                        show Steps p.tables e below (T104.setTop (mkF m 246 #[.val (.long q0_0), .second, .val (.long q0_1), .second, .val (.long q0_2), .second, .val (.int p0_3), .val (.long j32), .second, .val (.long j33), .second, .val (.ref b35), .val (.int (p0_3 &&& (7 : Int32))), .val (.long q0_2), .second, .unset] [(.int (1 : Int32))])) t
                        refine XS.goto X104.here hx rfl (pc0 := 246) (pc' := 250) rfl (hb hby at_246) (by decide) (by decide) ?_
                        show Steps p.tables e below (T104.setTop (mkF m 250 #[.val (.long q0_0), .second, .val (.long q0_1), .second, .val (.long q0_2), .second, .val (.int p0_3), .val (.long j32), .second, .val (.long j33), .second, .val (.ref b35), .val (.int (p0_3 &&& (7 : Int32))), .val (.long q0_2), .second, .unset] [(.int (1 : Int32))])) t
                        exact k
                      rw [show own_F0_46_1 q0_0 q0_1 q0_2 p0_3 j32 j33 = (own_F0_250_8 q0_0 q0_1 q0_2 p0_3 j32 j33 (1 : Int32)) from ((if_neg hc48).trans ((if_neg hc81).trans ((if_neg hc82).trans ((if_neg hc83).trans ((if_neg hc84).trans ((if_neg hc90).trans ((if_pos hc96).trans ((if_neg hc103).trans ((if_pos hc106).trans rfl)))))))))]
                      exact J0_8 _ _ (1 : Int32) X104 e104 N105
                    · skip
                      refine own_by (T' := T104) (g' := (mkF m 250 #[.val (.long q0_0), .second, .val (.long q0_1), .second, .val (.long q0_2), .second, .val (.int p0_3), .val (.long j32), .second, .val (.long j33), .second, .val (.ref b35), .val (.int (p0_3 &&& (7 : Int32))), .val (.long q0_2), .second, .unset] [(.int (0 : Int32))])) (fun t k => ?_) ?_
                      · show Steps p.tables e below (T104.setTop (mkF m 242 #[.val (.long q0_0), .second, .val (.long q0_1), .second, .val (.long q0_2), .second, .val (.int p0_3), .val (.long j32), .second, .val (.long j33), .second, .val (.ref b35), .val (.int (p0_3 &&& (7 : Int32))), .val (.long q0_2), .second, .unset] [(.int (lcmpW (own_F1 j33 q0_2) q0_2))])) t
                        refine XS.ifYes X104.here hx rfl (pc0 := 242) (pc' := 249) rfl (hb hby at_242) rfl ((if0 _ _).trans (feq (fun q => hc106 ((lw_eq _ _).mp q))).2) (by decide) (by decide) ?_
                        show Steps p.tables e below (T104.setTop (mkF m 249 #[.val (.long q0_0), .second, .val (.long q0_1), .second, .val (.long q0_2), .second, .val (.int p0_3), .val (.long j32), .second, .val (.long j33), .second, .val (.ref b35), .val (.int (p0_3 &&& (7 : Int32))), .val (.long q0_2), .second, .unset] [])) t
                        refine XS.iconst X104.here hx rfl (hb hby at_249) ?_
                        show Steps p.tables e below (T104.setTop (mkF m 250 #[.val (.long q0_0), .second, .val (.long q0_1), .second, .val (.long q0_2), .second, .val (.int p0_3), .val (.long j32), .second, .val (.long j33), .second, .val (.ref b35), .val (.int (p0_3 &&& (7 : Int32))), .val (.long q0_2), .second, .unset] [(.int (0 : Int32))])) t
                        exact k
                      rw [show own_F0_46_1 q0_0 q0_1 q0_2 p0_3 j32 j33 = (own_F0_250_8 q0_0 q0_1 q0_2 p0_3 j32 j33 (0 : Int32)) from ((if_neg hc48).trans ((if_neg hc81).trans ((if_neg hc82).trans ((if_neg hc83).trans ((if_neg hc84).trans ((if_neg hc90).trans ((if_pos hc96).trans ((if_neg hc103).trans ((if_neg hc106).trans rfl)))))))))]
                      exact J0_8 _ _ (0 : Int32) X104 e104 N105
                · skip
                  refine own_by (T' := T94) (g' := (mkF m 250 #[.val (.long q0_0), .second, .val (.long q0_1), .second, .val (.long q0_2), .second, .val (.int p0_3), .val (.long j32), .second, .val (.long j33), .second, .val (.ref b35), .val (.int (p0_3 &&& (7 : Int32))), .val (.long q0_2), .second, .unset] [(.int (0 : Int32))])) (fun t k => ?_) ?_
                  · show Steps p.tables e below (T94.setTop (mkF m 221 #[.val (.long q0_0), .second, .val (.long q0_1), .second, .val (.long q0_2), .second, .val (.int p0_3), .val (.long j32), .second, .val (.long j33), .second, .val (.ref b35), .val (.int (p0_3 &&& (7 : Int32))), .val (.long q0_2), .second, .unset] [(.int (lcmpW (own_F2 j32 q0_2) q0_2))])) t
                    refine XS.ifYes X94.here hx rfl (pc0 := 221) (pc' := 249) rfl (hb hby at_221) rfl ((if0 _ _).trans (feq (fun q => hc96 ((lw_eq _ _).mp q))).2) (by decide) (by decide) ?_
                    show Steps p.tables e below (T94.setTop (mkF m 249 #[.val (.long q0_0), .second, .val (.long q0_1), .second, .val (.long q0_2), .second, .val (.int p0_3), .val (.long j32), .second, .val (.long j33), .second, .val (.ref b35), .val (.int (p0_3 &&& (7 : Int32))), .val (.long q0_2), .second, .unset] [])) t
                    refine XS.iconst X94.here hx rfl (hb hby at_249) ?_
                    show Steps p.tables e below (T94.setTop (mkF m 250 #[.val (.long q0_0), .second, .val (.long q0_1), .second, .val (.long q0_2), .second, .val (.int p0_3), .val (.long j32), .second, .val (.long j33), .second, .val (.ref b35), .val (.int (p0_3 &&& (7 : Int32))), .val (.long q0_2), .second, .unset] [(.int (0 : Int32))])) t
                    exact k
                  rw [show own_F0_46_1 q0_0 q0_1 q0_2 p0_3 j32 j33 = (own_F0_250_8 q0_0 q0_1 q0_2 p0_3 j32 j33 (0 : Int32)) from ((if_neg hc48).trans ((if_neg hc81).trans ((if_neg hc82).trans ((if_neg hc83).trans ((if_neg hc84).trans ((if_neg hc90).trans ((if_neg hc96).trans rfl)))))))]
                  exact J0_8 _ _ (0 : Int32) X94 e94 N95
  by_cases hc30 : (own_F1 q0_0 q0_1) = (own_F2 q0_0 q0_1)
  · skip
    refine own_by (T' := T28) (g' := (mkF m 28 #[.val (.long q0_0), .second, .val (.long q0_1), .second, .val (.long q0_2), .second, .val (.int p0_3), .val (.long (own_F1 q0_0 q0_1)), .second, .val (.long (own_F2 q0_0 q0_1)), .second, .unset, .unset, .unset, .unset, .unset] [(.int (lcmpW (own_F2 q0_0 q0_1) (9223372036854775807 : Int64)))])) (fun t k => ?_) ?_
    · show Steps p.tables e below (T28.setTop (mkF m 19 #[.val (.long q0_0), .second, .val (.long q0_1), .second, .val (.long q0_2), .second, .val (.int p0_3), .val (.long (own_F1 q0_0 q0_1)), .second, .val (.long (own_F2 q0_0 q0_1)), .second, .unset, .unset, .unset, .unset, .unset] [(.int (lcmpW (own_F1 q0_0 q0_1) (own_F2 q0_0 q0_1)))])) t
      refine XS.ifNo X28.here hx rfl (hb hby at_19) rfl ((if0 _ _).trans (teq ((lw_eq _ _).mpr hc30)).2) ?_
      show Steps p.tables e below (T28.setTop (mkF m 22 #[.val (.long q0_0), .second, .val (.long q0_1), .second, .val (.long q0_2), .second, .val (.int p0_3), .val (.long (own_F1 q0_0 q0_1)), .second, .val (.long (own_F2 q0_0 q0_1)), .second, .unset, .unset, .unset, .unset, .unset] [])) t
      refine XS.lload X28.here hx rfl (hb hby at_22) rfl ?_
      show Steps p.tables e below (T28.setTop (mkF m 24 #[.val (.long q0_0), .second, .val (.long q0_1), .second, .val (.long q0_2), .second, .val (.int p0_3), .val (.long (own_F1 q0_0 q0_1)), .second, .val (.long (own_F2 q0_0 q0_1)), .second, .unset, .unset, .unset, .unset, .unset] [(.long (own_F2 q0_0 q0_1))])) t
      refine X28.ldc2Long hx hown (mvT hZ (hw _ (List.mem_of_getElem? (i := 26) rfl))) (g := (mkF m 24 #[.val (.long q0_0), .second, .val (.long q0_1), .second, .val (.long q0_2), .second, .val (.int p0_3), .val (.long (own_F1 q0_0 q0_1)), .second, .val (.long (own_F2 q0_0 q0_1)), .second, .unset, .unset, .unset, .unset, .unset] [(.long (own_F2 q0_0 q0_1))])) rfl (hb hby at_24) _ ?_
      show Steps p.tables e below (T28.setTop (mkF m 27 #[.val (.long q0_0), .second, .val (.long q0_1), .second, .val (.long q0_2), .second, .val (.int p0_3), .val (.long (own_F1 q0_0 q0_1)), .second, .val (.long (own_F2 q0_0 q0_1)), .second, .unset, .unset, .unset, .unset, .unset] [(.long (9223372036854775807 : Int64)), (.long (own_F2 q0_0 q0_1))])) t
      refine XS.lcmp X28.here hx rfl (hb hby at_27) rfl ?_
      show Steps p.tables e below (T28.setTop (mkF m 28 #[.val (.long q0_0), .second, .val (.long q0_1), .second, .val (.long q0_2), .second, .val (.int p0_3), .val (.long (own_F1 q0_0 q0_1)), .second, .val (.long (own_F2 q0_0 q0_1)), .second, .unset, .unset, .unset, .unset, .unset] [(.int (lcmpW (own_F2 q0_0 q0_1) (9223372036854775807 : Int64)))])) t
      exact k
    by_cases hc107 : (own_F2 q0_0 q0_1) = (9223372036854775807 : Int64)
    · skip
      refine own_by (T' := T28) (g' := (mkF m 46 #[.val (.long q0_0), .second, .val (.long q0_1), .second, .val (.long q0_2), .second, .val (.int p0_3), .val (.long ((own_F2 q0_0 q0_1) - (1 : Int64))), .second, .val (.long (own_F2 q0_0 q0_1)), .second, .unset, .unset, .unset, .unset, .unset] [])) (fun t k => ?_) ?_
      · show Steps p.tables e below (T28.setTop (mkF m 28 #[.val (.long q0_0), .second, .val (.long q0_1), .second, .val (.long q0_2), .second, .val (.int p0_3), .val (.long (own_F1 q0_0 q0_1)), .second, .val (.long (own_F2 q0_0 q0_1)), .second, .unset, .unset, .unset, .unset, .unset] [(.int (lcmpW (own_F2 q0_0 q0_1) (9223372036854775807 : Int64)))])) t
        refine XS.ifNo X28.here hx rfl (hb hby at_28) rfl ((if0 _ _).trans (teq ((lw_eq _ _).mpr hc107)).2) ?_
        show Steps p.tables e below (T28.setTop (mkF m 31 #[.val (.long q0_0), .second, .val (.long q0_1), .second, .val (.long q0_2), .second, .val (.int p0_3), .val (.long (own_F1 q0_0 q0_1)), .second, .val (.long (own_F2 q0_0 q0_1)), .second, .unset, .unset, .unset, .unset, .unset] [])) t
        refine XS.lload X28.here hx rfl (hb hby at_31) rfl ?_
        show Steps p.tables e below (T28.setTop (mkF m 33 #[.val (.long q0_0), .second, .val (.long q0_1), .second, .val (.long q0_2), .second, .val (.int p0_3), .val (.long (own_F1 q0_0 q0_1)), .second, .val (.long (own_F2 q0_0 q0_1)), .second, .unset, .unset, .unset, .unset, .unset] [(.long (own_F2 q0_0 q0_1))])) t
        refine XS.lconst X28.here hx rfl (hb hby at_33) ?_
        show Steps p.tables e below (T28.setTop (mkF m 34 #[.val (.long q0_0), .second, .val (.long q0_1), .second, .val (.long q0_2), .second, .val (.int p0_3), .val (.long (own_F1 q0_0 q0_1)), .second, .val (.long (own_F2 q0_0 q0_1)), .second, .unset, .unset, .unset, .unset, .unset] [(.long (1 : Int64)), (.long (own_F2 q0_0 q0_1))])) t
        refine XS.lsub X28.here hx rfl (hb hby at_34) rfl ?_
        show Steps p.tables e below (T28.setTop (mkF m 35 #[.val (.long q0_0), .second, .val (.long q0_1), .second, .val (.long q0_2), .second, .val (.int p0_3), .val (.long (own_F1 q0_0 q0_1)), .second, .val (.long (own_F2 q0_0 q0_1)), .second, .unset, .unset, .unset, .unset, .unset] [(.long ((own_F2 q0_0 q0_1) - (1 : Int64)))])) t
        refine XS.lstore X28.here hx rfl (hb hby at_35) rfl (l' := #[.val (.long q0_0), .second, .val (.long q0_1), .second, .val (.long q0_2), .second, .val (.int p0_3), .val (.long ((own_F2 q0_0 q0_1) - (1 : Int64))), .second, .val (.long (own_F2 q0_0 q0_1)), .second, .unset, .unset, .unset, .unset, .unset]) rfl ?_
        show Steps p.tables e below (T28.setTop (mkF m 37 #[.val (.long q0_0), .second, .val (.long q0_1), .second, .val (.long q0_2), .second, .val (.int p0_3), .val (.long ((own_F2 q0_0 q0_1) - (1 : Int64))), .second, .val (.long (own_F2 q0_0 q0_1)), .second, .unset, .unset, .unset, .unset, .unset] [])) t
        refine XS.goto X28.here hx rfl (pc0 := 37) (pc' := 46) rfl (hb hby at_37) (by decide) (by decide) ?_
        show Steps p.tables e below (T28.setTop (mkF m 46 #[.val (.long q0_0), .second, .val (.long q0_1), .second, .val (.long q0_2), .second, .val (.int p0_3), .val (.long ((own_F2 q0_0 q0_1) - (1 : Int64))), .second, .val (.long (own_F2 q0_0 q0_1)), .second, .unset, .unset, .unset, .unset, .unset] [])) t
        exact k
      rw [show own_F0 q0_0 q0_1 q0_2 p0_3 = (own_F0_46_1 q0_0 q0_1 q0_2 p0_3 ((own_F2 q0_0 q0_1) - (1 : Int64)) (own_F2 q0_0 q0_1)) from ((if_pos hc30).trans ((if_pos hc107).trans rfl))]
      exact J0_1 _ _ ((own_F2 q0_0 q0_1) - (1 : Int64)) (own_F2 q0_0 q0_1) X28 e28 N29 (own_lt2 q0_0 q0_1 hc30 hc107)
    · skip
      refine own_by (T' := T28) (g' := (mkF m 46 #[.val (.long q0_0), .second, .val (.long q0_1), .second, .val (.long q0_2), .second, .val (.int p0_3), .val (.long (own_F1 q0_0 q0_1)), .second, .val (.long ((own_F1 q0_0 q0_1) + (1 : Int64))), .second, .unset, .unset, .unset, .unset, .unset] [])) (fun t k => ?_) ?_
      · show Steps p.tables e below (T28.setTop (mkF m 28 #[.val (.long q0_0), .second, .val (.long q0_1), .second, .val (.long q0_2), .second, .val (.int p0_3), .val (.long (own_F1 q0_0 q0_1)), .second, .val (.long (own_F2 q0_0 q0_1)), .second, .unset, .unset, .unset, .unset, .unset] [(.int (lcmpW (own_F2 q0_0 q0_1) (9223372036854775807 : Int64)))])) t
        refine XS.ifYes X28.here hx rfl (pc0 := 28) (pc' := 40) rfl (hb hby at_28) rfl ((if0 _ _).trans (feq (fun q => hc107 ((lw_eq _ _).mp q))).2) (by decide) (by decide) ?_
        show Steps p.tables e below (T28.setTop (mkF m 40 #[.val (.long q0_0), .second, .val (.long q0_1), .second, .val (.long q0_2), .second, .val (.int p0_3), .val (.long (own_F1 q0_0 q0_1)), .second, .val (.long (own_F2 q0_0 q0_1)), .second, .unset, .unset, .unset, .unset, .unset] [])) t
        refine XS.lload X28.here hx rfl (hb hby at_40) rfl ?_
        show Steps p.tables e below (T28.setTop (mkF m 42 #[.val (.long q0_0), .second, .val (.long q0_1), .second, .val (.long q0_2), .second, .val (.int p0_3), .val (.long (own_F1 q0_0 q0_1)), .second, .val (.long (own_F2 q0_0 q0_1)), .second, .unset, .unset, .unset, .unset, .unset] [(.long (own_F1 q0_0 q0_1))])) t
        refine XS.lconst X28.here hx rfl (hb hby at_42) ?_
        show Steps p.tables e below (T28.setTop (mkF m 43 #[.val (.long q0_0), .second, .val (.long q0_1), .second, .val (.long q0_2), .second, .val (.int p0_3), .val (.long (own_F1 q0_0 q0_1)), .second, .val (.long (own_F2 q0_0 q0_1)), .second, .unset, .unset, .unset, .unset, .unset] [(.long (1 : Int64)), (.long (own_F1 q0_0 q0_1))])) t
        refine XS.ladd X28.here hx rfl (hb hby at_43) rfl ?_
        show Steps p.tables e below (T28.setTop (mkF m 44 #[.val (.long q0_0), .second, .val (.long q0_1), .second, .val (.long q0_2), .second, .val (.int p0_3), .val (.long (own_F1 q0_0 q0_1)), .second, .val (.long (own_F2 q0_0 q0_1)), .second, .unset, .unset, .unset, .unset, .unset] [(.long ((own_F1 q0_0 q0_1) + (1 : Int64)))])) t
        refine XS.lstore X28.here hx rfl (hb hby at_44) rfl (l' := #[.val (.long q0_0), .second, .val (.long q0_1), .second, .val (.long q0_2), .second, .val (.int p0_3), .val (.long (own_F1 q0_0 q0_1)), .second, .val (.long ((own_F1 q0_0 q0_1) + (1 : Int64))), .second, .unset, .unset, .unset, .unset, .unset]) rfl ?_
        show Steps p.tables e below (T28.setTop (mkF m 46 #[.val (.long q0_0), .second, .val (.long q0_1), .second, .val (.long q0_2), .second, .val (.int p0_3), .val (.long (own_F1 q0_0 q0_1)), .second, .val (.long ((own_F1 q0_0 q0_1) + (1 : Int64))), .second, .unset, .unset, .unset, .unset, .unset] [])) t
        exact k
      rw [show own_F0 q0_0 q0_1 q0_2 p0_3 = (own_F0_46_1 q0_0 q0_1 q0_2 p0_3 (own_F1 q0_0 q0_1) ((own_F1 q0_0 q0_1) + (1 : Int64))) from ((if_pos hc30).trans ((if_neg hc107).trans rfl))]
      exact J0_1 _ _ (own_F1 q0_0 q0_1) ((own_F1 q0_0 q0_1) + (1 : Int64)) X28 e28 N29 (own_lt3 q0_0 q0_1 hc30 hc107)
  · skip
    refine own_by (T' := T28) (g' := (mkF m 46 #[.val (.long q0_0), .second, .val (.long q0_1), .second, .val (.long q0_2), .second, .val (.int p0_3), .val (.long (own_F1 q0_0 q0_1)), .second, .val (.long (own_F2 q0_0 q0_1)), .second, .unset, .unset, .unset, .unset, .unset] [])) (fun t k => ?_) ?_
    · show Steps p.tables e below (T28.setTop (mkF m 19 #[.val (.long q0_0), .second, .val (.long q0_1), .second, .val (.long q0_2), .second, .val (.int p0_3), .val (.long (own_F1 q0_0 q0_1)), .second, .val (.long (own_F2 q0_0 q0_1)), .second, .unset, .unset, .unset, .unset, .unset] [(.int (lcmpW (own_F1 q0_0 q0_1) (own_F2 q0_0 q0_1)))])) t
      refine XS.ifYes X28.here hx rfl (pc0 := 19) (pc' := 46) rfl (hb hby at_19) rfl ((if0 _ _).trans (feq (fun q => hc30 ((lw_eq _ _).mp q))).2) (by decide) (by decide) ?_
      show Steps p.tables e below (T28.setTop (mkF m 46 #[.val (.long q0_0), .second, .val (.long q0_1), .second, .val (.long q0_2), .second, .val (.int p0_3), .val (.long (own_F1 q0_0 q0_1)), .second, .val (.long (own_F2 q0_0 q0_1)), .second, .unset, .unset, .unset, .unset, .unset] [])) t
      exact k
    rw [show own_F0 q0_0 q0_1 q0_2 p0_3 = (own_F0_46_1 q0_0 q0_1 q0_2 p0_3 (own_F1 q0_0 q0_1) (own_F2 q0_0 q0_1)) from ((if_neg hc30).trans rfl)]
    exact J0_1 _ _ (own_F1 q0_0 q0_1) (own_F2 q0_0 q0_1) X28 e28 N29 (own_lt1 q0_0 q0_1 hc30)
theorem own_f5 (t l r : Int64) : own_F5 t l r = if l.toInt < t.toInt ∧ t.toInt ≤ r.toInt then 1 else 0 := by
  unfold own_F5
  simp only [Int64.lt_iff_toInt_lt]
  repeat' split
  all_goals first | rfl | (exfalso; omega)
theorem own_y {a b t lo hi k : Int64} {m : Int32} (h : lo.toInt < k.toInt ∧ k.toInt ≤ hi.toInt) : own_F0_252_5 a b t m lo hi k 1 = 1 := by
  unfold own_F0_252_5
  rw [own_f5, if_pos h, if_pos rfl]
theorem own_n {a b t lo hi k : Int64} {m : Int32} (h : ¬ (lo.toInt < k.toInt ∧ k.toInt ≤ hi.toInt)) : own_F0_252_5 a b t m lo hi k 0 = 1 := by
  unfold own_F0_252_5
  rw [own_f5, if_neg h, if_pos rfl]
theorem own_46 (a b t lo hi : Int64) (m : Int32) (h : lo < hi) : own_F0_46_1 a b t m lo hi = 1 := by
  rw [Int64.lt_iff_toInt_lt] at h
  have l1 := lo.toInt_lt
  have l2 := lo.le_toInt
  have r1 := hi.toInt_lt
  have r2 := hi.le_toInt
  have e1 : (9223372036854775807 : Int64).toInt = 9223372036854775807 := by decide
  have e2 : (-9223372036854775808 : Int64).toInt = -9223372036854775808 := by decide
  have p1 := own_add1 lo
  have p2 := own_add1 hi
  have p3 := own_sub1 lo
  have p4 := own_sub1 hi
  unfold own_F0_46_1 own_F0_169_6 own_F0_202_7 own_F0_250_8
  split
  · exact own_n (by omega)
  split
  · exact own_y (by omega)
  split
  · exact own_y (by split at p1 <;> omega)
  split
  · exact own_n (by split at p2 <;> omega)
  split
  · split
    · next q1 =>
      rw [← Int64.toInt_inj, e2] at q1
      split
      · next q2 =>
        rw [← Int64.toInt_inj, e1] at q2
        exact own_y (by split at p3 <;> omega)
      · next q2 =>
        rw [← Int64.toInt_inj, e1] at q2
        exact own_n (by split at p3 <;> omega)
    · next q1 =>
      rw [← Int64.toInt_inj, e2] at q1
      exact own_n (by split at p3 <;> omega)
  split
  · split
    · next q => rw [← Int64.toInt_inj] at q; exact own_n (by split at p4 <;> omega)
    · next q => rw [← Int64.toInt_inj] at q; exact own_y (by split at p4 <;> omega)
  have k1 : (own_F2 lo t = t) ↔ lo.toInt ≤ t.toInt := by
    unfold own_F2
    rw [← Int64.toInt_inj]
    split
    · next q => rw [Int64.lt_iff_toInt_lt] at q; omega
    · next q => rw [Int64.lt_iff_toInt_lt] at q; omega
  have k2 : (own_F1 hi t = t) ↔ t.toInt ≤ hi.toInt := by
    unfold own_F1
    rw [← Int64.toInt_inj]
    split
    · next q => rw [Int64.lt_iff_toInt_lt] at q; omega
    · next q => rw [Int64.lt_iff_toInt_lt] at q; omega
  split
  · next q1 =>
    rw [k1] at q1
    split
    · next q2 => rw [← Int64.toInt_inj] at q2; exact own_n (by omega)
    · next q2 =>
      rw [← Int64.toInt_inj] at q2
      split
      · next q3 => rw [k2] at q3; exact own_y (by omega)
      · next q3 => rw [k2] at q3; exact own_n (by omega)
  · next q1 => rw [k1] at q1; exact own_n (by omega)
theorem own_law (a b t : Int64) (m : Int32) : own_F0 a b t m = 1 := by
  unfold own_F0
  split
  · next h =>
    split
    · next h2 => exact own_46 _ _ _ _ _ _ (own_lt2 a b h h2)
    · next h2 => exact own_46 _ _ _ _ _ _ (own_lt3 a b h h2)
  · next h => exact own_46 _ _ _ _ _ _ (own_lt1 a b h)

set_option maxRecDepth 65536 in
set_option maxHeartbeats 40000000 in
theorem own_comes {Post : Tables → Env → Array Value → State → Outcome → State → Prop} (hpost : ∀ tb e args s v u, (limb_1_1.after args s (.returned v) u = true ∧ limb_1_2.after args s (.returned v) u = true ∧ True) → FrameEnd s (.returned v) u (Jvm.fieldLocs frame_1_writes args s ++ Jvm.arrayLocs frame_1_arrays args s ++ Jvm.staticLocs frame_1_statics s) 16 128 → Post tb e args s (.returned v) u) :
    ArmFor flags0 classFile x code maxLocals ret World_1 tables_1 room_1 Calls_1 rest_1 Pre_1 Post := by
  intro l hfl _ _ p e ha hc hk s m args below hf hA hF happ hP
  obtain ⟨hcalls, hrest, hpre⟩ := hP
  obtain ⟨-, -, -, hnamed, -, -, -, hat⟩ := (Spec.applies_iff hf).mp happ
  obtain ⟨hg, hn⟩ := and_e (Cond.before_iff.mp (show (Jvm.Cond.and given_1 narrow_1).before args s = true from hpre))
  obtain ⟨hg1, hg2⟩ := and_e hg
  obtain ⟨hg3, hg4⟩ := and_e hg2
  obtain ⟨hg5, hg6⟩ := and_e hg4
  obtain ⟨hg7, hg8⟩ := and_e hg6
  obtain ⟨w0, w1, w2, w3, rfl⟩ : ∃ w0 w1 w2 w3 : Value, args = #[w0, w1, w2, w3] := by
    have hs : args.size = 4 := by simpa [Cond.value, given_1] using hg1
    obtain ⟨L⟩ := args
    match L, hs with
    | [w0, w1, w2, w3], _ => exact ⟨w0, w1, w2, w3, rfl⟩
  have hw := fun d (hd : d ∈ tables_1) => atoms_spec (ws := Jvm.Cond.code x code maxLocals ret :: tables_1) hat d (List.mem_cons_of_mem _ hd)
  have hfit : Fit s := fun {y c} hc i hi => by
    obtain ⟨ha, rfl⟩ := Array.getElem?_eq_some_iff.mp hc
    have q := List.all_eq_true.mp ((Array.all_eq_true_iff_forall_mem.mp hF) _ (Array.getElem_mem ha)) i (List.mem_range.mpr hi)
    simpa [Array.getElem?_eq_getElem hi] using q
  obtain ⟨i0, ei0⟩ := isL_v hg3
  obtain rfl : w0 = (.long i0) := Option.some.inj ei0
  obtain ⟨i1, ei1⟩ := isL_v hg5
  obtain rfl : w1 = (.long i1) := Option.some.inj ei1
  obtain ⟨i2, ei2⟩ := isL_v hg7
  obtain rfl : w2 = (.long i2) := Option.some.inj ei2
  obtain ⟨i3, ei3⟩ := is_v hg8
  obtain rfl : w3 = (.int i3) := Option.some.inj ei3
  obtain ⟨n, o, h1, h2, h3, _, L, rfl, ⟨rfl, N⟩, hq⟩ := own_rm0 l s _ hw tables_1 i0 i1 i2 i3 s.heap s.heap.size (Nat.le_refl _) p e ha hc hk s m _ below hf ((Spec.applies_iff_loose hf).mp happ).1 ⟨rfl, State.Warmed39.refl s, rfl⟩ trivial
  refine ⟨n, _, h1, h2, h3, hpost _ _ _ _ _ _ ⟨Cond.after_iff.mpr rfl, Cond.after_iff.mpr (eq_i res_at (Term.int_eval (1)) (congrArg Value.int (own_law i0 i1 i2 i3))), trivial⟩ ⟨hq.1, hq.2.1, (hq.2.2.sift fun y hy => Or.inr (N y hy)).mono (by decide) (by decide)⟩⟩
theorem main_1_1 : Claimed_1_1 := own_comes fun _ _ _ _ _ _ h hF => ⟨h.1, hF⟩
theorem main_1_2 : Claimed_1_2 := own_comes fun _ _ _ _ _ _ h hF => ⟨h.2.1, hF⟩
end Jvm.Pilot.@@N@@
namespace Jvm.Pilot.@@N@@
open Jvm Jvm.ClassFile Sem Op Lib Jvm.Free Jvm.Stand Jvm.Pilot.@@N@@.Jvm.D
/-! MADE BY PROGRAM (witnessworld.py) out of the Statement's table words and the real class files: 8 classes; the members and pool entries that the words name. The judged class is class 1, her method 1. -/
namespace start1
open Jvm.ClassFile
def u (s : String) : CpInfo := .utf8 (stringToUtf16 s)
/-- a pool by its gaps: so many unusable entries, then the entry; so many at the end -/
def gap : Nat → List CpInfo → List CpInfo
  | 0, r => r
  | n + 1, r => .unusable :: gap n r
def poolList (es : List (Nat × CpInfo)) (last : Nat) : List CpInfo := es.foldr (fun e r => gap e.1 (e.2 :: r)) (gap last [])
def pool (es : List (Nat × CpInfo)) (last : Nat) : Array CpInfo := ⟨poolList es last⟩
def fileOf (pool : Array CpInfo) (this : Nat) (attrs : Array Attribute := #[]) (ms : Array MethodInfo := #[]) (fl : Nat := 33) (sup : Nat := 0) (ifs : Array Nat := #[]) (fds : Array FieldInfo := #[]) : ClassFile where
  minorVersion := 0
  majorVersion := 65
  constantPool := pool
  accessFlags := fl
  thisClass := this
  superClass := sup
  interfaces := ifs
  fields := fds
  methods := ms
  attributes := attrs
def plain (name : String) (sup : Option ClassId) : Class where
  name := name
  kind := .ordinary
  loader := none
  accessFlags := 33
  super := sup
  interfaces := #[]
  cf := none
  fields := #[]
  methods := #[]
  instanceTypes := #[]
  staticTypes := #[]
  resolved := #[]
  callSites := []
  init := .initialized
  statics := none
  mirror := none

def pool0 : Array CpInfo := pool [(5, u "<init>"), (0, u "()V"), (1, .class_ 10), (1, u "java/lang/Object")] 113

def k0c0 : Code := { maxStack := 0, maxLocals := 1, code := object_method_1_code, exceptionTable := #[], attributes := #[] }
def k0m0 : Method := { name := "<init>", desc := "()V", sig := { parameters := [], returnType := none }, accessFlags := 1, code := some k0c0 }
/-- java/lang/Object -/
def k0 : Class := { plain "java/lang/Object" none with
  accessFlags := 33
  interfaces := #[]
  cf := some (fileOf pool0 8 #[] #[{ accessFlags := 1, nameIndex := 5, descriptorIndex := 6, attributes := #[] }] 33 0 #[] #[])
  fields := #[]
  methods := #[k0m0]
  instanceTypes := #[]
  staticTypes := #[]
  resolved := Array.replicate 124 none
  statics := none }

def pool1 : Array CpInfo := pool [(2, .class_ 4), (1, u "java/lang/Object"), (0, u "<init>"), (0, u "()V"), (0, .methodref 8 9), (0, .class_ 10), (0, .nameAndType 11 12), (0, u "java/lang/Math"), (0, u "min"), (0, u "(JJ)J"), (0, .methodref 8 14), (0, .nameAndType 15 12), (0, u "max"), (2, .long 9223372036854775807), (1, .class_ 21), (0, u "com/example/vasto/vasto/cluster/TokenRange"), (0, .methodref 20 23), (0, .nameAndType 5 24), (0, u "(JJ)V"), (0, .long 9223372036854775808), (1, .methodref 20 28), (0, .nameAndType 29 30), (0, u "contains"), (0, u "(J)Z"), (0, .class_ 32), (0, u "com/example/vasto/vasto/cluster/TokenRangeContainsPinLaw"), (2, u "law"), (0, u "(JJJI)Z")] 3

def k1m0 : Method := { name := "<init>", desc := "()V", sig := { parameters := [], returnType := none }, accessFlags := 1, code := none }
def k1c1 : Code := { maxStack := 6, maxLocals := 16, code := code, exceptionTable := #[], attributes := #[] }
def k1m1 : Method := { name := "law", desc := "(JJJI)Z", sig := { parameters := [.long, .long, .long, .int], returnType := some .boolean }, accessFlags := 9, code := some k1c1 }
/-- com/example/vasto/vasto/cluster/TokenRangeContainsPinLaw -/
def k1 : Class := { plain "com/example/vasto/vasto/cluster/TokenRangeContainsPinLaw" (some 0) with
  accessFlags := 49
  interfaces := #[]
  cf := some (fileOf pool1 31 #[] #[{ accessFlags := 1, nameIndex := 5, descriptorIndex := 6, attributes := #[] }, { accessFlags := 9, nameIndex := 35, descriptorIndex := 36, attributes := #[] }] 49 2 #[] #[])
  fields := #[]
  methods := #[k1m0, k1m1]
  instanceTypes := #[]
  staticTypes := #[]
  resolved := Array.replicate 40 none
  statics := none }

def pool2 : Array CpInfo := pool [(1, .class_ 2), (0, u "java/lang/Math"), (1, .class_ 6), (1, u "java/lang/Object"), (0, u "<init>"), (0, u "()V"), (89, .class_ 100), (1, u "java/lang/Math$RandomNumberGeneratorHolder"), (20, u "(JJ)J"), (50, u "negativeZeroFloatBits"), (0, u "J"), (2, u "negativeZeroDoubleBits"), (21, u "max"), (2, u "min"), (43, u "$assertionsDisabled"), (0, u "Z"), (91, u "twoToTheDoubleScaleDown"), (0, u "D"), (4, u "twoToTheDoubleScaleUp"), (9, u "E"), (3, u "PI"), (2, u "TAU"), (2, u "DEGREES_TO_RADIANS"), (0, u "RADIANS_TO_DEGREES")] 94

def k2m0 : Method := { name := "<init>", desc := "()V", sig := { parameters := [], returnType := none }, accessFlags := 2, code := none }
def k2c1 : Code := { maxStack := 4, maxLocals := 4, code := jdk_29_method_66_code, exceptionTable := #[], attributes := #[] }
def k2m1 : Method := { name := "max", desc := "(JJ)J", sig := { parameters := [.long, .long], returnType := some .long }, accessFlags := 9, code := some k2c1 }
def k2c2 : Code := { maxStack := 4, maxLocals := 4, code := jdk_29_method_70_code, exceptionTable := #[], attributes := #[] }
def k2m2 : Method := { name := "min", desc := "(JJ)J", sig := { parameters := [.long, .long], returnType := some .long }, accessFlags := 9, code := some k2c2 }
/-- java/lang/Math -/
def k2 : Class := { plain "java/lang/Math" (some 0) with
  accessFlags := 49
  interfaces := #[]
  cf := some (fileOf pool2 1 #[.nestMembers #[98]] #[{ accessFlags := 2, nameIndex := 7, descriptorIndex := 8, attributes := #[] }, { accessFlags := 9, nameIndex := 198, descriptorIndex := 121, attributes := #[] }, { accessFlags := 9, nameIndex := 201, descriptorIndex := 121, attributes := #[] }] 49 4 #[] #[{ accessFlags := 25, nameIndex := 354, descriptorIndex := 339, attributes := #[] }, { accessFlags := 25, nameIndex := 358, descriptorIndex := 339, attributes := #[] }, { accessFlags := 25, nameIndex := 361, descriptorIndex := 339, attributes := #[] }, { accessFlags := 26, nameIndex := 364, descriptorIndex := 339, attributes := #[] }, { accessFlags := 26, nameIndex := 365, descriptorIndex := 339, attributes := #[] }, { accessFlags := 26, nameIndex := 172, descriptorIndex := 173, attributes := #[] }, { accessFlags := 26, nameIndex := 176, descriptorIndex := 173, attributes := #[] }, { accessFlags := 8, nameIndex := 344, descriptorIndex := 339, attributes := #[] }, { accessFlags := 8, nameIndex := 338, descriptorIndex := 339, attributes := #[] }, { accessFlags := 4120, nameIndex := 245, descriptorIndex := 246, attributes := #[] }])
  fields := #[{ name := "E", type := .double, accessFlags := 25, slot := 0, constantValue := 0 }, { name := "PI", type := .double, accessFlags := 25, slot := 1, constantValue := 0 }, { name := "TAU", type := .double, accessFlags := 25, slot := 2, constantValue := 0 }, { name := "DEGREES_TO_RADIANS", type := .double, accessFlags := 26, slot := 3, constantValue := 0 }, { name := "RADIANS_TO_DEGREES", type := .double, accessFlags := 26, slot := 4, constantValue := 0 }, { name := "negativeZeroFloatBits", type := .long, accessFlags := 26, slot := 5, constantValue := 0 }, { name := "negativeZeroDoubleBits", type := .long, accessFlags := 26, slot := 6, constantValue := 0 }, { name := "twoToTheDoubleScaleUp", type := .double, accessFlags := 8, slot := 7, constantValue := 0 }, { name := "twoToTheDoubleScaleDown", type := .double, accessFlags := 8, slot := 8, constantValue := 0 }, { name := "$assertionsDisabled", type := .boolean, accessFlags := 4120, slot := 9, constantValue := 0 }]
  methods := #[k2m0, k2m1, k2m2]
  instanceTypes := #[]
  staticTypes := #[.double, .double, .double, .double, .double, .long, .long, .double, .double, .boolean]
  resolved := Array.replicate 460 none
  statics := none }

def pool3 : Array CpInfo := pool [(1, .methodref 2 3), (0, .class_ 4), (0, .nameAndType 5 6), (0, u "java/lang/Object"), (0, u "<init>"), (0, u "()V"), (9, .fieldref 17 18), (0, .class_ 19), (0, .nameAndType 20 21), (0, u "com/example/vasto/vasto/cluster/TokenRange"), (0, u "left"), (0, u "J"), (0, .fieldref 17 23), (0, .nameAndType 24 21), (0, u "right"), (19, u "(JJ)V"), (2, u "FULL"), (0, u "Lcom/example/vasto/vasto/cluster/TokenRange;"), (4, u "contains"), (0, u "(J)Z")] 27

def k3c0 : Code := { maxStack := 6, maxLocals := 5, code := prog_7_method_1_code, exceptionTable := #[], attributes := #[] }
def k3m0 : Method := { name := "<init>", desc := "(JJ)V", sig := { parameters := [.long, .long], returnType := none }, accessFlags := 1, code := some k3c0 }
def k3c1 : Code := { maxStack := 4, maxLocals := 3, code := prog_7_method_4_code, exceptionTable := #[], attributes := #[] }
def k3m1 : Method := { name := "contains", desc := "(J)Z", sig := { parameters := [.long], returnType := some .boolean }, accessFlags := 1, code := some k3c1 }
/-- com/example/vasto/vasto/cluster/TokenRange -/
def k3 : Class := { plain "com/example/vasto/vasto/cluster/TokenRange" (some 0) with
  accessFlags := 33
  interfaces := #[]
  cf := some (fileOf pool3 17 #[] #[{ accessFlags := 1, nameIndex := 5, descriptorIndex := 44, attributes := #[] }, { accessFlags := 1, nameIndex := 53, descriptorIndex := 54, attributes := #[] }] 33 2 #[] #[{ accessFlags := 25, nameIndex := 47, descriptorIndex := 48, attributes := #[] }, { accessFlags := 18, nameIndex := 20, descriptorIndex := 21, attributes := #[] }, { accessFlags := 18, nameIndex := 24, descriptorIndex := 21, attributes := #[] }])
  fields := #[{ name := "FULL", type := (.object "com/example/vasto/vasto/cluster/TokenRange"), accessFlags := 25, slot := 0, constantValue := 0 }, { name := "left", type := .long, accessFlags := 18, slot := 0, constantValue := 0 }, { name := "right", type := .long, accessFlags := 18, slot := 1, constantValue := 0 }]
  methods := #[k3m0, k3m1]
  instanceTypes := #[.long, .long]
  staticTypes := #[(.object "com/example/vasto/vasto/cluster/TokenRange")]
  resolved := Array.replicate 82 none
  statics := none }

def pool4 : Array CpInfo := pool [(1, u "java/lang/Cloneable"), (0, .class_ 1), (0, u "java/lang/Object"), (0, .class_ 3)] 3

/-- java/lang/Cloneable -/
def k4 : Class := { plain "java/lang/Cloneable" (some 0) with
  accessFlags := 1537
  interfaces := #[]
  cf := some (fileOf pool4 2 #[] #[] 1537 4 #[] #[])
  fields := #[]
  methods := #[]
  instanceTypes := #[]
  staticTypes := #[]
  resolved := Array.replicate 8 none
  statics := none }

def pool5 : Array CpInfo := pool [(1, u "java/io/Serializable"), (0, .class_ 1), (0, u "java/lang/Object"), (0, .class_ 3)] 3

/-- java/io/Serializable -/
def k5 : Class := { plain "java/io/Serializable" (some 0) with
  accessFlags := 1537
  interfaces := #[]
  cf := some (fileOf pool5 2 #[] #[] 1537 4 #[] #[])
  fields := #[]
  methods := #[]
  instanceTypes := #[]
  staticTypes := #[]
  resolved := Array.replicate 8 none
  statics := none }

/-- the primitive byte -/
def k6 : Class := { plain "byte" none with kind := .primitive 'B', accessFlags := 0x411 }
/-- [B -/
def k7 : Class := { plain "[B" (some 0) with kind := .array 6 .byte, interfaces := #[4, 5], accessFlags := 1041 }

def heap : Heap := #[]
def classes : Array Class := #[k0, k1, k2, k3, k4, k5, k6, k7]
def interned : List (Array UInt16 × Addr) := []
def slotsUsed : Nat := 0
def theMethod : MethodId := ⟨1, 1⟩
def args0 : Array Value := #[.long 5, .long 6, .long 7, .int 1]
def aboutOver (below : List Frame) : State where
  vm := { classes := classes, interned := interned.toArray }
  heap := heap
  slotsUsed := slotsUsed
  threads := #[{ frames := .invoking theMethod args0 :: below }]
def below0 : List Frame := [.native { method := ⟨0, 0⟩, args := #[] }]
def about1 : State := aboutOver below0
def p0 : Program := .bare "" "" ""
def e0 : Env := launch0.env 0 0 0
theorem w_frames : about1.frames = Frame.invoking theMethod args0 :: below0 := rfl
set_option maxRecDepth 65536 in
theorem w_args : argsFit about1.vm theMethod args0 = true := by decide +kernel
set_option maxRecDepth 65536 in
theorem w_heap : heapFits about1 = true := by decide +kernel
set_option maxRecDepth 65536 in
theorem w_runnable : about1.curStatus? = some .runnable := by decide +kernel
set_option maxRecDepth 65536 in
theorem w_alone : about1.alone = true := by decide +kernel
set_option maxRecDepth 65536 in
theorem w_named : about1.methodNamed? x = some theMethod := by decide +kernel
set_option maxRecDepth 65536 in
theorem w_hears : about1.hears theMethod below0 = true := by decide +kernel
set_option maxRecDepth 65536 in
theorem w_ripe : about1.ripe theMethod args0 below0 = true := by decide +kernel
theorem w_running : about1.status = .running := rfl
set_option maxRecDepth 65536 in
theorem w_room : about1.hasRoom e0.platform room_1 = true :=
  launch0.hasRoom_least _ room_1 (by decide +kernel) (by decide +kernel) (by decide +kernel) (by decide +kernel) (by decide +kernel) (by decide +kernel)
theorem allAtoms_all (ts : List Jvm.Cond) (a : Array Jvm.Value) (st : Jvm.State) : (allAtoms ts).before a st = ts.all (fun c => c.before a st) := by
  induction ts with
  | nil => rfl
  | cons c t ih =>
    show (Jvm.Cond.and c (allAtoms t)).before a st = _
    rw [Jvm.Cond.before_and, ih, List.all_cons]
def words1 : List Jvm.Cond := Jvm.Cond.code x code maxLocals ret :: tables_1
/-- a 'code' word, met by the world's own term for the bytes: nothing is compared byte by byte -/
theorem code_word {y : MethodName} {bytes : ByteArray} {mx : Nat} {rt : Option FieldType} {a : Array Value} {s : State} {m : MethodId} {meth : Method} {c : Code} (h1 : s.methodNamed? y = some m) (h2 : s.vm.method? m = some meth) (h3 : meth.code = some c) (h4 : c.code = bytes)
    (h5 : (c.maxLocals == mx && c.exceptionTable.isEmpty && decide (c.maxStack ≤ mostOperands) && decide (meth.sig.returnType = rt) && !meth.locks && decide (parseMethodDescriptor y.desc = some meth.sig)) = true) : (Jvm.Cond.code y bytes mx rt).before a s = true := by
  simp only [Bool.and_eq_true, beq_iff_eq, Bool.not_eq_true', decide_eq_true_eq] at h5
  obtain ⟨⟨⟨⟨⟨g1, g2⟩, g3⟩, g4⟩, g5⟩, g6⟩ := h5
  simp [Cond.before, Cond.holds, Cond.value, h1, h2, h3, h4, g1, g2, g3, g4, g5, g6]
def isCode : Jvm.Cond → Bool
  | .code _ _ _ _ => true
  | _ => false
theorem all_split {L : List Jvm.Cond} {P : Jvm.Cond → Bool} (h1 : L.all (fun c => isCode c || P c) = true) (h2 : ∀ c ∈ L.filter isCode, P c = true) : L.all P = true := by
  refine List.all_eq_true.mpr fun c hc => ?_
  have h := List.all_eq_true.mp h1 c hc
  rcases Bool.eq_false_or_eq_true (isCode c) with hi | hi
  · exact h2 c (List.mem_filter.mpr ⟨hc, hi⟩)
  · simpa [hi] using h
set_option maxRecDepth 65536 in
theorem w_c0 : (Jvm.Cond.code x code maxLocals ret).before args0 about1 = true := code_word (m := ⟨1, 1⟩) (meth := k1m1) (c := k1c1) (by decide +kernel) rfl rfl rfl (by decide +kernel)
set_option maxRecDepth 65536 in
theorem w_c1 : (Jvm.Cond.code ({ cls := "java/lang/Math", name := "min", desc := "(JJ)J" } : Jvm.MethodName) jdk_29_method_70_code (4 : Nat) (Option.some Jvm.ClassFile.FieldType.long)).before args0 about1 = true := code_word (m := ⟨2, 2⟩) (meth := k2m2) (c := k2c2) (by decide +kernel) rfl rfl rfl (by decide +kernel)
set_option maxRecDepth 65536 in
theorem w_c2 : (Jvm.Cond.code ({ cls := "java/lang/Math", name := "max", desc := "(JJ)J" } : Jvm.MethodName) jdk_29_method_66_code (4 : Nat) (Option.some Jvm.ClassFile.FieldType.long)).before args0 about1 = true := code_word (m := ⟨2, 1⟩) (meth := k2m1) (c := k2c1) (by decide +kernel) rfl rfl rfl (by decide +kernel)
set_option maxRecDepth 65536 in
theorem w_c3 : (Jvm.Cond.code ({ cls := "com/example/vasto/vasto/cluster/TokenRange", name := "<init>", desc := "(JJ)V" } : Jvm.MethodName) prog_7_method_1_code (5 : Nat) (Option.none : Option Jvm.ClassFile.FieldType)).before args0 about1 = true := code_word (m := ⟨3, 0⟩) (meth := k3m0) (c := k3c0) (by decide +kernel) rfl rfl rfl (by decide +kernel)
set_option maxRecDepth 65536 in
theorem w_c4 : (Jvm.Cond.code ({ cls := "java/lang/Object", name := "<init>", desc := "()V" } : Jvm.MethodName) object_method_1_code (1 : Nat) (Option.none : Option Jvm.ClassFile.FieldType)).before args0 about1 = true := code_word (m := ⟨0, 0⟩) (meth := k0m0) (c := k0c0) (by decide +kernel) rfl rfl rfl (by decide +kernel)
set_option maxRecDepth 65536 in
theorem w_c5 : (Jvm.Cond.code ({ cls := "com/example/vasto/vasto/cluster/TokenRange", name := "contains", desc := "(J)Z" } : Jvm.MethodName) prog_7_method_4_code (3 : Nat) (Option.some Jvm.ClassFile.FieldType.boolean)).before args0 about1 = true := code_word (m := ⟨3, 1⟩) (meth := k3m1) (c := k3c1) (by decide +kernel) rfl rfl rfl (by decide +kernel)
def codes1 : List Jvm.Cond := [Jvm.Cond.code x code maxLocals ret, Jvm.Cond.code ({ cls := "java/lang/Math", name := "min", desc := "(JJ)J" } : Jvm.MethodName) jdk_29_method_70_code (4 : Nat) (Option.some Jvm.ClassFile.FieldType.long), Jvm.Cond.code ({ cls := "java/lang/Math", name := "max", desc := "(JJ)J" } : Jvm.MethodName) jdk_29_method_66_code (4 : Nat) (Option.some Jvm.ClassFile.FieldType.long), Jvm.Cond.code ({ cls := "com/example/vasto/vasto/cluster/TokenRange", name := "<init>", desc := "(JJ)V" } : Jvm.MethodName) prog_7_method_1_code (5 : Nat) (Option.none : Option Jvm.ClassFile.FieldType), Jvm.Cond.code ({ cls := "java/lang/Object", name := "<init>", desc := "()V" } : Jvm.MethodName) object_method_1_code (1 : Nat) (Option.none : Option Jvm.ClassFile.FieldType), Jvm.Cond.code ({ cls := "com/example/vasto/vasto/cluster/TokenRange", name := "contains", desc := "(J)Z" } : Jvm.MethodName) prog_7_method_4_code (3 : Nat) (Option.some Jvm.ClassFile.FieldType.boolean)]
set_option maxRecDepth 65536 in
theorem codes_eq : words1.filter isCode = codes1 := rfl
theorem w_codes : ∀ c ∈ words1.filter isCode, c.before args0 about1 = true := by
  rw [codes_eq]
  intro c hc
  simp only [codes1, List.mem_cons, List.not_mem_nil, or_false] at hc
  rcases hc with rfl | rfl | rfl | rfl | rfl | rfl
  · exact w_c0
  · exact w_c1
  · exact w_c2
  · exact w_c3
  · exact w_c4
  · exact w_c5
set_option maxRecDepth 65536 in
theorem w_t1 : (words1.take 24).all (fun c => isCode c || c.before args0 about1) = true := by decide +kernel
set_option maxRecDepth 65536 in
theorem w_t2 : (words1.drop 24).all (fun c => isCode c || c.before args0 about1) = true := by decide +kernel
theorem w_tables : (allAtoms (Jvm.Cond.code x code maxLocals ret :: tables_1)).before args0 about1 = true := by
  rw [allAtoms_all]
  show words1.all (fun c => c.before args0 about1) = true
  refine all_split ?_ w_codes
  rw [← List.take_append_drop 24 words1, List.all_append, w_t1, w_t2]
  rfl
set_option maxRecDepth 65536 in
theorem w_case : (Jvm.Cond.and given_1 narrow_1).before args0 about1 = true := by decide +kernel
theorem w_applies : (headSpec (Jvm.Cond.code x code maxLocals ret :: tables_1) room_1).applies x e0.platform about1 = true :=
  (Spec.applies_iff w_frames).mpr ⟨w_running, w_runnable, w_alone, w_named, w_hears, w_ripe, w_room, w_tables⟩
theorem atStart : AtStart classFile x code maxLocals ret World_1 tables_1 room_1 Calls_1 rest_1 Pre_1 launch0 p0 e0 about1 theMethod args0 below0 :=
  ⟨lists_1, trivial, launch0.admits_env _ _ _, launch0.least_env, fairChoices_fair.cas, fairChoices_fair.clock, w_frames, w_args, w_heap, w_applies, trivial, trivial, w_case⟩
end start1
theorem witness_1 : WitnessClaimed_1 := ⟨start1.p0, start1.e0, start1.about1, start1.theMethod, start1.args0, start1.below0, start1.atStart⟩
end Jvm.Pilot.@@N@@
