import JvmDerived
import JvmDerived.Pilot.@@N@@Statement
import JvmDerived.Pilot.@@N@@Code
set_option linter.unusedVariables false
set_option linter.unusedSimpArgs false
namespace Jvm.Pilot.@@N@@
open Jvm Jvm.ClassFile Sem Op Lib Jvm.Free Jvm.Stand Jvm.LawKit Jvm.RoadKit Bundle Jvm.Pilot.@@N@@.Jvm.D
/-- from the frame g at T the run reaches a state of which P holds -/
def own_Go (p : Program) (e : Env) (below : List Frame) (P : State → Outcome → Prop) (T : State) (g : JFrame) : Prop := ∃ t o, Steps p.tables e below (T.setTop g) t ∧ P t o
/-- the run has left the method: what it returned, the heap and the places written are as Q says -/
def own_P (s : State) (below : List Frame) (R : Room) (Q : Option Value → Heap → List Loc → Prop) (t : State) (o : Outcome) : Prop := t.status = .running ∧ Ended t below o ∧ ∃ v L, o = .returned v ∧ Q v t.heap L ∧ FrameEnd s o t L R.cells R.slots
section OwnKit
variable {p : Program} {l : Launch} {e : Env} {R : Room} {s : State} {m : MethodId} {args : Array Value} {below : List Frame} {meth : Method} {c : Code} {T T' : State} {locs : List Loc} {cells slots : Nat} {P : State → Outcome → Prop} {g g' : JFrame}
theorem own_by (k : ∀ t, Steps p.tables e below (T'.setTop g') t → Steps p.tables e below (T.setTop g) t) (h : own_Go p e below P T' g') : own_Go p e below P T g := by
  obtain ⟨t, o, st, q⟩ := h
  exact ⟨t, o, k t st, q⟩
theorem own_via (k : Steps p.tables e below (T.setTop g) (T'.setTop g')) (h : own_Go p e below P T' g') : own_Go p e below P T g := own_by (fun _ st => k.trans st) h
theorem own_in (q : g = g') (h : own_Go p e below P T g') : own_Go p e below P T g := q ▸ h
theorem own_out {v : Option Value} {Q : Option Value → Heap → List Loc → Prop} (X : Stand p l e R s m args below meth c T locs cells slots) (hv : meth.sig.returnType = none → v = none) (hlk : meth.locks = false) (hc : cells ≤ R.cells) (hs : slots ≤ R.slots) (q : Q v T.heap locs)
    (k : ∀ fs, (∀ (f : JFrame) (acts : List Action), f.method = m → f.locked = none → f.entered = [] → (doReturn e (T.setTop f) acts v).1 = T.setFrames fs) → Steps p.tables e below (T.setTop g) (T.setFrames fs)) : own_Go p e below (own_P s below R Q) T g := by
  obtain ⟨fs, hr, hrun, hended, hW, hsame⟩ := X.leave (v := v) hv hlk
  exact ⟨_, _, k fs hr, hrun, hended, _, _, rfl, q, ⟨_, rfl⟩, hW, hsame.mono hc hs⟩
theorem own_some {t : FieldType} {w : Value} (h : meth.sig.returnType = some t) : meth.sig.returnType = none → some w = none := fun q => by rw [h] at q; cases q
theorem own_retN {pc : Nat} {Ls : Array Slot} {z : Int32} {t : FieldType} {rest : List Value} {Q : Option Value → Heap → List Loc → Prop} (X : Stand p l e R s m args below meth c T locs cells slots) (hx : p.tables.exec = Jvm.exec) (hret : meth.sig.returnType = some t) (ht : t = .boolean ∨ t = .byte ∨ t = .char ∨ t = .short)
    (hd : decode c.code pc = .ok (.ireturn, 1)) (hlk : meth.locks = false) (hc : cells ≤ R.cells) (hs : slots ≤ R.slots) (q : Q (some (.int (nar t z))) T.heap locs) : own_Go p e below (own_P s below R Q) T (mkF m pc Ls (.int z :: rest)) :=
  own_out X (own_some hret) hlk hc hs q fun _ hr => retN X hx hret ht hd hr
theorem own_retI {pc : Nat} {Ls : Array Slot} {z : Int32} {rest : List Value} {Q : Option Value → Heap → List Loc → Prop} (X : Stand p l e R s m args below meth c T locs cells slots) (hx : p.tables.exec = Jvm.exec) (hret : meth.sig.returnType = some .int)
    (hd : decode c.code pc = .ok (.ireturn, 1)) (hlk : meth.locks = false) (hc : cells ≤ R.cells) (hs : slots ≤ R.slots) (q : Q (some (.int z)) T.heap locs) : own_Go p e below (own_P s below R Q) T (mkF m pc Ls (.int z :: rest)) :=
  own_out X (own_some hret) hlk hc hs q fun _ hr => retOut X hx hret rfl (Or.inl ⟨rfl, Or.inl rfl, _, rfl⟩) hd hr
theorem own_retJ {pc : Nat} {Ls : Array Slot} {z : Int64} {rest : List Value} {Q : Option Value → Heap → List Loc → Prop} (X : Stand p l e R s m args below meth c T locs cells slots) (hx : p.tables.exec = Jvm.exec) (hret : meth.sig.returnType = some .long)
    (hd : decode c.code pc = .ok (.lreturn, 1)) (hlk : meth.locks = false) (hc : cells ≤ R.cells) (hs : slots ≤ R.slots) (q : Q (some (.long z)) T.heap locs) : own_Go p e below (own_P s below R Q) T (mkF m pc Ls (.long z :: rest)) :=
  own_out X (own_some hret) hlk hc hs q fun _ hr => retOut X hx hret rfl (Or.inr (Or.inl ⟨rfl, rfl, _, rfl⟩)) hd hr
theorem own_retR {pc : Nat} {Ls : Array Slot} {w : Value} {t : FieldType} {rest : List Value} {Q : Option Value → Heap → List Loc → Prop} (X : Stand p l e R s m args below meth c T locs cells slots) (hx : p.tables.exec = Jvm.exec) (hret : meth.sig.returnType = some t) (ht : t.isReference = true) (hw : w.isRef = true) (hn : narrow t w = w)
    (hd : decode c.code pc = .ok (.areturn, 1)) (hlk : meth.locks = false) (hc : cells ≤ R.cells) (hs : slots ≤ R.slots) (q : Q (some w) T.heap locs) : own_Go p e below (own_P s below R Q) T (mkF m pc Ls (w :: rest)) :=
  own_out X (own_some hret) hlk hc hs q fun _ hr => retOut X hx hret hn (Or.inr (Or.inr (Or.inr (Or.inr ⟨rfl, ht, hw⟩)))) hd hr
theorem own_ret0 {pc : Nat} {Ls : Array Slot} {Q : Option Value → Heap → List Loc → Prop} (X : Stand p l e R s m args below meth c T locs cells slots) (hx : p.tables.exec = Jvm.exec) (hret : meth.sig.returnType = none)
    (hd : decode c.code pc = .ok (.return_, 1)) (hlk : meth.locks = false) (hc : cells ≤ R.cells) (hs : slots ≤ R.slots) (q : Q none T.heap locs) : own_Go p e below (own_P s below R Q) T (mkF m pc Ls []) :=
  own_out X (fun _ => rfl) hlk hc hs q fun _ hr => X.returnOut hx hret hd hr
theorem own_fitsR {C : String} {v : Value} (h : v.isRef = true) : fits (.object C) v = true := by
  cases v <;> first | rfl | (simp [Value.isRef] at h)
theorem own_tab (xs : List Int32) (d : Int32) (k : Nat) : (xs.map Value.int).getD k (.int d) = .int (xs.getD k d) := by
  simp only [List.getD_eq_getElem?_getD, List.getElem?_map]
  cases xs[k]? <;> rfl
end OwnKit
theorem own_len {s : State} {args : Array Value} {t : Term} {a : Addr} {cl : Cell} {ty : FieldType} {z : Int32} (ht : t.eval args s none [] s = some (.ref a)) (A : Arr s s.heap a cl ty) (h : (Term.length t).eval args s none [] s = some (.int z)) : cl.slots.size < 2 ^ 31 ∧ cl.slots.size.toInt32 = z := by
  have hl : cl.slots.size < 2 ^ 31 := Jvm.Free.SBG.length_lt ht (A.fin (Vm.Alike.refl _)) h
  exact ⟨hl, Value.int.inj (Option.some.inj ((len_f ht (A.fin (Vm.Alike.refl _)) hl).symm.trans h))⟩
theorem own_elem {s : State} {args : Array Value} {t u : Term} {a w : Addr} {cl : Cell} {ty : FieldType} {j : Int32} (ht : t.eval args s none [] s = some (.ref a)) (hu : u.eval args s none [] s = some (.ref w)) (A : Arr s s.heap a cl ty) (h : (Cond.eq (.elem t (.int j)) u).value args s none s [] = some true) : cl.slots[j.toNatClampNeg]? = some (.ref w) := by
  obtain ⟨x, y, e1, e2, k1, k2⟩ := cmp_v (Or.inl h)
  cases hu.symm.trans e2
  have hx : x.isRef = true := k2.2
  have e := gotT (eq_R e1 e2 hx rfl) h
  rw [e] at e1
  exact (elem_in e1 ht (Term.int_eval j) A.1).2
theorem d2_0 : decode jdk_29_method_70_code 0 = .ok (.lload_n 0, 1) := by decide +kernel
theorem d2_1 : decode jdk_29_method_70_code 1 = .ok (.lload_n 2, 1) := by decide +kernel
theorem d2_2 : decode jdk_29_method_70_code 2 = .ok (.lcmp, 1) := by decide +kernel
theorem d2_3 : decode jdk_29_method_70_code 3 = .ok (.ifCond .gt 7, 3) := by decide +kernel
theorem d2_10 : decode jdk_29_method_70_code 10 = .ok (.lload_n 2, 1) := by decide +kernel
theorem d2_6 : decode jdk_29_method_70_code 6 = .ok (.lload_n 0, 1) := by decide +kernel
theorem d2_7 : decode jdk_29_method_70_code 7 = .ok (.goto 4, 3) := by decide +kernel
theorem d2_11 : decode jdk_29_method_70_code 11 = .ok (.lreturn, 1) := by decide +kernel
def own_F2 (q2_0 : Int64) (q2_1 : Int64) : Int64 := (if q2_1 < q2_0 then q2_1 else q2_0)
theorem own_ef2 (m : MethodId) (x0 : Int64) (x1 : Int64) : entryFrame m #[(.long x0), (.long x1)] 4 = mkF m 0 #[.val (.long x0), .second, .val (.long x1), .second] [] := by first | (simp [entryFrame, mkF, argsToLocals, Value.category]; done) | rfl
def own_Q2 (r : Int64) (h0 : Heap) (n0 : Nat) (v : Option Value) (h : Heap) (L : List Loc) : Prop := v = some (.long r) ∧ Fr n0 L ∧ h = h0
set_option maxRecDepth 65536 in
set_option maxHeartbeats 40000000 in
theorem own_rm2 (l : Launch) (Z : State) (a0 : Array Value) (hw : ∀ d ∈ tables_1, d.before a0 Z = true) (ws : List Jvm.Cond) (q2_0 : Int64) (q2_1 : Int64) (h0 : Heap) (n0 : Nat) (Z0 : n0 ≤ h0.size) :
    MetFree l (⟨"java/lang/Math", "min", "(JJ)J"⟩ : MethodName) (head1 (Jvm.Cond.code (⟨"java/lang/Math", "min", "(JJ)J"⟩ : MethodName) jdk_29_method_70_code 4 (some .long) :: ws) ({ frames := 0, cells := 0, slots := 0, locals := 0 } : Room)) (fun a U => a = #[(.long q2_0), (.long q2_1)] ∧ Z.Warmed39 U.vm ∧ U.heap = h0) (fun _ _ _ _ _ => True) (fun _ U o U' => ∃ v L, o = .returned v ∧ own_Q2 (own_F2 q2_0 q2_1) h0 n0 v U'.heap L ∧ FrameEnd U o U' L ({ frames := 0, cells := 0, slots := 0, locals := 0 } : Room).cells ({ frames := 0, cells := 0, slots := 0, locals := 0 } : Room).slots) := by
  refine MetFree.of_bodySF (Jvm.Free.JP.mathPlain rfl (by decide +kernel)) hisR ?_
  intro p e s m args below meth c s₁ Bd hml0 hP hK
  obtain ⟨rfl, hZ, hh⟩ := hP
  have hx := Bd.exec
  have hby := Bd.bytes
  have hlk : meth.locks = false := BodyLoose.notSynchronized Bd
  have hml : c.maxLocals = 4 := hml0
  have hown : s.vm.findClass "java/lang/Math" = some m.cls := findClass_of_methodNamed Bd.named
  have hnm := (name_of_methodNamed Bd.named Bd.method).1
  have X0 : Stand p l e ({ frames := 0, cells := 0, slots := 0, locals := 0 } : Room) s m #[(.long q2_0), (.long q2_1)] below meth c s₁ [] 0 0 := Stand.of_body Bd
  have e0 : s₁.heap = h0 := by rw [← hh, Bd.state]; rfl
  have N0 := Fr.nil n0
  show own_Go p e below (own_P s below ({ frames := 0, cells := 0, slots := 0, locals := 0 } : Room) (own_Q2 (own_F2 q2_0 q2_1) h0 n0)) s₁ (entryFrame m #[(.long q2_0), (.long q2_1)] 4)
  refine own_in (own_ef2 m q2_0 q2_1) ?_
  refine own_by (T' := s₁) (g' := (mkF m 3 #[.val (.long q2_0), .second, .val (.long q2_1), .second] [(.int (lcmpW q2_0 q2_1))])) (fun t k => ?_) ?_
  · show Steps p.tables e below (s₁.setTop (mkF m 0 #[.val (.long q2_0), .second, .val (.long q2_1), .second] [])) t
    refine XS.lloadN X0.here hx rfl (hb hby d2_0) rfl ?_
    show Steps p.tables e below (s₁.setTop (mkF m 1 #[.val (.long q2_0), .second, .val (.long q2_1), .second] [(.long q2_0)])) t
    refine XS.lloadN X0.here hx rfl (hb hby d2_1) rfl ?_
    show Steps p.tables e below (s₁.setTop (mkF m 2 #[.val (.long q2_0), .second, .val (.long q2_1), .second] [(.long q2_1), (.long q2_0)])) t
    refine XS.lcmp X0.here hx rfl (hb hby d2_2) rfl ?_
    show Steps p.tables e below (s₁.setTop (mkF m 3 #[.val (.long q2_0), .second, .val (.long q2_1), .second] [(.int (lcmpW q2_0 q2_1))])) t
    exact k
  by_cases hc1 : q2_1 < q2_0
  · skip
    refine own_by (T' := s₁) (g' := (mkF m 11 #[.val (.long q2_0), .second, .val (.long q2_1), .second] [(.long q2_1)])) (fun t k => ?_) ?_
    · show Steps p.tables e below (s₁.setTop (mkF m 3 #[.val (.long q2_0), .second, .val (.long q2_1), .second] [(.int (lcmpW q2_0 q2_1))])) t
      refine XS.ifYes X0.here hx rfl (pc0 := 3) (pc' := 10) rfl (hb hby d2_3) rfl ((if0 _ _).trans (tlt ((lw_gt _ _).mpr hc1)).2.2.1) (by decide) (by decide) ?_
      show Steps p.tables e below (s₁.setTop (mkF m 10 #[.val (.long q2_0), .second, .val (.long q2_1), .second] [])) t
      refine XS.lloadN X0.here hx rfl (hb hby d2_10) rfl ?_
      show Steps p.tables e below (s₁.setTop (mkF m 11 #[.val (.long q2_0), .second, .val (.long q2_1), .second] [(.long q2_1)])) t
      exact k
    rw [show own_F2 q2_0 q2_1 = q2_1 from ((if_pos hc1).trans rfl)]
    exact own_retJ X0 hx Bd.returns (hb hby d2_11) hlk (by decide) (by decide) ⟨rfl, N0, e0⟩
  · skip
    refine own_by (T' := s₁) (g' := (mkF m 11 #[.val (.long q2_0), .second, .val (.long q2_1), .second] [(.long q2_0)])) (fun t k => ?_) ?_
    · show Steps p.tables e below (s₁.setTop (mkF m 3 #[.val (.long q2_0), .second, .val (.long q2_1), .second] [(.int (lcmpW q2_0 q2_1))])) t
      refine XS.ifNo X0.here hx rfl (hb hby d2_3) rfl ((if0 _ _).trans (flt (fun q => hc1 ((lw_gt _ _).mp q))).2.2.1) ?_
      show Steps p.tables e below (s₁.setTop (mkF m 6 #[.val (.long q2_0), .second, .val (.long q2_1), .second] [])) t
      refine XS.lloadN X0.here hx rfl (hb hby d2_6) rfl ?_
      show Steps p.tables e below (s₁.setTop (mkF m 7 #[.val (.long q2_0), .second, .val (.long q2_1), .second] [(.long q2_0)])) t
      refine XS.goto X0.here hx rfl (pc0 := 7) (pc' := 11) rfl (hb hby d2_7) (by decide) (by decide) ?_
      show Steps p.tables e below (s₁.setTop (mkF m 11 #[.val (.long q2_0), .second, .val (.long q2_1), .second] [(.long q2_0)])) t
      exact k
    rw [show own_F2 q2_0 q2_1 = q2_0 from ((if_neg hc1).trans rfl)]
    exact own_retJ X0 hx Bd.returns (hb hby d2_11) hlk (by decide) (by decide) ⟨rfl, N0, e0⟩
theorem d4_0 : decode jdk_29_method_66_code 0 = .ok (.lload_n 0, 1) := by decide +kernel
theorem d4_1 : decode jdk_29_method_66_code 1 = .ok (.lload_n 2, 1) := by decide +kernel
theorem d4_2 : decode jdk_29_method_66_code 2 = .ok (.lcmp, 1) := by decide +kernel
theorem d4_3 : decode jdk_29_method_66_code 3 = .ok (.ifCond .lt 7, 3) := by decide +kernel
theorem d4_10 : decode jdk_29_method_66_code 10 = .ok (.lload_n 2, 1) := by decide +kernel
theorem d4_6 : decode jdk_29_method_66_code 6 = .ok (.lload_n 0, 1) := by decide +kernel
theorem d4_7 : decode jdk_29_method_66_code 7 = .ok (.goto 4, 3) := by decide +kernel
theorem d4_11 : decode jdk_29_method_66_code 11 = .ok (.lreturn, 1) := by decide +kernel
def own_F4 (q4_0 : Int64) (q4_1 : Int64) : Int64 := (if q4_0 < q4_1 then q4_1 else q4_0)
theorem own_ef4 (m : MethodId) (x0 : Int64) (x1 : Int64) : entryFrame m #[(.long x0), (.long x1)] 4 = mkF m 0 #[.val (.long x0), .second, .val (.long x1), .second] [] := by first | (simp [entryFrame, mkF, argsToLocals, Value.category]; done) | rfl
def own_Q4 (r : Int64) (h0 : Heap) (n0 : Nat) (v : Option Value) (h : Heap) (L : List Loc) : Prop := v = some (.long r) ∧ Fr n0 L ∧ h = h0
set_option maxRecDepth 65536 in
set_option maxHeartbeats 40000000 in
theorem own_rm4 (l : Launch) (Z : State) (a0 : Array Value) (hw : ∀ d ∈ tables_1, d.before a0 Z = true) (ws : List Jvm.Cond) (q4_0 : Int64) (q4_1 : Int64) (h0 : Heap) (n0 : Nat) (Z0 : n0 ≤ h0.size) :
    MetFree l (⟨"java/lang/Math", "max", "(JJ)J"⟩ : MethodName) (head1 (Jvm.Cond.code (⟨"java/lang/Math", "max", "(JJ)J"⟩ : MethodName) jdk_29_method_66_code 4 (some .long) :: ws) ({ frames := 0, cells := 0, slots := 0, locals := 0 } : Room)) (fun a U => a = #[(.long q4_0), (.long q4_1)] ∧ Z.Warmed39 U.vm ∧ U.heap = h0) (fun _ _ _ _ _ => True) (fun _ U o U' => ∃ v L, o = .returned v ∧ own_Q4 (own_F4 q4_0 q4_1) h0 n0 v U'.heap L ∧ FrameEnd U o U' L ({ frames := 0, cells := 0, slots := 0, locals := 0 } : Room).cells ({ frames := 0, cells := 0, slots := 0, locals := 0 } : Room).slots) := by
  refine MetFree.of_bodySF (Jvm.Free.JP.mathPlain rfl (by decide +kernel)) hisR ?_
  intro p e s m args below meth c s₁ Bd hml0 hP hK
  obtain ⟨rfl, hZ, hh⟩ := hP
  have hx := Bd.exec
  have hby := Bd.bytes
  have hlk : meth.locks = false := BodyLoose.notSynchronized Bd
  have hml : c.maxLocals = 4 := hml0
  have hown : s.vm.findClass "java/lang/Math" = some m.cls := findClass_of_methodNamed Bd.named
  have hnm := (name_of_methodNamed Bd.named Bd.method).1
  have X0 : Stand p l e ({ frames := 0, cells := 0, slots := 0, locals := 0 } : Room) s m #[(.long q4_0), (.long q4_1)] below meth c s₁ [] 0 0 := Stand.of_body Bd
  have e0 : s₁.heap = h0 := by rw [← hh, Bd.state]; rfl
  have N0 := Fr.nil n0
  show own_Go p e below (own_P s below ({ frames := 0, cells := 0, slots := 0, locals := 0 } : Room) (own_Q4 (own_F4 q4_0 q4_1) h0 n0)) s₁ (entryFrame m #[(.long q4_0), (.long q4_1)] 4)
  refine own_in (own_ef4 m q4_0 q4_1) ?_
  refine own_by (T' := s₁) (g' := (mkF m 3 #[.val (.long q4_0), .second, .val (.long q4_1), .second] [(.int (lcmpW q4_0 q4_1))])) (fun t k => ?_) ?_
  · show Steps p.tables e below (s₁.setTop (mkF m 0 #[.val (.long q4_0), .second, .val (.long q4_1), .second] [])) t
    refine XS.lloadN X0.here hx rfl (hb hby d4_0) rfl ?_
    show Steps p.tables e below (s₁.setTop (mkF m 1 #[.val (.long q4_0), .second, .val (.long q4_1), .second] [(.long q4_0)])) t
    refine XS.lloadN X0.here hx rfl (hb hby d4_1) rfl ?_
    show Steps p.tables e below (s₁.setTop (mkF m 2 #[.val (.long q4_0), .second, .val (.long q4_1), .second] [(.long q4_1), (.long q4_0)])) t
    refine XS.lcmp X0.here hx rfl (hb hby d4_2) rfl ?_
    show Steps p.tables e below (s₁.setTop (mkF m 3 #[.val (.long q4_0), .second, .val (.long q4_1), .second] [(.int (lcmpW q4_0 q4_1))])) t
    exact k
  by_cases hc2 : q4_0 < q4_1
  · skip
    refine own_by (T' := s₁) (g' := (mkF m 11 #[.val (.long q4_0), .second, .val (.long q4_1), .second] [(.long q4_1)])) (fun t k => ?_) ?_
    · show Steps p.tables e below (s₁.setTop (mkF m 3 #[.val (.long q4_0), .second, .val (.long q4_1), .second] [(.int (lcmpW q4_0 q4_1))])) t
      refine XS.ifYes X0.here hx rfl (pc0 := 3) (pc' := 10) rfl (hb hby d4_3) rfl ((if0 _ _).trans (tlt ((lw_lt _ _).mpr hc2)).1) (by decide) (by decide) ?_
      show Steps p.tables e below (s₁.setTop (mkF m 10 #[.val (.long q4_0), .second, .val (.long q4_1), .second] [])) t
      refine XS.lloadN X0.here hx rfl (hb hby d4_10) rfl ?_
      show Steps p.tables e below (s₁.setTop (mkF m 11 #[.val (.long q4_0), .second, .val (.long q4_1), .second] [(.long q4_1)])) t
      exact k
    rw [show own_F4 q4_0 q4_1 = q4_1 from ((if_pos hc2).trans rfl)]
    exact own_retJ X0 hx Bd.returns (hb hby d4_11) hlk (by decide) (by decide) ⟨rfl, N0, e0⟩
  · skip
    refine own_by (T' := s₁) (g' := (mkF m 11 #[.val (.long q4_0), .second, .val (.long q4_1), .second] [(.long q4_0)])) (fun t k => ?_) ?_
    · show Steps p.tables e below (s₁.setTop (mkF m 3 #[.val (.long q4_0), .second, .val (.long q4_1), .second] [(.int (lcmpW q4_0 q4_1))])) t
      refine XS.ifNo X0.here hx rfl (hb hby d4_3) rfl ((if0 _ _).trans (flt (fun q => hc2 ((lw_lt _ _).mp q))).1) ?_
      show Steps p.tables e below (s₁.setTop (mkF m 6 #[.val (.long q4_0), .second, .val (.long q4_1), .second] [])) t
      refine XS.lloadN X0.here hx rfl (hb hby d4_6) rfl ?_
      show Steps p.tables e below (s₁.setTop (mkF m 7 #[.val (.long q4_0), .second, .val (.long q4_1), .second] [(.long q4_0)])) t
      refine XS.goto X0.here hx rfl (pc0 := 7) (pc' := 11) rfl (hb hby d4_7) (by decide) (by decide) ?_
      show Steps p.tables e below (s₁.setTop (mkF m 11 #[.val (.long q4_0), .second, .val (.long q4_1), .second] [(.long q4_0)])) t
      exact k
    rw [show own_F4 q4_0 q4_1 = q4_0 from ((if_neg hc2).trans rfl)]
    exact own_retJ X0 hx Bd.returns (hb hby d4_11) hlk (by decide) (by decide) ⟨rfl, N0, e0⟩
theorem d1_0 : decode method_2_code 0 = .ok (.lload_n 0, 1) := by decide +kernel
theorem d1_1 : decode method_2_code 1 = .ok (.lload_n 2, 1) := by decide +kernel
theorem d1_2 : decode method_2_code 2 = .ok (.invokestatic 7, 3) := by decide +kernel
theorem pd__JJ_J : parseMethodDescriptor "(JJ)J" = some ⟨[.long, .long], some .long⟩ := by decide +kernel
theorem d1_5 : decode method_2_code 5 = .ok (.lstore 4, 2) := by decide +kernel
theorem d1_7 : decode method_2_code 7 = .ok (.lload_n 0, 1) := by decide +kernel
theorem d1_8 : decode method_2_code 8 = .ok (.lload_n 2, 1) := by decide +kernel
theorem d1_9 : decode method_2_code 9 = .ok (.lcmp, 1) := by decide +kernel
theorem d1_10 : decode method_2_code 10 = .ok (.ifCond .ne 17, 3) := by decide +kernel
theorem d1_13 : decode method_2_code 13 = .ok (.lload 4, 2) := by decide +kernel
theorem d1_15 : decode method_2_code 15 = .ok (.ldc2_w 15, 3) := by decide +kernel
theorem d1_18 : decode method_2_code 18 = .ok (.lcmp, 1) := by decide +kernel
theorem d1_19 : decode method_2_code 19 = .ok (.ifCond .ne 8, 3) := by decide +kernel
theorem d1_22 : decode method_2_code 22 = .ok (.lload 4, 2) := by decide +kernel
theorem d1_24 : decode method_2_code 24 = .ok (.lconst 1, 1) := by decide +kernel
theorem d1_25 : decode method_2_code 25 = .ok (.lsub, 1) := by decide +kernel
theorem d1_26 : decode method_2_code 26 = .ok (.lreturn, 1) := by decide +kernel
theorem d1_27 : decode method_2_code 27 = .ok (.lload 4, 2) := by decide +kernel
theorem d1_29 : decode method_2_code 29 = .ok (.lreturn, 1) := by decide +kernel
theorem pn_com_example_vasto_vasto_cluster_TokenRangeEqualsPinLaw : plainName "com/example/vasto/vasto/cluster/TokenRangeEqualsPinLaw" = true := by first | (simp [plainName, overriddenIn]; done) | decide +kernel
def own_F1 (q1_0 : Int64) (q1_1 : Int64) : Int64 := (if q1_0 = q1_1 then (if (own_F2 q1_0 q1_1) = (9223372036854775807 : Int64) then ((own_F2 q1_0 q1_1) - (1 : Int64)) else (own_F2 q1_0 q1_1)) else (own_F2 q1_0 q1_1))
theorem own_ef1 (m : MethodId) (x0 : Int64) (x1 : Int64) : entryFrame m #[(.long x0), (.long x1)] 6 = mkF m 0 #[.val (.long x0), .second, .val (.long x1), .second, .unset, .unset] [] := by first | (simp [entryFrame, mkF, argsToLocals, Value.category]; done) | rfl
def own_Q1 (r : Int64) (h0 : Heap) (n0 : Nat) (v : Option Value) (h : Heap) (L : List Loc) : Prop := v = some (.long r) ∧ Fr n0 L ∧ h = h0
set_option maxRecDepth 65536 in
set_option maxHeartbeats 40000000 in
theorem own_rm1 (l : Launch) (Z : State) (a0 : Array Value) (hw : ∀ d ∈ tables_1, d.before a0 Z = true) (ws : List Jvm.Cond) (q1_0 : Int64) (q1_1 : Int64) (h0 : Heap) (n0 : Nat) (Z0 : n0 ≤ h0.size) :
    MetFree l (⟨"com/example/vasto/vasto/cluster/TokenRangeEqualsPinLaw", "loOf", "(JJ)J"⟩ : MethodName) (head1 (Jvm.Cond.code (⟨"com/example/vasto/vasto/cluster/TokenRangeEqualsPinLaw", "loOf", "(JJ)J"⟩ : MethodName) method_2_code 6 (some .long) :: ws) ({ frames := 1, cells := 0, slots := 0, locals := 15 } : Room)) (fun a U => a = #[(.long q1_0), (.long q1_1)] ∧ Z.Warmed39 U.vm ∧ U.heap = h0) (fun _ _ _ _ _ => True) (fun _ U o U' => ∃ v L, o = .returned v ∧ own_Q1 (own_F1 q1_0 q1_1) h0 n0 v U'.heap L ∧ FrameEnd U o U' L ({ frames := 1, cells := 0, slots := 0, locals := 15 } : Room).cells ({ frames := 1, cells := 0, slots := 0, locals := 15 } : Room).slots) := by
  refine MetFree.of_bodySF (plainFor_of_name pn_com_example_vasto_vasto_cluster_TokenRangeEqualsPinLaw) hisR ?_
  intro p e s m args below meth c s₁ Bd hml0 hP hK
  obtain ⟨rfl, hZ, hh⟩ := hP
  have hx := Bd.exec
  have hby := Bd.bytes
  have hlk : meth.locks = false := BodyLoose.notSynchronized Bd
  have hml : c.maxLocals = 6 := hml0
  have hown : s.vm.findClass "com/example/vasto/vasto/cluster/TokenRangeEqualsPinLaw" = some m.cls := findClass_of_methodNamed Bd.named
  have hnm := (name_of_methodNamed Bd.named Bd.method).1
  have X0 : Stand p l e ({ frames := 1, cells := 0, slots := 0, locals := 15 } : Room) s m #[(.long q1_0), (.long q1_1)] below meth c s₁ [] 0 0 := Stand.of_body Bd
  have e0 : s₁.heap = h0 := by rw [← hh, Bd.state]; rfl
  have N0 := Fr.nil n0
  show own_Go p e below (own_P s below ({ frames := 1, cells := 0, slots := 0, locals := 15 } : Room) (own_Q1 (own_F1 q1_0 q1_1) h0 n0)) s₁ (entryFrame m #[(.long q1_0), (.long q1_1)] 6)
  refine own_in (own_ef1 m q1_0 q1_1) ?_
  refine own_by (T' := s₁) (g' := (mkF m 2 #[.val (.long q1_0), .second, .val (.long q1_1), .second, .unset, .unset] [(.long q1_1), (.long q1_0)])) (fun t k => ?_) ?_
  · show Steps p.tables e below (s₁.setTop (mkF m 0 #[.val (.long q1_0), .second, .val (.long q1_1), .second, .unset, .unset] [])) t
    refine XS.lloadN X0.here hx rfl (hb hby d1_0) rfl ?_
    show Steps p.tables e below (s₁.setTop (mkF m 1 #[.val (.long q1_0), .second, .val (.long q1_1), .second, .unset, .unset] [(.long q1_0)])) t
    refine XS.lloadN X0.here hx rfl (hb hby d1_1) rfl ?_
    show Steps p.tables e below (s₁.setTop (mkF m 2 #[.val (.long q1_0), .second, .val (.long q1_1), .second, .unset, .unset] [(.long q1_1), (.long q1_0)])) t
    exact k
  obtain ⟨v3, _, ⟨T3, L3, k3, n3⟩, -, X3, ⟨Lc3, hQ3, l3, y3, z3⟩, st3⟩ := Jvm.LawKit.callS X0 hx (y := (⟨"java/lang/Math", "min", "(JJ)J"⟩ : MethodName)) hown (mvT hZ (hw _ (List.mem_of_getElem? (i := 4) rfl))) (mvT hZ (hw _ (List.mem_of_getElem? (i := 5) rfl))) (mvT hZ (hw _ (List.mem_of_getElem? (i := 6) rfl))) (mvT hZ (hw _ (List.mem_of_getElem? (i := 7) rfl))) (by decide) (backOf (W := 0) (own_rm2 l Z a0 hw [] q1_0 q1_1 h0 n0 Z0) hZ (hw _ (List.mem_of_getElem? (i := 7) rfl)) (hw _ (List.mem_of_getElem? (i := 6) rfl)) (by decide) (by decide)) (g := (mkF m 2 #[.val (.long q1_0), .second, .val (.long q1_1), .second, .unset, .unset] [(.long q1_1), (.long q1_0)])) rfl (by rw [hml]; rfl) (argsL := [(.long q1_0), (.long q1_1)]) (rest := []) (lenOf pd__JJ_J rfl) rfl (by show 2 * 0 + _ ≤ _; exact Nat.le_of_eq rfl) (hb hby d1_2) (fun _ _ => ⟨rfl, e0, (by decide : 0 + 0 ≤ _), (by decide : 0 + 0 ≤ _)⟩)
  dsimp only [Pt.U, Pt.locs, Pt.cells, Pt.slots] at X3 l3 y3 z3 st3 hQ3
  subst l3 y3 z3
  obtain ⟨rfl, M3, e3⟩ := hQ3
  have N4 := Fr.app N0 M3
  refine own_by (T' := T3) (g' := (mkF m 5 #[.val (.long q1_0), .second, .val (.long q1_1), .second, .unset, .unset] [(.long (own_F2 q1_0 q1_1))])) st3 ?_
  refine own_by (T' := T3) (g' := (mkF m 10 #[.val (.long q1_0), .second, .val (.long q1_1), .second, .val (.long (own_F2 q1_0 q1_1)), .second] [(.int (lcmpW q1_0 q1_1))])) (fun t k => ?_) ?_
  · show Steps p.tables e below (T3.setTop (mkF m 5 #[.val (.long q1_0), .second, .val (.long q1_1), .second, .unset, .unset] [(.long (own_F2 q1_0 q1_1))])) t
    refine XS.lstore X3.here hx rfl (hb hby d1_5) rfl (l' := #[.val (.long q1_0), .second, .val (.long q1_1), .second, .val (.long (own_F2 q1_0 q1_1)), .second]) rfl ?_
    show Steps p.tables e below (T3.setTop (mkF m 7 #[.val (.long q1_0), .second, .val (.long q1_1), .second, .val (.long (own_F2 q1_0 q1_1)), .second] [])) t
    refine XS.lloadN X3.here hx rfl (hb hby d1_7) rfl ?_
    show Steps p.tables e below (T3.setTop (mkF m 8 #[.val (.long q1_0), .second, .val (.long q1_1), .second, .val (.long (own_F2 q1_0 q1_1)), .second] [(.long q1_0)])) t
    refine XS.lloadN X3.here hx rfl (hb hby d1_8) rfl ?_
    show Steps p.tables e below (T3.setTop (mkF m 9 #[.val (.long q1_0), .second, .val (.long q1_1), .second, .val (.long (own_F2 q1_0 q1_1)), .second] [(.long q1_1), (.long q1_0)])) t
    refine XS.lcmp X3.here hx rfl (hb hby d1_9) rfl ?_
    show Steps p.tables e below (T3.setTop (mkF m 10 #[.val (.long q1_0), .second, .val (.long q1_1), .second, .val (.long (own_F2 q1_0 q1_1)), .second] [(.int (lcmpW q1_0 q1_1))])) t
    exact k
  by_cases hc5 : q1_0 = q1_1
  · skip
    refine own_by (T' := T3) (g' := (mkF m 19 #[.val (.long q1_0), .second, .val (.long q1_1), .second, .val (.long (own_F2 q1_0 q1_1)), .second] [(.int (lcmpW (own_F2 q1_0 q1_1) (9223372036854775807 : Int64)))])) (fun t k => ?_) ?_
    · show Steps p.tables e below (T3.setTop (mkF m 10 #[.val (.long q1_0), .second, .val (.long q1_1), .second, .val (.long (own_F2 q1_0 q1_1)), .second] [(.int (lcmpW q1_0 q1_1))])) t
      refine XS.ifNo X3.here hx rfl (hb hby d1_10) rfl ((if0 _ _).trans (teq ((lw_eq _ _).mpr hc5)).2) ?_
      show Steps p.tables e below (T3.setTop (mkF m 13 #[.val (.long q1_0), .second, .val (.long q1_1), .second, .val (.long (own_F2 q1_0 q1_1)), .second] [])) t
      refine XS.lload X3.here hx rfl (hb hby d1_13) rfl ?_
      show Steps p.tables e below (T3.setTop (mkF m 15 #[.val (.long q1_0), .second, .val (.long q1_1), .second, .val (.long (own_F2 q1_0 q1_1)), .second] [(.long (own_F2 q1_0 q1_1))])) t
      refine X3.ldc2Long hx hown (mvT hZ (hw _ (List.mem_of_getElem? (i := 60) rfl))) (g := (mkF m 15 #[.val (.long q1_0), .second, .val (.long q1_1), .second, .val (.long (own_F2 q1_0 q1_1)), .second] [(.long (own_F2 q1_0 q1_1))])) rfl (hb hby d1_15) _ ?_
      show Steps p.tables e below (T3.setTop (mkF m 18 #[.val (.long q1_0), .second, .val (.long q1_1), .second, .val (.long (own_F2 q1_0 q1_1)), .second] [(.long (9223372036854775807 : Int64)), (.long (own_F2 q1_0 q1_1))])) t
      refine XS.lcmp X3.here hx rfl (hb hby d1_18) rfl ?_
      show Steps p.tables e below (T3.setTop (mkF m 19 #[.val (.long q1_0), .second, .val (.long q1_1), .second, .val (.long (own_F2 q1_0 q1_1)), .second] [(.int (lcmpW (own_F2 q1_0 q1_1) (9223372036854775807 : Int64)))])) t
      exact k
    by_cases hc6 : (own_F2 q1_0 q1_1) = (9223372036854775807 : Int64)
    · skip
      refine own_by (T' := T3) (g' := (mkF m 26 #[.val (.long q1_0), .second, .val (.long q1_1), .second, .val (.long (own_F2 q1_0 q1_1)), .second] [(.long ((own_F2 q1_0 q1_1) - (1 : Int64)))])) (fun t k => ?_) ?_
      · show Steps p.tables e below (T3.setTop (mkF m 19 #[.val (.long q1_0), .second, .val (.long q1_1), .second, .val (.long (own_F2 q1_0 q1_1)), .second] [(.int (lcmpW (own_F2 q1_0 q1_1) (9223372036854775807 : Int64)))])) t
        refine XS.ifNo X3.here hx rfl (hb hby d1_19) rfl ((if0 _ _).trans (teq ((lw_eq _ _).mpr hc6)).2) ?_
        show Steps p.tables e below (T3.setTop (mkF m 22 #[.val (.long q1_0), .second, .val (.long q1_1), .second, .val (.long (own_F2 q1_0 q1_1)), .second] [])) t
        refine XS.lload X3.here hx rfl (hb hby d1_22) rfl ?_
        show Steps p.tables e below (T3.setTop (mkF m 24 #[.val (.long q1_0), .second, .val (.long q1_1), .second, .val (.long (own_F2 q1_0 q1_1)), .second] [(.long (own_F2 q1_0 q1_1))])) t
        refine XS.lconst X3.here hx rfl (hb hby d1_24) ?_
        show Steps p.tables e below (T3.setTop (mkF m 25 #[.val (.long q1_0), .second, .val (.long q1_1), .second, .val (.long (own_F2 q1_0 q1_1)), .second] [(.long (1 : Int64)), (.long (own_F2 q1_0 q1_1))])) t
        refine XS.lsub X3.here hx rfl (hb hby d1_25) rfl ?_
        show Steps p.tables e below (T3.setTop (mkF m 26 #[.val (.long q1_0), .second, .val (.long q1_1), .second, .val (.long (own_F2 q1_0 q1_1)), .second] [(.long ((own_F2 q1_0 q1_1) - (1 : Int64)))])) t
        exact k
      rw [show own_F1 q1_0 q1_1 = ((own_F2 q1_0 q1_1) - (1 : Int64)) from ((if_pos hc5).trans ((if_pos hc6).trans rfl))]
      exact own_retJ X3 hx Bd.returns (hb hby d1_26) hlk (by decide) (by decide) ⟨rfl, N4, e3⟩
    · skip
      refine own_by (T' := T3) (g' := (mkF m 29 #[.val (.long q1_0), .second, .val (.long q1_1), .second, .val (.long (own_F2 q1_0 q1_1)), .second] [(.long (own_F2 q1_0 q1_1))])) (fun t k => ?_) ?_
      · show Steps p.tables e below (T3.setTop (mkF m 19 #[.val (.long q1_0), .second, .val (.long q1_1), .second, .val (.long (own_F2 q1_0 q1_1)), .second] [(.int (lcmpW (own_F2 q1_0 q1_1) (9223372036854775807 : Int64)))])) t
        refine XS.ifYes X3.here hx rfl (pc0 := 19) (pc' := 27) rfl (hb hby d1_19) rfl ((if0 _ _).trans (feq (fun q => hc6 ((lw_eq _ _).mp q))).2) (by decide) (by decide) ?_
        show Steps p.tables e below (T3.setTop (mkF m 27 #[.val (.long q1_0), .second, .val (.long q1_1), .second, .val (.long (own_F2 q1_0 q1_1)), .second] [])) t
        refine XS.lload X3.here hx rfl (hb hby d1_27) rfl ?_
        show Steps p.tables e below (T3.setTop (mkF m 29 #[.val (.long q1_0), .second, .val (.long q1_1), .second, .val (.long (own_F2 q1_0 q1_1)), .second] [(.long (own_F2 q1_0 q1_1))])) t
        exact k
      rw [show own_F1 q1_0 q1_1 = (own_F2 q1_0 q1_1) from ((if_pos hc5).trans ((if_neg hc6).trans rfl))]
      exact own_retJ X3 hx Bd.returns (hb hby d1_29) hlk (by decide) (by decide) ⟨rfl, N4, e3⟩
  · skip
    refine own_by (T' := T3) (g' := (mkF m 29 #[.val (.long q1_0), .second, .val (.long q1_1), .second, .val (.long (own_F2 q1_0 q1_1)), .second] [(.long (own_F2 q1_0 q1_1))])) (fun t k => ?_) ?_
    · show Steps p.tables e below (T3.setTop (mkF m 10 #[.val (.long q1_0), .second, .val (.long q1_1), .second, .val (.long (own_F2 q1_0 q1_1)), .second] [(.int (lcmpW q1_0 q1_1))])) t
      refine XS.ifYes X3.here hx rfl (pc0 := 10) (pc' := 27) rfl (hb hby d1_10) rfl ((if0 _ _).trans (feq (fun q => hc5 ((lw_eq _ _).mp q))).2) (by decide) (by decide) ?_
      show Steps p.tables e below (T3.setTop (mkF m 27 #[.val (.long q1_0), .second, .val (.long q1_1), .second, .val (.long (own_F2 q1_0 q1_1)), .second] [])) t
      refine XS.lload X3.here hx rfl (hb hby d1_27) rfl ?_
      show Steps p.tables e below (T3.setTop (mkF m 29 #[.val (.long q1_0), .second, .val (.long q1_1), .second, .val (.long (own_F2 q1_0 q1_1)), .second] [(.long (own_F2 q1_0 q1_1))])) t
      exact k
    rw [show own_F1 q1_0 q1_1 = (own_F2 q1_0 q1_1) from ((if_neg hc5).trans rfl)]
    exact own_retJ X3 hx Bd.returns (hb hby d1_29) hlk (by decide) (by decide) ⟨rfl, N4, e3⟩
theorem d3_0 : decode method_3_code 0 = .ok (.lload_n 0, 1) := by decide +kernel
theorem d3_1 : decode method_3_code 1 = .ok (.lload_n 2, 1) := by decide +kernel
theorem d3_2 : decode method_3_code 2 = .ok (.invokestatic 17, 3) := by decide +kernel
theorem d3_5 : decode method_3_code 5 = .ok (.lstore 4, 2) := by decide +kernel
theorem d3_7 : decode method_3_code 7 = .ok (.lload_n 0, 1) := by decide +kernel
theorem d3_8 : decode method_3_code 8 = .ok (.lload_n 2, 1) := by decide +kernel
theorem d3_9 : decode method_3_code 9 = .ok (.lcmp, 1) := by decide +kernel
theorem d3_10 : decode method_3_code 10 = .ok (.ifCond .ne 17, 3) := by decide +kernel
theorem d3_13 : decode method_3_code 13 = .ok (.lload 4, 2) := by decide +kernel
theorem d3_15 : decode method_3_code 15 = .ok (.ldc2_w 15, 3) := by decide +kernel
theorem d3_18 : decode method_3_code 18 = .ok (.lcmp, 1) := by decide +kernel
theorem d3_19 : decode method_3_code 19 = .ok (.ifCond .eq 8, 3) := by decide +kernel
theorem d3_27 : decode method_3_code 27 = .ok (.lload 4, 2) := by decide +kernel
theorem d3_29 : decode method_3_code 29 = .ok (.lreturn, 1) := by decide +kernel
theorem d3_22 : decode method_3_code 22 = .ok (.lload 4, 2) := by decide +kernel
theorem d3_24 : decode method_3_code 24 = .ok (.lconst 1, 1) := by decide +kernel
theorem d3_25 : decode method_3_code 25 = .ok (.ladd, 1) := by decide +kernel
theorem d3_26 : decode method_3_code 26 = .ok (.lreturn, 1) := by decide +kernel
def own_F3 (q3_0 : Int64) (q3_1 : Int64) : Int64 := (if q3_0 = q3_1 then (if (own_F4 q3_0 q3_1) = (9223372036854775807 : Int64) then (own_F4 q3_0 q3_1) else ((own_F4 q3_0 q3_1) + (1 : Int64))) else (own_F4 q3_0 q3_1))
theorem own_ef3 (m : MethodId) (x0 : Int64) (x1 : Int64) : entryFrame m #[(.long x0), (.long x1)] 6 = mkF m 0 #[.val (.long x0), .second, .val (.long x1), .second, .unset, .unset] [] := by first | (simp [entryFrame, mkF, argsToLocals, Value.category]; done) | rfl
def own_Q3 (r : Int64) (h0 : Heap) (n0 : Nat) (v : Option Value) (h : Heap) (L : List Loc) : Prop := v = some (.long r) ∧ Fr n0 L ∧ h = h0
set_option maxRecDepth 65536 in
set_option maxHeartbeats 40000000 in
theorem own_rm3 (l : Launch) (Z : State) (a0 : Array Value) (hw : ∀ d ∈ tables_1, d.before a0 Z = true) (ws : List Jvm.Cond) (q3_0 : Int64) (q3_1 : Int64) (h0 : Heap) (n0 : Nat) (Z0 : n0 ≤ h0.size) :
    MetFree l (⟨"com/example/vasto/vasto/cluster/TokenRangeEqualsPinLaw", "hiOf", "(JJ)J"⟩ : MethodName) (head1 (Jvm.Cond.code (⟨"com/example/vasto/vasto/cluster/TokenRangeEqualsPinLaw", "hiOf", "(JJ)J"⟩ : MethodName) method_3_code 6 (some .long) :: ws) ({ frames := 1, cells := 0, slots := 0, locals := 15 } : Room)) (fun a U => a = #[(.long q3_0), (.long q3_1)] ∧ Z.Warmed39 U.vm ∧ U.heap = h0) (fun _ _ _ _ _ => True) (fun _ U o U' => ∃ v L, o = .returned v ∧ own_Q3 (own_F3 q3_0 q3_1) h0 n0 v U'.heap L ∧ FrameEnd U o U' L ({ frames := 1, cells := 0, slots := 0, locals := 15 } : Room).cells ({ frames := 1, cells := 0, slots := 0, locals := 15 } : Room).slots) := by
  refine MetFree.of_bodySF (plainFor_of_name pn_com_example_vasto_vasto_cluster_TokenRangeEqualsPinLaw) hisR ?_
  intro p e s m args below meth c s₁ Bd hml0 hP hK
  obtain ⟨rfl, hZ, hh⟩ := hP
  have hx := Bd.exec
  have hby := Bd.bytes
  have hlk : meth.locks = false := BodyLoose.notSynchronized Bd
  have hml : c.maxLocals = 6 := hml0
  have hown : s.vm.findClass "com/example/vasto/vasto/cluster/TokenRangeEqualsPinLaw" = some m.cls := findClass_of_methodNamed Bd.named
  have hnm := (name_of_methodNamed Bd.named Bd.method).1
  have X0 : Stand p l e ({ frames := 1, cells := 0, slots := 0, locals := 15 } : Room) s m #[(.long q3_0), (.long q3_1)] below meth c s₁ [] 0 0 := Stand.of_body Bd
  have e0 : s₁.heap = h0 := by rw [← hh, Bd.state]; rfl
  have N0 := Fr.nil n0
  show own_Go p e below (own_P s below ({ frames := 1, cells := 0, slots := 0, locals := 15 } : Room) (own_Q3 (own_F3 q3_0 q3_1) h0 n0)) s₁ (entryFrame m #[(.long q3_0), (.long q3_1)] 6)
  refine own_in (own_ef3 m q3_0 q3_1) ?_
  refine own_by (T' := s₁) (g' := (mkF m 2 #[.val (.long q3_0), .second, .val (.long q3_1), .second, .unset, .unset] [(.long q3_1), (.long q3_0)])) (fun t k => ?_) ?_
  · show Steps p.tables e below (s₁.setTop (mkF m 0 #[.val (.long q3_0), .second, .val (.long q3_1), .second, .unset, .unset] [])) t
    refine XS.lloadN X0.here hx rfl (hb hby d3_0) rfl ?_
    show Steps p.tables e below (s₁.setTop (mkF m 1 #[.val (.long q3_0), .second, .val (.long q3_1), .second, .unset, .unset] [(.long q3_0)])) t
    refine XS.lloadN X0.here hx rfl (hb hby d3_1) rfl ?_
    show Steps p.tables e below (s₁.setTop (mkF m 2 #[.val (.long q3_0), .second, .val (.long q3_1), .second, .unset, .unset] [(.long q3_1), (.long q3_0)])) t
    exact k
  obtain ⟨v7, _, ⟨T7, L7, k7, n7⟩, -, X7, ⟨Lc7, hQ7, l7, y7, z7⟩, st7⟩ := Jvm.LawKit.callS X0 hx (y := (⟨"java/lang/Math", "max", "(JJ)J"⟩ : MethodName)) hown (mvT hZ (hw _ (List.mem_of_getElem? (i := 11) rfl))) (mvT hZ (hw _ (List.mem_of_getElem? (i := 12) rfl))) (mvT hZ (hw _ (List.mem_of_getElem? (i := 6) rfl))) (mvT hZ (hw _ (List.mem_of_getElem? (i := 13) rfl))) (by decide) (backOf (W := 0) (own_rm4 l Z a0 hw [] q3_0 q3_1 h0 n0 Z0) hZ (hw _ (List.mem_of_getElem? (i := 13) rfl)) (hw _ (List.mem_of_getElem? (i := 6) rfl)) (by decide) (by decide)) (g := (mkF m 2 #[.val (.long q3_0), .second, .val (.long q3_1), .second, .unset, .unset] [(.long q3_1), (.long q3_0)])) rfl (by rw [hml]; rfl) (argsL := [(.long q3_0), (.long q3_1)]) (rest := []) (lenOf pd__JJ_J rfl) rfl (by show 2 * 0 + _ ≤ _; exact Nat.le_of_eq rfl) (hb hby d3_2) (fun _ _ => ⟨rfl, e0, (by decide : 0 + 0 ≤ _), (by decide : 0 + 0 ≤ _)⟩)
  dsimp only [Pt.U, Pt.locs, Pt.cells, Pt.slots] at X7 l7 y7 z7 st7 hQ7
  subst l7 y7 z7
  obtain ⟨rfl, M7, e7⟩ := hQ7
  have N8 := Fr.app N0 M7
  refine own_by (T' := T7) (g' := (mkF m 5 #[.val (.long q3_0), .second, .val (.long q3_1), .second, .unset, .unset] [(.long (own_F4 q3_0 q3_1))])) st7 ?_
  refine own_by (T' := T7) (g' := (mkF m 10 #[.val (.long q3_0), .second, .val (.long q3_1), .second, .val (.long (own_F4 q3_0 q3_1)), .second] [(.int (lcmpW q3_0 q3_1))])) (fun t k => ?_) ?_
  · show Steps p.tables e below (T7.setTop (mkF m 5 #[.val (.long q3_0), .second, .val (.long q3_1), .second, .unset, .unset] [(.long (own_F4 q3_0 q3_1))])) t
    refine XS.lstore X7.here hx rfl (hb hby d3_5) rfl (l' := #[.val (.long q3_0), .second, .val (.long q3_1), .second, .val (.long (own_F4 q3_0 q3_1)), .second]) rfl ?_
    show Steps p.tables e below (T7.setTop (mkF m 7 #[.val (.long q3_0), .second, .val (.long q3_1), .second, .val (.long (own_F4 q3_0 q3_1)), .second] [])) t
    refine XS.lloadN X7.here hx rfl (hb hby d3_7) rfl ?_
    show Steps p.tables e below (T7.setTop (mkF m 8 #[.val (.long q3_0), .second, .val (.long q3_1), .second, .val (.long (own_F4 q3_0 q3_1)), .second] [(.long q3_0)])) t
    refine XS.lloadN X7.here hx rfl (hb hby d3_8) rfl ?_
    show Steps p.tables e below (T7.setTop (mkF m 9 #[.val (.long q3_0), .second, .val (.long q3_1), .second, .val (.long (own_F4 q3_0 q3_1)), .second] [(.long q3_1), (.long q3_0)])) t
    refine XS.lcmp X7.here hx rfl (hb hby d3_9) rfl ?_
    show Steps p.tables e below (T7.setTop (mkF m 10 #[.val (.long q3_0), .second, .val (.long q3_1), .second, .val (.long (own_F4 q3_0 q3_1)), .second] [(.int (lcmpW q3_0 q3_1))])) t
    exact k
  by_cases hc9 : q3_0 = q3_1
  · skip
    refine own_by (T' := T7) (g' := (mkF m 19 #[.val (.long q3_0), .second, .val (.long q3_1), .second, .val (.long (own_F4 q3_0 q3_1)), .second] [(.int (lcmpW (own_F4 q3_0 q3_1) (9223372036854775807 : Int64)))])) (fun t k => ?_) ?_
    · show Steps p.tables e below (T7.setTop (mkF m 10 #[.val (.long q3_0), .second, .val (.long q3_1), .second, .val (.long (own_F4 q3_0 q3_1)), .second] [(.int (lcmpW q3_0 q3_1))])) t
      refine XS.ifNo X7.here hx rfl (hb hby d3_10) rfl ((if0 _ _).trans (teq ((lw_eq _ _).mpr hc9)).2) ?_
      show Steps p.tables e below (T7.setTop (mkF m 13 #[.val (.long q3_0), .second, .val (.long q3_1), .second, .val (.long (own_F4 q3_0 q3_1)), .second] [])) t
      refine XS.lload X7.here hx rfl (hb hby d3_13) rfl ?_
      show Steps p.tables e below (T7.setTop (mkF m 15 #[.val (.long q3_0), .second, .val (.long q3_1), .second, .val (.long (own_F4 q3_0 q3_1)), .second] [(.long (own_F4 q3_0 q3_1))])) t
      refine X7.ldc2Long hx hown (mvT hZ (hw _ (List.mem_of_getElem? (i := 60) rfl))) (g := (mkF m 15 #[.val (.long q3_0), .second, .val (.long q3_1), .second, .val (.long (own_F4 q3_0 q3_1)), .second] [(.long (own_F4 q3_0 q3_1))])) rfl (hb hby d3_15) _ ?_
      show Steps p.tables e below (T7.setTop (mkF m 18 #[.val (.long q3_0), .second, .val (.long q3_1), .second, .val (.long (own_F4 q3_0 q3_1)), .second] [(.long (9223372036854775807 : Int64)), (.long (own_F4 q3_0 q3_1))])) t
      refine XS.lcmp X7.here hx rfl (hb hby d3_18) rfl ?_
      show Steps p.tables e below (T7.setTop (mkF m 19 #[.val (.long q3_0), .second, .val (.long q3_1), .second, .val (.long (own_F4 q3_0 q3_1)), .second] [(.int (lcmpW (own_F4 q3_0 q3_1) (9223372036854775807 : Int64)))])) t
      exact k
    by_cases hc10 : (own_F4 q3_0 q3_1) = (9223372036854775807 : Int64)
    · skip
      refine own_by (T' := T7) (g' := (mkF m 29 #[.val (.long q3_0), .second, .val (.long q3_1), .second, .val (.long (own_F4 q3_0 q3_1)), .second] [(.long (own_F4 q3_0 q3_1))])) (fun t k => ?_) ?_
      · show Steps p.tables e below (T7.setTop (mkF m 19 #[.val (.long q3_0), .second, .val (.long q3_1), .second, .val (.long (own_F4 q3_0 q3_1)), .second] [(.int (lcmpW (own_F4 q3_0 q3_1) (9223372036854775807 : Int64)))])) t
        refine XS.ifYes X7.here hx rfl (pc0 := 19) (pc' := 27) rfl (hb hby d3_19) rfl ((if0 _ _).trans (teq ((lw_eq _ _).mpr hc10)).1) (by decide) (by decide) ?_
        show Steps p.tables e below (T7.setTop (mkF m 27 #[.val (.long q3_0), .second, .val (.long q3_1), .second, .val (.long (own_F4 q3_0 q3_1)), .second] [])) t
        refine XS.lload X7.here hx rfl (hb hby d3_27) rfl ?_
        show Steps p.tables e below (T7.setTop (mkF m 29 #[.val (.long q3_0), .second, .val (.long q3_1), .second, .val (.long (own_F4 q3_0 q3_1)), .second] [(.long (own_F4 q3_0 q3_1))])) t
        exact k
      rw [show own_F3 q3_0 q3_1 = (own_F4 q3_0 q3_1) from ((if_pos hc9).trans ((if_pos hc10).trans rfl))]
      exact own_retJ X7 hx Bd.returns (hb hby d3_29) hlk (by decide) (by decide) ⟨rfl, N8, e7⟩
    · skip
      refine own_by (T' := T7) (g' := (mkF m 26 #[.val (.long q3_0), .second, .val (.long q3_1), .second, .val (.long (own_F4 q3_0 q3_1)), .second] [(.long ((own_F4 q3_0 q3_1) + (1 : Int64)))])) (fun t k => ?_) ?_
      · show Steps p.tables e below (T7.setTop (mkF m 19 #[.val (.long q3_0), .second, .val (.long q3_1), .second, .val (.long (own_F4 q3_0 q3_1)), .second] [(.int (lcmpW (own_F4 q3_0 q3_1) (9223372036854775807 : Int64)))])) t
        refine XS.ifNo X7.here hx rfl (hb hby d3_19) rfl ((if0 _ _).trans (feq (fun q => hc10 ((lw_eq _ _).mp q))).1) ?_
        show Steps p.tables e below (T7.setTop (mkF m 22 #[.val (.long q3_0), .second, .val (.long q3_1), .second, .val (.long (own_F4 q3_0 q3_1)), .second] [])) t
        refine XS.lload X7.here hx rfl (hb hby d3_22) rfl ?_
        show Steps p.tables e below (T7.setTop (mkF m 24 #[.val (.long q3_0), .second, .val (.long q3_1), .second, .val (.long (own_F4 q3_0 q3_1)), .second] [(.long (own_F4 q3_0 q3_1))])) t
        refine XS.lconst X7.here hx rfl (hb hby d3_24) ?_
        show Steps p.tables e below (T7.setTop (mkF m 25 #[.val (.long q3_0), .second, .val (.long q3_1), .second, .val (.long (own_F4 q3_0 q3_1)), .second] [(.long (1 : Int64)), (.long (own_F4 q3_0 q3_1))])) t
        refine XS.ladd X7.here hx rfl (hb hby d3_25) rfl ?_
        show Steps p.tables e below (T7.setTop (mkF m 26 #[.val (.long q3_0), .second, .val (.long q3_1), .second, .val (.long (own_F4 q3_0 q3_1)), .second] [(.long ((own_F4 q3_0 q3_1) + (1 : Int64)))])) t
        exact k
      rw [show own_F3 q3_0 q3_1 = ((own_F4 q3_0 q3_1) + (1 : Int64)) from ((if_pos hc9).trans ((if_neg hc10).trans rfl))]
      exact own_retJ X7 hx Bd.returns (hb hby d3_26) hlk (by decide) (by decide) ⟨rfl, N8, e7⟩
  · skip
    refine own_by (T' := T7) (g' := (mkF m 29 #[.val (.long q3_0), .second, .val (.long q3_1), .second, .val (.long (own_F4 q3_0 q3_1)), .second] [(.long (own_F4 q3_0 q3_1))])) (fun t k => ?_) ?_
    · show Steps p.tables e below (T7.setTop (mkF m 10 #[.val (.long q3_0), .second, .val (.long q3_1), .second, .val (.long (own_F4 q3_0 q3_1)), .second] [(.int (lcmpW q3_0 q3_1))])) t
      refine XS.ifYes X7.here hx rfl (pc0 := 10) (pc' := 27) rfl (hb hby d3_10) rfl ((if0 _ _).trans (feq (fun q => hc9 ((lw_eq _ _).mp q))).2) (by decide) (by decide) ?_
      show Steps p.tables e below (T7.setTop (mkF m 27 #[.val (.long q3_0), .second, .val (.long q3_1), .second, .val (.long (own_F4 q3_0 q3_1)), .second] [])) t
      refine XS.lload X7.here hx rfl (hb hby d3_27) rfl ?_
      show Steps p.tables e below (T7.setTop (mkF m 29 #[.val (.long q3_0), .second, .val (.long q3_1), .second, .val (.long (own_F4 q3_0 q3_1)), .second] [(.long (own_F4 q3_0 q3_1))])) t
      exact k
    rw [show own_F3 q3_0 q3_1 = (own_F4 q3_0 q3_1) from ((if_neg hc9).trans rfl)]
    exact own_retJ X7 hx Bd.returns (hb hby d3_29) hlk (by decide) (by decide) ⟨rfl, N8, e7⟩
theorem own_lidx (x : Int64) (h1 : ¬ x < (-128 : Int64)) (h2 : ¬ (127 : Int64) < x) : ¬ ((x.toInt32) + (128 : Int32)) < 0 ∧ ((x.toInt32) + (128 : Int32)) < (256 : Int32) := by
  rw [Int64.lt_iff_toInt_lt, show (-128 : Int64).toInt = -128 from by decide] at h1
  rw [Int64.lt_iff_toInt_lt, show (127 : Int64).toInt = 127 from by decide] at h2
  have e : x.toInt32.toInt = x.toInt := by
    rw [Int64.toInt_toInt32, Int.bmod_def]
    split <;> omega
  have e2 : (x.toInt32 + 128).toInt = x.toInt + 128 := by
    rw [Int32.toInt_add, e, show (128 : Int32).toInt = 128 from by decide, Int.bmod_def]
    split <;> omega
  rw [Int32.lt_iff_toInt_lt, Int32.lt_iff_toInt_lt, e2, show (0 : Int32).toInt = 0 from by decide, show (256 : Int32).toInt = 256 from by decide]
  omega
theorem own_add1 (x : Int64) : (x + 1).toInt = if x.toInt = 9223372036854775807 then -9223372036854775808 else x.toInt + 1 := by
  have h1 := x.toInt_lt
  have h2 := x.le_toInt
  rw [Int64.toInt_add, show (1 : Int64).toInt = 1 from by decide, Int.bmod_def]
  split <;> split <;> omega
theorem own_sub1 (x : Int64) : (x - 1).toInt = if x.toInt = -9223372036854775808 then 9223372036854775807 else x.toInt - 1 := by
  have h1 := x.toInt_lt
  have h2 := x.le_toInt
  rw [Int64.toInt_sub, show (1 : Int64).toInt = 1 from by decide, Int.bmod_def]
  split <;> split <;> omega
theorem own_lohi (x y : Int64) : own_F1 x y < own_F3 x y := by
  have e1 : (9223372036854775807 : Int64).toInt = 9223372036854775807 := by decide
  unfold own_F1 own_F3 own_F2 own_F4
  by_cases h : x = y
  · subst h
    have n : ¬ x < x := Int64.lt_irrefl
    simp only [if_neg n, if_true]
    by_cases m : x = 9223372036854775807
    · rw [if_pos m, if_pos m, m]; decide
    · rw [if_neg m, if_neg m, Int64.lt_iff_toInt_lt, own_add1]
      rw [← Int64.toInt_inj, e1] at m
      rw [if_neg m]; omega
  · rw [if_neg h, if_neg h]
    rw [← Int64.toInt_inj] at h
    simp only [Int64.lt_iff_toInt_lt]
    repeat' split
    all_goals omega
/-- an object of a class that isn't below K: C < S < O, O the root; K another ordinary class -/
theorem own_not {Z : State} {a0 : Array Value} {C S O K : String} {nC nK : Nat} (wO : (Jvm.Cond.noSuperclass O).before a0 Z = true) (wS : (Jvm.Cond.superclass S O).before a0 Z = true) (wC : (Jvm.Cond.superclass C S).before a0 Z = true) (iC : (Jvm.Cond.instantiable C nC).before a0 Z = true) (iK : (Jvm.Cond.instantiable K nK).before a0 Z = true) (hO : O ≠ K) (hS : S ≠ K) (hC : C ≠ K) :
    ∃ c t, Z.vm.findClass C = some c ∧ Z.vm.findClass K = some t ∧ Z.vm.assignable c t = false := by
  obtain ⟨t, kt, t1, t2, t3, t4, -⟩ := Jvm.Cond.instantiable_spec iK
  obtain ⟨cC, kC, c1, c2, c3, c4, -⟩ := Jvm.Cond.instantiable_spec iC
  obtain ⟨o, ko, o1, o2, o3, -, -⟩ := Jvm.Cond.noSuperclass_spec wO
  have r : NS Z O K := by
    have ne := ids_ne o1 t1 hO
    refine ⟨o, t, o1, t1, fun fuel => ?_⟩
    cases fuel with
    | zero => rfl
    | succ f => simp [Vm.isSubclassAux, ne, o2, o3]
  obtain ⟨c, t', u1, u2, u3⟩ := NS.step wC (NS.step wS r hS) hC
  cases c1.symm.trans u1
  cases t1.symm.trans u2
  have ne := ids_ne c1 t1 hC
  have t5 : kt.isInterface = false := (Bool.or_eq_false_iff.mp t4).1
  refine ⟨cC, t, c1, t1, ?_⟩
  show Z.vm.assignableAux (255 + 1) cC t = false
  simp [Vm.assignableAux, ne, c2, t2, c3, t3, t5, Vm.isSubclass, u3]

theorem d10_0 : decode jdk_18_method_1_code 0 = .ok (.aload_n 0, 1) := by decide +kernel
theorem d10_1 : decode jdk_18_method_1_code 1 = .ok (.invokespecial 1, 3) := by decide +kernel
theorem d10_4 : decode jdk_18_method_1_code 4 = .ok (.return_, 1) := by decide +kernel
theorem pn_java_lang_Number : plainName "java/lang/Number" = true := by first | (simp [plainName, overriddenIn]; done) | decide +kernel
theorem own_ef10 (m : MethodId) (x0 : Addr) : entryFrame m #[(.ref x0)] 1 = mkF m 0 #[.val (.ref x0)] [] := by first | (simp [entryFrame, mkF, argsToLocals, Value.category]; done) | rfl
def own_Q10 (Z : State) (a10_0 : Addr) (h0 : Heap) (n0 : Nat) (v : Option Value) (h : Heap) (L : List Loc) : Prop := v = none ∧ Fr n0 L ∧ Keep h0 h []
set_option maxRecDepth 65536 in
set_option maxHeartbeats 40000000 in
theorem own_rm10 (l : Launch) (Z : State) (a0 : Array Value) (hw : ∀ d ∈ tables_1, d.before a0 Z = true) (ws : List Jvm.Cond) (a10_0 : Addr) (h0 : Heap) (n0 : Nat) (Z0 : n0 ≤ h0.size) :
    MetFree l (⟨"java/lang/Number", "<init>", "()V"⟩ : MethodName) (head1 (Jvm.Cond.code (⟨"java/lang/Number", "<init>", "()V"⟩ : MethodName) jdk_18_method_1_code 1 none :: ws) ({ frames := 1, cells := 0, slots := 0, locals := 12 } : Room)) (fun a U => a = #[(.ref a10_0)] ∧ Z.Warmed39 U.vm ∧ U.heap = h0) (fun _ _ _ _ _ => True) (fun _ U o U' => ∃ v L, o = .returned v ∧ own_Q10 Z a10_0 h0 n0 v U'.heap L ∧ FrameEnd U o U' L ({ frames := 1, cells := 0, slots := 0, locals := 12 } : Room).cells ({ frames := 1, cells := 0, slots := 0, locals := 12 } : Room).slots) := by
  refine MetFree.of_bodySF (plainFor_of_name pn_java_lang_Number) hisR ?_
  intro p e s m args below meth c s₁ Bd hml0 hP hK
  obtain ⟨rfl, hZ, hh⟩ := hP
  have hx := Bd.exec
  have hby := Bd.bytes
  have hlk : meth.locks = false := BodyLoose.notSynchronized Bd
  have hml : c.maxLocals = 1 := hml0
  have hown : s.vm.findClass "java/lang/Number" = some m.cls := findClass_of_methodNamed Bd.named
  have hnm := (name_of_methodNamed Bd.named Bd.method).1
  have X0 : Stand p l e ({ frames := 1, cells := 0, slots := 0, locals := 12 } : Room) s m #[(.ref a10_0)] below meth c s₁ [] 0 0 := Stand.of_body Bd
  have e0 : s₁.heap = h0 := by rw [← hh, Bd.state]; rfl
  have N0 := Fr.nil n0
  show own_Go p e below (own_P s below ({ frames := 1, cells := 0, slots := 0, locals := 12 } : Room) (own_Q10 Z a10_0 h0 n0)) s₁ (entryFrame m #[(.ref a10_0)] 1)
  refine own_in (own_ef10 m a10_0) ?_
  refine own_by (T' := s₁) (g' := (mkF m 1 #[.val (.ref a10_0)] [(.ref a10_0)])) (fun t k => ?_) ?_
  · show Steps p.tables e below (s₁.setTop (mkF m 0 #[.val (.ref a10_0)] [])) t
    refine XS.aloadN X0.here hx rfl (hb hby d10_0) rfl rfl ?_
    show Steps p.tables e below (s₁.setTop (mkF m 1 #[.val (.ref a10_0)] [(.ref a10_0)])) t
    exact k
  obtain ⟨T11, X11, e11, st11⟩ := initO X0 hx hZ hown (hw _ (List.mem_of_getElem? (i := 57) rfl)) (hw _ (List.mem_of_getElem? (i := 21) rfl)) (hw _ (List.mem_of_getElem? (i := 22) rfl)) e0 (g := (mkF m 1 #[.val (.ref a10_0)] [(.ref a10_0)])) rfl (by rw [hml]; rfl) rfl (hb hby d10_1) (by decide) (W := 0) (by show 2 * 0 + _ ≤ _; exact Nat.le_of_eq rfl) (by decide)
  refine own_by (T' := T11) (g' := (mkF m 4 #[.val (.ref a10_0)] [])) st11 ?_
  exact own_ret0 X11 hx Bd.returns (hb hby d10_4) hlk (by decide) (by decide) (by rw [e11]; exact ⟨rfl, N0, (Keep.refl h0 [])⟩)
theorem d9_0 : decode jdk_35_method_26_code 0 = .ok (.aload_n 0, 1) := by decide +kernel
theorem d9_1 : decode jdk_35_method_26_code 1 = .ok (.invokespecial 270, 3) := by decide +kernel
theorem pd___V : parseMethodDescriptor "()V" = some ⟨[], none⟩ := by decide +kernel
theorem d9_4 : decode jdk_35_method_26_code 4 = .ok (.aload_n 0, 1) := by decide +kernel
theorem d9_5 : decode jdk_35_method_26_code 5 = .ok (.lload_n 1, 1) := by decide +kernel
theorem d9_6 : decode jdk_35_method_26_code 6 = .ok (.putfield 273, 3) := by decide +kernel
theorem d9_9 : decode jdk_35_method_26_code 9 = .ok (.return_, 1) := by decide +kernel
theorem pn_java_lang_Long : plainName "java/lang/Long" = true := by first | (simp [plainName, overriddenIn]; done) | decide +kernel
theorem own_ef9 (m : MethodId) (x0 : Addr) (x1 : Int64) : entryFrame m #[(.ref x0), (.long x1)] 3 = mkF m 0 #[.val (.ref x0), .val (.long x1), .second] [] := by first | (simp [entryFrame, mkF, argsToLocals, Value.category]; done) | rfl
def own_Q9 (Z : State) (a9_0 : Addr) (q9_1 : Int64) (u_value_a9_0 : Value) (h0 : Heap) (n0 : Nat) (v : Option Value) (h : Heap) (L : List Loc) : Prop := v = none ∧ Fr n0 L ∧ Keep h0 h [a9_0] ∧ Exa Z h a9_0 "java/lang/Long" ∧ Fld Z h a9_0 "java/lang/Long" "value" "J" (.long q9_1)
set_option maxRecDepth 65536 in
set_option maxHeartbeats 40000000 in
theorem own_rm9 (l : Launch) (Z : State) (a0 : Array Value) (hw : ∀ d ∈ tables_1, d.before a0 Z = true) (ws : List Jvm.Cond) (a9_0 : Addr) (q9_1 : Int64) (u_value_a9_0 : Value) (h0 : Heap) (n0 : Nat) (Z0 : n0 ≤ h0.size) (E_a9_0 : Exa Z h0 a9_0 "java/lang/Long") (F_value_a9_0 : Fld Z h0 a9_0 "java/lang/Long" "value" "J" u_value_a9_0) (ge_a9_0 : n0 ≤ a9_0) :
    MetFree l (⟨"java/lang/Long", "<init>", "(J)V"⟩ : MethodName) (head1 (Jvm.Cond.code (⟨"java/lang/Long", "<init>", "(J)V"⟩ : MethodName) jdk_35_method_26_code 3 none :: ws) ({ frames := 2, cells := 0, slots := 0, locals := 24 } : Room)) (fun a U => a = #[(.ref a9_0), (.long q9_1)] ∧ Z.Warmed39 U.vm ∧ U.heap = h0) (fun _ _ _ _ _ => True) (fun _ U o U' => ∃ v L, o = .returned v ∧ own_Q9 Z a9_0 q9_1 u_value_a9_0 h0 n0 v U'.heap L ∧ FrameEnd U o U' L ({ frames := 2, cells := 0, slots := 0, locals := 24 } : Room).cells ({ frames := 2, cells := 0, slots := 0, locals := 24 } : Room).slots) := by
  refine MetFree.of_bodySF (plainFor_of_name pn_java_lang_Long) hisR ?_
  intro p e s m args below meth c s₁ Bd hml0 hP hK
  obtain ⟨rfl, hZ, hh⟩ := hP
  have hx := Bd.exec
  have hby := Bd.bytes
  have hlk : meth.locks = false := BodyLoose.notSynchronized Bd
  have hml : c.maxLocals = 3 := hml0
  have hown : s.vm.findClass "java/lang/Long" = some m.cls := findClass_of_methodNamed Bd.named
  have hnm := (name_of_methodNamed Bd.named Bd.method).1
  have X0 : Stand p l e ({ frames := 2, cells := 0, slots := 0, locals := 24 } : Room) s m #[(.ref a9_0), (.long q9_1)] below meth c s₁ [] 0 0 := Stand.of_body Bd
  have e0 : s₁.heap = h0 := by rw [← hh, Bd.state]; rfl
  have N0 := Fr.nil n0
  show own_Go p e below (own_P s below ({ frames := 2, cells := 0, slots := 0, locals := 24 } : Room) (own_Q9 Z a9_0 q9_1 u_value_a9_0 h0 n0)) s₁ (entryFrame m #[(.ref a9_0), (.long q9_1)] 3)
  refine own_in (own_ef9 m a9_0 q9_1) ?_
  refine own_by (T' := s₁) (g' := (mkF m 1 #[.val (.ref a9_0), .val (.long q9_1), .second] [(.ref a9_0)])) (fun t k => ?_) ?_
  · show Steps p.tables e below (s₁.setTop (mkF m 0 #[.val (.ref a9_0), .val (.long q9_1), .second] [])) t
    refine XS.aloadN X0.here hx rfl (hb hby d9_0) rfl rfl ?_
    show Steps p.tables e below (s₁.setTop (mkF m 1 #[.val (.ref a9_0), .val (.long q9_1), .second] [(.ref a9_0)])) t
    exact k
  obtain ⟨v12, _, ⟨T12, L12, k12, n12⟩, -, X12, ⟨Lc12, hQ12, l12, y12, z12⟩, st12⟩ := X0.specialBack hx (y := (⟨"java/lang/Number", "<init>", "()V"⟩ : MethodName)) rfl hown (mvT hZ (hw _ (List.mem_of_getElem? (i := 51) rfl))) (mvT hZ (hw _ (List.mem_of_getElem? (i := 52) rfl))) (mvT hZ (hw _ (List.mem_of_getElem? (i := 56) rfl))) (by decide) (backOf (W := 0) (own_rm10 l Z a0 hw [] a9_0 h0 n0 Z0) hZ (hw _ (List.mem_of_getElem? (i := 56) rfl)) (hw _ (List.mem_of_getElem? (i := 55) rfl)) (by decide) (by decide)) (g := (mkF m 1 #[.val (.ref a9_0), .val (.long q9_1), .second] [(.ref a9_0)])) rfl (by rw [hml]; rfl) (Steps.refl _) (a := a9_0) (argsL := []) (rest := []) (lenOf pd___V rfl) rfl (by show 2 * 0 + _ ≤ _; exact Nat.le_of_eq rfl) (hb hby d9_1) (fun _ _ => ⟨rfl, e0, (by decide : 0 + 0 ≤ _), (by decide : 0 + 0 ≤ _)⟩)
  dsimp only [Pt.U, Pt.locs, Pt.cells, Pt.slots] at X12 l12 y12 z12 st12 hQ12
  subst l12 y12 z12
  obtain ⟨rfl, M12, K12⟩ := hQ12
  have f13 := E_a9_0.keep K12
  have f14 := F_value_a9_0.keep K12 nin0
  have K15 : Keep h0 T12.heap [a9_0] := (Keep.refl h0 [a9_0]).trans K12 all0
  have Z16 := Nat.le_trans Z0 K12.1
  have N17 := Fr.app N0 M12
  refine own_via (T' := T12) (g' := (mkF m 4 #[.val (.ref a9_0), .val (.long q9_1), .second] [])) st12 ?_
  refine own_by (T' := T12) (g' := (mkF m 6 #[.val (.ref a9_0), .val (.long q9_1), .second] [(.long q9_1), (.ref a9_0)])) (fun t k => ?_) ?_
  · show Steps p.tables e below (T12.setTop (mkF m 4 #[.val (.ref a9_0), .val (.long q9_1), .second] [])) t
    refine XS.aloadN X12.here hx rfl (hb hby d9_4) rfl rfl ?_
    show Steps p.tables e below (T12.setTop (mkF m 5 #[.val (.ref a9_0), .val (.long q9_1), .second] [(.ref a9_0)])) t
    refine XS.lloadN X12.here hx rfl (hb hby d9_5) rfl ?_
    show Steps p.tables e below (T12.setTop (mkF m 6 #[.val (.ref a9_0), .val (.long q9_1), .second] [(.long q9_1), (.ref a9_0)])) t
    exact k
  obtain ⟨T18, h18, X18, e18, W18, st18⟩ := putF X12 hx hZ hown (host := "") (Or.inl (hw _ (List.mem_of_getElem? (i := 58) rfl))) Via.refl rfl f14 f13 (Or.inr ⟨(hw _ (List.mem_of_getElem? (i := 59) rfl)), rfl, hnm⟩) (hw _ (List.mem_of_getElem? (i := 46) rfl)) (ty := .long) (by decide) rfl rfl (g := (mkF m 6 #[.val (.ref a9_0), .val (.long q9_1), .second] [(.long q9_1), (.ref a9_0)])) rfl rfl (hb hby d9_6)
  have f19 := f14.same W18
  have f20 := f13.wr W18
  have K22 : Keep h0 h18 [a9_0] := K15.wr W18 (Or.inl (List.mem_of_getElem? (i := 0) rfl))
  have N23 := Fr.snoc X18 N17 ge_a9_0
  have Z24 := (Nat.le_trans Z16 (Keep.of_wr W18).1)
  refine own_by (T' := T18) (g' := (mkF m 9 #[.val (.ref a9_0), .val (.long q9_1), .second] [])) st18 ?_
  exact own_ret0 X18 hx Bd.returns (hb hby d9_9) hlk (by decide) (by decide) (by rw [e18]; exact ⟨rfl, N23, K22, f20, f19⟩)
theorem d7_0 : decode jdk_35_method_24_code 0 = .ok (.sipush 128, 3) := by decide +kernel
theorem d7_3 : decode jdk_35_method_24_code 3 = .ok (.istore_n 2, 1) := by decide +kernel
theorem d7_4 : decode jdk_35_method_24_code 4 = .ok (.lload_n 0, 1) := by decide +kernel
theorem d7_5 : decode jdk_35_method_24_code 5 = .ok (.ldc2_w 230, 3) := by decide +kernel
theorem d7_8 : decode jdk_35_method_24_code 8 = .ok (.lcmp, 1) := by decide +kernel
theorem d7_9 : decode jdk_35_method_24_code 9 = .ok (.ifCond .lt 22, 3) := by decide +kernel
theorem d7_31 : decode jdk_35_method_24_code 31 = .ok (.new 1, 3) := by decide +kernel
theorem d7_34 : decode jdk_35_method_24_code 34 = .ok (.dup, 1) := by decide +kernel
theorem d7_35 : decode jdk_35_method_24_code 35 = .ok (.lload_n 0, 1) := by decide +kernel
theorem d7_36 : decode jdk_35_method_24_code 36 = .ok (.invokespecial 240, 3) := by decide +kernel
theorem pd__J_V : parseMethodDescriptor "(J)V" = some ⟨[.long], none⟩ := by decide +kernel
theorem d7_39 : decode jdk_35_method_24_code 39 = .ok (.areturn, 1) := by decide +kernel
theorem d7_12 : decode jdk_35_method_24_code 12 = .ok (.lload_n 0, 1) := by decide +kernel
theorem d7_13 : decode jdk_35_method_24_code 13 = .ok (.ldc2_w 232, 3) := by decide +kernel
theorem d7_16 : decode jdk_35_method_24_code 16 = .ok (.lcmp, 1) := by decide +kernel
theorem d7_17 : decode jdk_35_method_24_code 17 = .ok (.ifCond .gt 14, 3) := by decide +kernel
theorem d7_20 : decode jdk_35_method_24_code 20 = .ok (.getstatic 234, 3) := by decide +kernel
theorem d7_23 : decode jdk_35_method_24_code 23 = .ok (.lload_n 0, 1) := by decide +kernel
theorem d7_24 : decode jdk_35_method_24_code 24 = .ok (.l2i, 1) := by decide +kernel
theorem d7_25 : decode jdk_35_method_24_code 25 = .ok (.sipush 128, 3) := by decide +kernel
theorem d7_28 : decode jdk_35_method_24_code 28 = .ok (.iadd, 1) := by decide +kernel
theorem d7_29 : decode jdk_35_method_24_code 29 = .ok (.aaload, 1) := by decide +kernel
theorem d7_30 : decode jdk_35_method_24_code 30 = .ok (.areturn, 1) := by decide +kernel
theorem own_ef7 (m : MethodId) (x0 : Int64) : entryFrame m #[(.long x0)] 3 = mkF m 0 #[.val (.long x0), .second, .unset] [] := by first | (simp [entryFrame, mkF, argsToLocals, Value.category]; done) | rfl
def own_Q7 (Z : State) (q7_0 : Int64) (wLC : Addr) (cLC : Cell) (h0 : Heap) (n0 : Nat) (v : Option Value) (h : Heap) (L : List Loc) : Prop := ∃ b : Addr, v = some (.ref b) ∧ Fr n0 L ∧ Keep h0 h [] ∧ Exa Z h b "java/lang/Long"
set_option maxRecDepth 65536 in
set_option maxHeartbeats 40000000 in
theorem own_rm7 (l : Launch) (Z : State) (a0 : Array Value) (hw : ∀ d ∈ tables_1, d.before a0 Z = true) (ws : List Jvm.Cond) (q7_0 : Int64) (wLC : Addr) (cLC : Cell) (h0 : Heap) (n0 : Nat) (Z0 : n0 ≤ h0.size) (O0 : Old Z n0 h0) (SLC : Sta Z Z.heap "java/lang/Long$LongCache" "cache" "[Ljava/lang/Long;" (.ref wLC)) (BLC : Bxs Z wLC cLC "java/lang/Long" "J" (256 : Int32) (fun j => .long (j - 128).toInt64)) :
    MetFree l (⟨"java/lang/Long", "valueOf", "(J)Ljava/lang/Long;"⟩ : MethodName) (head1 (Jvm.Cond.code (⟨"java/lang/Long", "valueOf", "(J)Ljava/lang/Long;"⟩ : MethodName) jdk_35_method_24_code 3 (some (.object "java/lang/Long")) :: ws) ({ frames := 3, cells := 1, slots := 1, locals := 39 } : Room)) (fun a U => a = #[(.long q7_0)] ∧ Z.Warmed39 U.vm ∧ U.heap = h0) (fun _ _ _ _ _ => True) (fun _ U o U' => ∃ v L, o = .returned v ∧ own_Q7 Z q7_0 wLC cLC h0 n0 v U'.heap L ∧ FrameEnd U o U' L ({ frames := 3, cells := 1, slots := 1, locals := 39 } : Room).cells ({ frames := 3, cells := 1, slots := 1, locals := 39 } : Room).slots) := by
  refine MetFree.of_bodySF (plainFor_of_name pn_java_lang_Long) hisR ?_
  intro p e s m args below meth c s₁ Bd hml0 hP hK
  obtain ⟨rfl, hZ, hh⟩ := hP
  have hx := Bd.exec
  have hby := Bd.bytes
  have hlk : meth.locks = false := BodyLoose.notSynchronized Bd
  have hml : c.maxLocals = 3 := hml0
  have hown : s.vm.findClass "java/lang/Long" = some m.cls := findClass_of_methodNamed Bd.named
  have hnm := (name_of_methodNamed Bd.named Bd.method).1
  have X0 : Stand p l e ({ frames := 3, cells := 1, slots := 1, locals := 39 } : Room) s m #[(.long q7_0)] below meth c s₁ [] 0 0 := Stand.of_body Bd
  have e0 : s₁.heap = h0 := by rw [← hh, Bd.state]; rfl
  have N0 := Fr.nil n0
  show own_Go p e below (own_P s below ({ frames := 3, cells := 1, slots := 1, locals := 39 } : Room) (own_Q7 Z q7_0 wLC cLC h0 n0)) s₁ (entryFrame m #[(.long q7_0)] 3)
  refine own_in (own_ef7 m q7_0) ?_
  refine own_by (T' := s₁) (g' := (mkF m 9 #[.val (.long q7_0), .second, .val (.int (128 : Int32))] [(.int (lcmpW q7_0 (-128 : Int64)))])) (fun t k => ?_) ?_
  · show Steps p.tables e below (s₁.setTop (mkF m 0 #[.val (.long q7_0), .second, .unset] [])) t
    refine XS.sipush X0.here hx rfl (hb hby d7_0) ?_
    show Steps p.tables e below (s₁.setTop (mkF m 3 #[.val (.long q7_0), .second, .unset] [(.int (128 : Int32))])) t
    refine XS.istoreN X0.here hx rfl (hb hby d7_3) rfl (l' := #[.val (.long q7_0), .second, .val (.int (128 : Int32))]) rfl ?_
    show Steps p.tables e below (s₁.setTop (mkF m 4 #[.val (.long q7_0), .second, .val (.int (128 : Int32))] [])) t
    refine XS.lloadN X0.here hx rfl (hb hby d7_4) rfl ?_
    show Steps p.tables e below (s₁.setTop (mkF m 5 #[.val (.long q7_0), .second, .val (.int (128 : Int32))] [(.long q7_0)])) t
    refine X0.ldc2Long hx hown (mvT hZ (hw _ (List.mem_of_getElem? (i := 31) rfl))) (g := (mkF m 5 #[.val (.long q7_0), .second, .val (.int (128 : Int32))] [(.long q7_0)])) rfl (hb hby d7_5) _ ?_
    show Steps p.tables e below (s₁.setTop (mkF m 8 #[.val (.long q7_0), .second, .val (.int (128 : Int32))] [(.long (-128 : Int64)), (.long q7_0)])) t
    refine XS.lcmp X0.here hx rfl (hb hby d7_8) rfl ?_
    show Steps p.tables e below (s₁.setTop (mkF m 9 #[.val (.long q7_0), .second, .val (.int (128 : Int32))] [(.int (lcmpW q7_0 (-128 : Int64)))])) t
    exact k
  by_cases hc25 : q7_0 < (-128 : Int64)
  · skip
    refine own_by (T' := s₁) (g' := (mkF m 31 #[.val (.long q7_0), .second, .val (.int (128 : Int32))] [])) (fun t k => ?_) ?_
    · show Steps p.tables e below (s₁.setTop (mkF m 9 #[.val (.long q7_0), .second, .val (.int (128 : Int32))] [(.int (lcmpW q7_0 (-128 : Int64)))])) t
      refine XS.ifYes X0.here hx rfl (pc0 := 9) (pc' := 31) rfl (hb hby d7_9) rfl ((if0 _ _).trans (tlt ((lw_lt _ _).mpr hc25)).1) (by decide) (by decide) ?_
      show Steps p.tables e below (s₁.setTop (mkF m 31 #[.val (.long q7_0), .second, .val (.int (128 : Int32))] [])) t
      exact k
    obtain ⟨T26, h26, X26, e26, E26, A26, D26, -, st26⟩ := newO X0 hx hZ hown (hw _ (List.mem_of_getElem? (i := 45) rfl)) (hw _ (List.mem_of_getElem? (i := 46) rfl)) (hw _ (List.mem_of_getElem? (i := 29) rfl)) e0 (g := (mkF m 31 #[.val (.long q7_0), .second, .val (.int (128 : Int32))] [])) rfl (hb hby d7_31) (by decide) (by decide)
    obtain ⟨b26, g26⟩ : ∃ z, z = h0.size := ⟨_, rfl⟩
    rw [← g26] at A26 D26 st26
    have gn_b26 : n0 ≤ b26 := Nat.le_trans Z0 (Nat.le_of_eq g26.symm)
    have sz_b26 : h0.size ≤ b26 := Nat.le_trans (Keep.refl h0 []).1 (Nat.le_of_eq g26.symm)
    have K27 : Keep h0 h26 [] := (Keep.refl h0 []).ext E26
    have O28 := O0.ext E26
    have Z29 := Nat.le_trans Z0 E26.1
    have f30 : Fld Z h26 b26 "java/lang/Long" "value" "J" (.long (0 : Int64)) := D26 (Or.inr (hw _ (List.mem_of_getElem? (i := 59) rfl))) (ty := .long) (by decide)
    refine own_by (T' := T26) (g' := (mkF m 34 #[.val (.long q7_0), .second, .val (.int (128 : Int32))] [(.ref b26)])) st26 ?_
    refine own_by (T' := T26) (g' := (mkF m 36 #[.val (.long q7_0), .second, .val (.int (128 : Int32))] [(.long q7_0), (.ref b26), (.ref b26)])) (fun t k => ?_) ?_
    · show Steps p.tables e below (T26.setTop (mkF m 34 #[.val (.long q7_0), .second, .val (.int (128 : Int32))] [(.ref b26)])) t
      refine XS.dup X26.here hx rfl (hb hby d7_34) rfl rfl ?_
      show Steps p.tables e below (T26.setTop (mkF m 35 #[.val (.long q7_0), .second, .val (.int (128 : Int32))] [(.ref b26), (.ref b26)])) t
      refine XS.lloadN X26.here hx rfl (hb hby d7_35) rfl ?_
      show Steps p.tables e below (T26.setTop (mkF m 36 #[.val (.long q7_0), .second, .val (.int (128 : Int32))] [(.long q7_0), (.ref b26), (.ref b26)])) t
      exact k
    obtain ⟨v31, _, ⟨T31, L31, k31, n31⟩, -, X31, ⟨Lc31, hQ31, l31, y31, z31⟩, st31⟩ := X26.specialBack hx (y := (⟨"java/lang/Long", "<init>", "(J)V"⟩ : MethodName)) rfl hown (mvT hZ (hw _ (List.mem_of_getElem? (i := 47) rfl))) (mvT hZ (hw _ (List.mem_of_getElem? (i := 48) rfl))) (mvT hZ (hw _ (List.mem_of_getElem? (i := 50) rfl))) (by decide) (backOf (W := 1) (own_rm9 l Z a0 hw [] b26 q7_0 (.long (0 : Int64)) h26 n0 Z29 A26 f30 gn_b26) hZ (hw _ (List.mem_of_getElem? (i := 50) rfl)) (hw _ (List.mem_of_getElem? (i := 29) rfl)) (by decide) (by decide)) (g := (mkF m 36 #[.val (.long q7_0), .second, .val (.int (128 : Int32))] [(.long q7_0), (.ref b26), (.ref b26)])) rfl (by rw [hml]; rfl) (Steps.refl _) (a := b26) (argsL := [(.long q7_0)]) (rest := [(.ref b26)]) (lenOf pd__J_V rfl) rfl (by show 2 * 0 + _ ≤ _; exact Nat.le_of_eq rfl) (hb hby d7_36) (fun _ _ => ⟨rfl, e26, (by decide : 1 + 0 ≤ _), (by decide : 1 + 0 ≤ _)⟩)
    dsimp only [Pt.U, Pt.locs, Pt.cells, Pt.slots] at X31 l31 y31 z31 st31 hQ31
    subst l31 y31 z31
    obtain ⟨rfl, M31, K31, f32, f33⟩ := hQ31
    have f34 := A26.keep K31
    have K35 : Keep h0 T31.heap [] := K27.trans K31 (allS (Or.inr sz_b26) all0)
    have O36 := O28.keep K31 (allS gn_b26 all0)
    have Z37 := Nat.le_trans Z29 K31.1
    have N38 := Fr.app N0 M31
    refine own_via (T' := T31) (g' := (mkF m 39 #[.val (.long q7_0), .second, .val (.int (128 : Int32))] [(.ref b26)])) st31 ?_
    exact own_retR X31 hx Bd.returns rfl rfl rfl (hb hby d7_39) hlk (by decide) (by decide) ⟨b26, rfl, N38, K35, f32⟩
  · skip
    refine own_by (T' := s₁) (g' := (mkF m 17 #[.val (.long q7_0), .second, .val (.int (128 : Int32))] [(.int (lcmpW q7_0 (127 : Int64)))])) (fun t k => ?_) ?_
    · show Steps p.tables e below (s₁.setTop (mkF m 9 #[.val (.long q7_0), .second, .val (.int (128 : Int32))] [(.int (lcmpW q7_0 (-128 : Int64)))])) t
      refine XS.ifNo X0.here hx rfl (hb hby d7_9) rfl ((if0 _ _).trans (flt (fun q => hc25 ((lw_lt _ _).mp q))).1) ?_
      show Steps p.tables e below (s₁.setTop (mkF m 12 #[.val (.long q7_0), .second, .val (.int (128 : Int32))] [])) t
      refine XS.lloadN X0.here hx rfl (hb hby d7_12) rfl ?_
      show Steps p.tables e below (s₁.setTop (mkF m 13 #[.val (.long q7_0), .second, .val (.int (128 : Int32))] [(.long q7_0)])) t
      refine X0.ldc2Long hx hown (mvT hZ (hw _ (List.mem_of_getElem? (i := 32) rfl))) (g := (mkF m 13 #[.val (.long q7_0), .second, .val (.int (128 : Int32))] [(.long q7_0)])) rfl (hb hby d7_13) _ ?_
      show Steps p.tables e below (s₁.setTop (mkF m 16 #[.val (.long q7_0), .second, .val (.int (128 : Int32))] [(.long (127 : Int64)), (.long q7_0)])) t
      refine XS.lcmp X0.here hx rfl (hb hby d7_16) rfl ?_
      show Steps p.tables e below (s₁.setTop (mkF m 17 #[.val (.long q7_0), .second, .val (.int (128 : Int32))] [(.int (lcmpW q7_0 (127 : Int64)))])) t
      exact k
    by_cases hc39 : (127 : Int64) < q7_0
    · skip
      refine own_by (T' := s₁) (g' := (mkF m 31 #[.val (.long q7_0), .second, .val (.int (128 : Int32))] [])) (fun t k => ?_) ?_
      · show Steps p.tables e below (s₁.setTop (mkF m 17 #[.val (.long q7_0), .second, .val (.int (128 : Int32))] [(.int (lcmpW q7_0 (127 : Int64)))])) t
        refine XS.ifYes X0.here hx rfl (pc0 := 17) (pc' := 31) rfl (hb hby d7_17) rfl ((if0 _ _).trans (tlt ((lw_gt _ _).mpr hc39)).2.2.1) (by decide) (by decide) ?_
        show Steps p.tables e below (s₁.setTop (mkF m 31 #[.val (.long q7_0), .second, .val (.int (128 : Int32))] [])) t
        exact k
      obtain ⟨T40, h40, X40, e40, E40, A40, D40, -, st40⟩ := newO X0 hx hZ hown (hw _ (List.mem_of_getElem? (i := 45) rfl)) (hw _ (List.mem_of_getElem? (i := 46) rfl)) (hw _ (List.mem_of_getElem? (i := 29) rfl)) e0 (g := (mkF m 31 #[.val (.long q7_0), .second, .val (.int (128 : Int32))] [])) rfl (hb hby d7_31) (by decide) (by decide)
      obtain ⟨b40, g40⟩ : ∃ z, z = h0.size := ⟨_, rfl⟩
      rw [← g40] at A40 D40 st40
      have gn_b40 : n0 ≤ b40 := Nat.le_trans Z0 (Nat.le_of_eq g40.symm)
      have sz_b40 : h0.size ≤ b40 := Nat.le_trans (Keep.refl h0 []).1 (Nat.le_of_eq g40.symm)
      have K41 : Keep h0 h40 [] := (Keep.refl h0 []).ext E40
      have O42 := O0.ext E40
      have Z43 := Nat.le_trans Z0 E40.1
      have f44 : Fld Z h40 b40 "java/lang/Long" "value" "J" (.long (0 : Int64)) := D40 (Or.inr (hw _ (List.mem_of_getElem? (i := 59) rfl))) (ty := .long) (by decide)
      refine own_by (T' := T40) (g' := (mkF m 34 #[.val (.long q7_0), .second, .val (.int (128 : Int32))] [(.ref b40)])) st40 ?_
      refine own_by (T' := T40) (g' := (mkF m 36 #[.val (.long q7_0), .second, .val (.int (128 : Int32))] [(.long q7_0), (.ref b40), (.ref b40)])) (fun t k => ?_) ?_
      · show Steps p.tables e below (T40.setTop (mkF m 34 #[.val (.long q7_0), .second, .val (.int (128 : Int32))] [(.ref b40)])) t
        refine XS.dup X40.here hx rfl (hb hby d7_34) rfl rfl ?_
        show Steps p.tables e below (T40.setTop (mkF m 35 #[.val (.long q7_0), .second, .val (.int (128 : Int32))] [(.ref b40), (.ref b40)])) t
        refine XS.lloadN X40.here hx rfl (hb hby d7_35) rfl ?_
        show Steps p.tables e below (T40.setTop (mkF m 36 #[.val (.long q7_0), .second, .val (.int (128 : Int32))] [(.long q7_0), (.ref b40), (.ref b40)])) t
        exact k
      obtain ⟨v45, _, ⟨T45, L45, k45, n45⟩, -, X45, ⟨Lc45, hQ45, l45, y45, z45⟩, st45⟩ := X40.specialBack hx (y := (⟨"java/lang/Long", "<init>", "(J)V"⟩ : MethodName)) rfl hown (mvT hZ (hw _ (List.mem_of_getElem? (i := 47) rfl))) (mvT hZ (hw _ (List.mem_of_getElem? (i := 48) rfl))) (mvT hZ (hw _ (List.mem_of_getElem? (i := 50) rfl))) (by decide) (backOf (W := 1) (own_rm9 l Z a0 hw [] b40 q7_0 (.long (0 : Int64)) h40 n0 Z43 A40 f44 gn_b40) hZ (hw _ (List.mem_of_getElem? (i := 50) rfl)) (hw _ (List.mem_of_getElem? (i := 29) rfl)) (by decide) (by decide)) (g := (mkF m 36 #[.val (.long q7_0), .second, .val (.int (128 : Int32))] [(.long q7_0), (.ref b40), (.ref b40)])) rfl (by rw [hml]; rfl) (Steps.refl _) (a := b40) (argsL := [(.long q7_0)]) (rest := [(.ref b40)]) (lenOf pd__J_V rfl) rfl (by show 2 * 0 + _ ≤ _; exact Nat.le_of_eq rfl) (hb hby d7_36) (fun _ _ => ⟨rfl, e40, (by decide : 1 + 0 ≤ _), (by decide : 1 + 0 ≤ _)⟩)
      dsimp only [Pt.U, Pt.locs, Pt.cells, Pt.slots] at X45 l45 y45 z45 st45 hQ45
      subst l45 y45 z45
      obtain ⟨rfl, M45, K45, f46, f47⟩ := hQ45
      have f48 := A40.keep K45
      have K49 : Keep h0 T45.heap [] := K41.trans K45 (allS (Or.inr sz_b40) all0)
      have O50 := O42.keep K45 (allS gn_b40 all0)
      have Z51 := Nat.le_trans Z43 K45.1
      have N52 := Fr.app N0 M45
      refine own_via (T' := T45) (g' := (mkF m 39 #[.val (.long q7_0), .second, .val (.int (128 : Int32))] [(.ref b40)])) st45 ?_
      exact own_retR X45 hx Bd.returns rfl rfl rfl (hb hby d7_39) hlk (by decide) (by decide) ⟨b40, rfl, N52, K49, f46⟩
    · skip
      refine own_by (T' := s₁) (g' := (mkF m 20 #[.val (.long q7_0), .second, .val (.int (128 : Int32))] [])) (fun t k => ?_) ?_
      · show Steps p.tables e below (s₁.setTop (mkF m 17 #[.val (.long q7_0), .second, .val (.int (128 : Int32))] [(.int (lcmpW q7_0 (127 : Int64)))])) t
        refine XS.ifNo X0.here hx rfl (hb hby d7_17) rfl ((if0 _ _).trans (flt (fun q => hc39 ((lw_gt _ _).mp q))).2.2.1) ?_
        show Steps p.tables e below (s₁.setTop (mkF m 20 #[.val (.long q7_0), .second, .val (.int (128 : Int32))] [])) t
        exact k
      obtain ⟨T53, X53, e53, st53⟩ := getS2 X0 hx hZ hown (host := "") (Or.inl (hw _ (List.mem_of_getElem? (i := 33) rfl))) Via.refl e0 (SLC.ext O0.2) (g := (mkF m 20 #[.val (.long q7_0), .second, .val (.int (128 : Int32))] [])) rfl (hb hby d7_20)
      refine own_by (T' := T53) (g' := (mkF m 23 #[.val (.long q7_0), .second, .val (.int (128 : Int32))] [(.ref wLC)])) st53 ?_
      refine own_by (T' := T53) (g' := (mkF m 29 #[.val (.long q7_0), .second, .val (.int (128 : Int32))] [(.int ((q7_0.toInt32) + (128 : Int32))), (.ref wLC)])) (fun t k => ?_) ?_
      · show Steps p.tables e below (T53.setTop (mkF m 23 #[.val (.long q7_0), .second, .val (.int (128 : Int32))] [(.ref wLC)])) t
        refine XS.lloadN X53.here hx rfl (hb hby d7_23) rfl ?_
        show Steps p.tables e below (T53.setTop (mkF m 24 #[.val (.long q7_0), .second, .val (.int (128 : Int32))] [(.long q7_0), (.ref wLC)])) t
        refine XS.l2i X53.here hx rfl (hb hby d7_24) rfl ?_
        show Steps p.tables e below (T53.setTop (mkF m 25 #[.val (.long q7_0), .second, .val (.int (128 : Int32))] [(.int (q7_0.toInt32)), (.ref wLC)])) t
        refine XS.sipush X53.here hx rfl (hb hby d7_25) ?_
        show Steps p.tables e below (T53.setTop (mkF m 28 #[.val (.long q7_0), .second, .val (.int (128 : Int32))] [(.int (128 : Int32)), (.int (q7_0.toInt32)), (.ref wLC)])) t
        refine XS.iadd X53.here hx rfl (hb hby d7_28) rfl ?_
        show Steps p.tables e below (T53.setTop (mkF m 29 #[.val (.long q7_0), .second, .val (.int (128 : Int32))] [(.int ((q7_0.toInt32) + (128 : Int32))), (.ref wLC)])) t
        exact k
      have hin54 := inb_of BLC.2.1 (j := ((q7_0.toInt32) + (128 : Int32))) (own_lidx q7_0 hc25 hc39)
      obtain ⟨c54, hp54, Ee54, Fe54⟩ := BLC.2.2.2 _ hin54
      refine own_by (T' := T53) (g' := (mkF m 30 #[.val (.long q7_0), .second, .val (.int (128 : Int32))] [(.ref c54)])) (fun t k => X53.aaload hx (j := ((q7_0.toInt32) + (128 : Int32))) (v := (.ref c54)) (by rw [e53]; exact (BLC.1.ext O0.2).1) (State.isArrayOf_alike hZ.alike BLC.1.2.1) rfl BLC.1.2.2 hin54 hp54 (g := (mkF m 29 #[.val (.long q7_0), .second, .val (.int (128 : Int32))] [(.int ((q7_0.toInt32) + (128 : Int32))), (.ref wLC)])) rfl rfl (hb hby d7_29) t k) ?_
      exact own_retR X53 hx Bd.returns rfl rfl rfl (hb hby d7_30) hlk (by decide) (by decide) (by rw [e53]; exact ⟨c54, rfl, N0, (Keep.refl h0 []), (Ee54.ext O0.2)⟩)
theorem d5_0 : decode prog_7_method_1_code 0 = .ok (.aload_n 0, 1) := by decide +kernel
theorem d5_1 : decode prog_7_method_1_code 1 = .ok (.invokespecial 1, 3) := by decide +kernel
theorem d5_4 : decode prog_7_method_1_code 4 = .ok (.lload_n 1, 1) := by decide +kernel
theorem d5_5 : decode prog_7_method_1_code 5 = .ok (.lload_n 3, 1) := by decide +kernel
theorem d5_6 : decode prog_7_method_1_code 6 = .ok (.lcmp, 1) := by decide +kernel
theorem d5_7 : decode prog_7_method_1_code 7 = .ok (.ifCond .lt 18, 3) := by decide +kernel
theorem d5_25 : decode prog_7_method_1_code 25 = .ok (.aload_n 0, 1) := by decide +kernel
theorem d5_26 : decode prog_7_method_1_code 26 = .ok (.lload_n 1, 1) := by decide +kernel
theorem d5_27 : decode prog_7_method_1_code 27 = .ok (.putfield 16, 3) := by decide +kernel
theorem d5_30 : decode prog_7_method_1_code 30 = .ok (.aload_n 0, 1) := by decide +kernel
theorem d5_31 : decode prog_7_method_1_code 31 = .ok (.lload_n 3, 1) := by decide +kernel
theorem d5_32 : decode prog_7_method_1_code 32 = .ok (.putfield 22, 3) := by decide +kernel
theorem d5_35 : decode prog_7_method_1_code 35 = .ok (.return_, 1) := by decide +kernel
theorem pn_com_example_vasto_vasto_cluster_TokenRange : plainName "com/example/vasto/vasto/cluster/TokenRange" = true := by first | (simp [plainName, overriddenIn]; done) | decide +kernel
theorem own_ef5 (m : MethodId) (x0 : Addr) (x1 : Int64) (x2 : Int64) : entryFrame m #[(.ref x0), (.long x1), (.long x2)] 5 = mkF m 0 #[.val (.ref x0), .val (.long x1), .second, .val (.long x2), .second] [] := by first | (simp [entryFrame, mkF, argsToLocals, Value.category]; done) | rfl
def own_Q5 (Z : State) (a5_0 : Addr) (q5_1 : Int64) (q5_2 : Int64) (u_left_a5_0 : Value) (u_right_a5_0 : Value) (h0 : Heap) (n0 : Nat) (v : Option Value) (h : Heap) (L : List Loc) : Prop := v = none ∧ Fr n0 L ∧ Keep h0 h [a5_0] ∧ Exa Z h a5_0 "com/example/vasto/vasto/cluster/TokenRange" ∧ Fld Z h a5_0 "com/example/vasto/vasto/cluster/TokenRange" "left" "J" (.long q5_1) ∧ Fld Z h a5_0 "com/example/vasto/vasto/cluster/TokenRange" "right" "J" (.long q5_2)
set_option maxRecDepth 65536 in
set_option maxHeartbeats 40000000 in
theorem own_rm5 (l : Launch) (Z : State) (a0 : Array Value) (hw : ∀ d ∈ tables_1, d.before a0 Z = true) (ws : List Jvm.Cond) (a5_0 : Addr) (q5_1 : Int64) (q5_2 : Int64) (u_left_a5_0 : Value) (u_right_a5_0 : Value) (h0 : Heap) (n0 : Nat) (Z0 : n0 ≤ h0.size) (HLT : q5_1 < q5_2) (E_a5_0 : Exa Z h0 a5_0 "com/example/vasto/vasto/cluster/TokenRange") (F_left_a5_0 : Fld Z h0 a5_0 "com/example/vasto/vasto/cluster/TokenRange" "left" "J" u_left_a5_0) (ge_a5_0 : n0 ≤ a5_0) (F_right_a5_0 : Fld Z h0 a5_0 "com/example/vasto/vasto/cluster/TokenRange" "right" "J" u_right_a5_0) :
    MetFree l (⟨"com/example/vasto/vasto/cluster/TokenRange", "<init>", "(JJ)V"⟩ : MethodName) (head1 (Jvm.Cond.code (⟨"com/example/vasto/vasto/cluster/TokenRange", "<init>", "(JJ)V"⟩ : MethodName) prog_7_method_1_code 5 none :: ws) ({ frames := 1, cells := 0, slots := 0, locals := 12 } : Room)) (fun a U => a = #[(.ref a5_0), (.long q5_1), (.long q5_2)] ∧ Z.Warmed39 U.vm ∧ U.heap = h0) (fun _ _ _ _ _ => True) (fun _ U o U' => ∃ v L, o = .returned v ∧ own_Q5 Z a5_0 q5_1 q5_2 u_left_a5_0 u_right_a5_0 h0 n0 v U'.heap L ∧ FrameEnd U o U' L ({ frames := 1, cells := 0, slots := 0, locals := 12 } : Room).cells ({ frames := 1, cells := 0, slots := 0, locals := 12 } : Room).slots) := by
  refine MetFree.of_bodySF (plainFor_of_name pn_com_example_vasto_vasto_cluster_TokenRange) hisR ?_
  intro p e s m args below meth c s₁ Bd hml0 hP hK
  obtain ⟨rfl, hZ, hh⟩ := hP
  have hx := Bd.exec
  have hby := Bd.bytes
  have hlk : meth.locks = false := BodyLoose.notSynchronized Bd
  have hml : c.maxLocals = 5 := hml0
  have hown : s.vm.findClass "com/example/vasto/vasto/cluster/TokenRange" = some m.cls := findClass_of_methodNamed Bd.named
  have hnm := (name_of_methodNamed Bd.named Bd.method).1
  have X0 : Stand p l e ({ frames := 1, cells := 0, slots := 0, locals := 12 } : Room) s m #[(.ref a5_0), (.long q5_1), (.long q5_2)] below meth c s₁ [] 0 0 := Stand.of_body Bd
  have e0 : s₁.heap = h0 := by rw [← hh, Bd.state]; rfl
  have N0 := Fr.nil n0
  show own_Go p e below (own_P s below ({ frames := 1, cells := 0, slots := 0, locals := 12 } : Room) (own_Q5 Z a5_0 q5_1 q5_2 u_left_a5_0 u_right_a5_0 h0 n0)) s₁ (entryFrame m #[(.ref a5_0), (.long q5_1), (.long q5_2)] 5)
  refine own_in (own_ef5 m a5_0 q5_1 q5_2) ?_
  refine own_by (T' := s₁) (g' := (mkF m 1 #[.val (.ref a5_0), .val (.long q5_1), .second, .val (.long q5_2), .second] [(.ref a5_0)])) (fun t k => ?_) ?_
  · show Steps p.tables e below (s₁.setTop (mkF m 0 #[.val (.ref a5_0), .val (.long q5_1), .second, .val (.long q5_2), .second] [])) t
    refine XS.aloadN X0.here hx rfl (hb hby d5_0) rfl rfl ?_
    show Steps p.tables e below (s₁.setTop (mkF m 1 #[.val (.ref a5_0), .val (.long q5_1), .second, .val (.long q5_2), .second] [(.ref a5_0)])) t
    exact k
  obtain ⟨T55, X55, e55, st55⟩ := initO X0 hx hZ hown (hw _ (List.mem_of_getElem? (i := 20) rfl)) (hw _ (List.mem_of_getElem? (i := 21) rfl)) (hw _ (List.mem_of_getElem? (i := 22) rfl)) e0 (g := (mkF m 1 #[.val (.ref a5_0), .val (.long q5_1), .second, .val (.long q5_2), .second] [(.ref a5_0)])) rfl (by rw [hml]; rfl) rfl (hb hby d5_1) (by decide) (W := 0) (by show 2 * 0 + _ ≤ _; exact Nat.le_of_eq rfl) (by decide)
  refine own_by (T' := T55) (g' := (mkF m 4 #[.val (.ref a5_0), .val (.long q5_1), .second, .val (.long q5_2), .second] [])) st55 ?_
  refine own_by (T' := T55) (g' := (mkF m 27 #[.val (.ref a5_0), .val (.long q5_1), .second, .val (.long q5_2), .second] [(.long q5_1), (.ref a5_0)])) (fun t k => ?_) ?_
  · show Steps p.tables e below (T55.setTop (mkF m 4 #[.val (.ref a5_0), .val (.long q5_1), .second, .val (.long q5_2), .second] [])) t
    refine XS.lloadN X55.here hx rfl (hb hby d5_4) rfl ?_
    show Steps p.tables e below (T55.setTop (mkF m 5 #[.val (.ref a5_0), .val (.long q5_1), .second, .val (.long q5_2), .second] [(.long q5_1)])) t
    refine XS.lloadN X55.here hx rfl (hb hby d5_5) rfl ?_
    show Steps p.tables e below (T55.setTop (mkF m 6 #[.val (.ref a5_0), .val (.long q5_1), .second, .val (.long q5_2), .second] [(.long q5_2), (.long q5_1)])) t
    refine XS.lcmp X55.here hx rfl (hb hby d5_6) rfl ?_
    show Steps p.tables e below (T55.setTop (mkF m 7 #[.val (.ref a5_0), .val (.long q5_1), .second, .val (.long q5_2), .second] [(.int (lcmpW q5_1 q5_2))])) t
    refine XS.ifYes X55.here hx rfl (pc0 := 7) (pc' := 25) rfl (hb hby d5_7) rfl ((if0 _ _).trans (tlt ((lw_lt _ _).mpr HLT)).1) (by decide) (by decide) ?_
    show Steps p.tables e below (T55.setTop (mkF m 25 #[.val (.ref a5_0), .val (.long q5_1), .second, .val (.long q5_2), .second] [])) t
    refine XS.aloadN X55.here hx rfl (hb hby d5_25) rfl rfl ?_
    show Steps p.tables e below (T55.setTop (mkF m 26 #[.val (.ref a5_0), .val (.long q5_1), .second, .val (.long q5_2), .second] [(.ref a5_0)])) t
    refine XS.lloadN X55.here hx rfl (hb hby d5_26) rfl ?_
    show Steps p.tables e below (T55.setTop (mkF m 27 #[.val (.ref a5_0), .val (.long q5_1), .second, .val (.long q5_2), .second] [(.long q5_1), (.ref a5_0)])) t
    exact k
  obtain ⟨T56, h56, X56, e56, W56, st56⟩ := putF X55 hx hZ hown (host := "") (Or.inl (hw _ (List.mem_of_getElem? (i := 23) rfl))) Via.refl e55 F_left_a5_0 E_a5_0 (Or.inr ⟨(hw _ (List.mem_of_getElem? (i := 24) rfl)), rfl, hnm⟩) (hw _ (List.mem_of_getElem? (i := 15) rfl)) (ty := .long) (by decide) rfl rfl (g := (mkF m 27 #[.val (.ref a5_0), .val (.long q5_1), .second, .val (.long q5_2), .second] [(.long q5_1), (.ref a5_0)])) rfl rfl (hb hby d5_27)
  have f57 := F_left_a5_0.same W56
  have f58 := E_a5_0.wr W56
  have f60 := F_right_a5_0.other W56 (Or.inr (slot_ne (Or.inr (hw _ (List.mem_of_getElem? (i := 26) rfl))) (Or.inr (hw _ (List.mem_of_getElem? (i := 24) rfl))) (by decide) (t := .long) (t' := .long) (by decide) (by decide)))
  have K61 : Keep h0 h56 [a5_0] := (Keep.refl h0 [a5_0]).wr W56 (Or.inl (List.mem_of_getElem? (i := 0) rfl))
  have N62 := Fr.snoc X56 N0 ge_a5_0
  have Z63 := (Nat.le_trans Z0 (Keep.of_wr W56).1)
  refine own_by (T' := T56) (g' := (mkF m 30 #[.val (.ref a5_0), .val (.long q5_1), .second, .val (.long q5_2), .second] [])) st56 ?_
  refine own_by (T' := T56) (g' := (mkF m 32 #[.val (.ref a5_0), .val (.long q5_1), .second, .val (.long q5_2), .second] [(.long q5_2), (.ref a5_0)])) (fun t k => ?_) ?_
  · show Steps p.tables e below (T56.setTop (mkF m 30 #[.val (.ref a5_0), .val (.long q5_1), .second, .val (.long q5_2), .second] [])) t
    refine XS.aloadN X56.here hx rfl (hb hby d5_30) rfl rfl ?_
    show Steps p.tables e below (T56.setTop (mkF m 31 #[.val (.ref a5_0), .val (.long q5_1), .second, .val (.long q5_2), .second] [(.ref a5_0)])) t
    refine XS.lloadN X56.here hx rfl (hb hby d5_31) rfl ?_
    show Steps p.tables e below (T56.setTop (mkF m 32 #[.val (.ref a5_0), .val (.long q5_1), .second, .val (.long q5_2), .second] [(.long q5_2), (.ref a5_0)])) t
    exact k
  obtain ⟨T64, h64, X64, e64, W64, st64⟩ := putF X56 hx hZ hown (host := "") (Or.inl (hw _ (List.mem_of_getElem? (i := 25) rfl))) Via.refl e56 f60 f58 (Or.inr ⟨(hw _ (List.mem_of_getElem? (i := 26) rfl)), rfl, hnm⟩) (hw _ (List.mem_of_getElem? (i := 15) rfl)) (ty := .long) (by decide) rfl rfl (g := (mkF m 32 #[.val (.ref a5_0), .val (.long q5_1), .second, .val (.long q5_2), .second] [(.long q5_2), (.ref a5_0)])) rfl rfl (hb hby d5_32)
  have f65 := f60.same W64
  have f66 := f58.wr W64
  have f67 := f57.other W64 (Or.inr (slot_ne (Or.inr (hw _ (List.mem_of_getElem? (i := 24) rfl))) (Or.inr (hw _ (List.mem_of_getElem? (i := 26) rfl))) (by decide) (t := .long) (t' := .long) (by decide) (by decide)))
  have K69 : Keep h0 h64 [a5_0] := K61.wr W64 (Or.inl (List.mem_of_getElem? (i := 0) rfl))
  have N70 := Fr.snoc X64 N62 ge_a5_0
  have Z71 := (Nat.le_trans Z63 (Keep.of_wr W64).1)
  refine own_by (T' := T64) (g' := (mkF m 35 #[.val (.ref a5_0), .val (.long q5_1), .second, .val (.long q5_2), .second] [])) st64 ?_
  exact own_ret0 X64 hx Bd.returns (hb hby d5_35) hlk (by decide) (by decide) (by rw [e64]; exact ⟨rfl, N70, K69, f66, f67, f65⟩)
theorem d8_0 : decode prog_7_method_6_code 0 = .ok (.aload_n 1, 1) := by decide +kernel
theorem d8_1 : decode prog_7_method_6_code 1 = .ok (.instanceof 17, 3) := by decide +kernel
theorem d8_4 : decode prog_7_method_6_code 4 = .ok (.ifCond .eq 36, 3) := by decide +kernel
theorem d8_7 : decode prog_7_method_6_code 7 = .ok (.aload_n 1, 1) := by decide +kernel
theorem d8_8 : decode prog_7_method_6_code 8 = .ok (.checkcast 17, 3) := by decide +kernel
theorem d8_11 : decode prog_7_method_6_code 11 = .ok (.astore_n 2, 1) := by decide +kernel
theorem d8_12 : decode prog_7_method_6_code 12 = .ok (.aload_n 0, 1) := by decide +kernel
theorem d8_13 : decode prog_7_method_6_code 13 = .ok (.getfield 16, 3) := by decide +kernel
theorem d8_16 : decode prog_7_method_6_code 16 = .ok (.aload_n 2, 1) := by decide +kernel
theorem d8_17 : decode prog_7_method_6_code 17 = .ok (.getfield 16, 3) := by decide +kernel
theorem d8_20 : decode prog_7_method_6_code 20 = .ok (.lcmp, 1) := by decide +kernel
theorem d8_21 : decode prog_7_method_6_code 21 = .ok (.ifCond .ne 19, 3) := by decide +kernel
theorem d8_24 : decode prog_7_method_6_code 24 = .ok (.aload_n 0, 1) := by decide +kernel
theorem d8_25 : decode prog_7_method_6_code 25 = .ok (.getfield 22, 3) := by decide +kernel
theorem d8_28 : decode prog_7_method_6_code 28 = .ok (.aload_n 2, 1) := by decide +kernel
theorem d8_29 : decode prog_7_method_6_code 29 = .ok (.getfield 22, 3) := by decide +kernel
theorem d8_32 : decode prog_7_method_6_code 32 = .ok (.lcmp, 1) := by decide +kernel
theorem d8_33 : decode prog_7_method_6_code 33 = .ok (.ifCond .ne 7, 3) := by decide +kernel
theorem d8_36 : decode prog_7_method_6_code 36 = .ok (.iconst 1, 1) := by decide +kernel
theorem d8_37 : decode prog_7_method_6_code 37 = .ok (.goto 4, 3) := by decide +kernel
theorem d8_40 : decode prog_7_method_6_code 40 = .ok (.iconst 0, 1) := by decide +kernel
theorem d8_41 : decode prog_7_method_6_code 41 = .ok (.ireturn, 1) := by decide +kernel
def own_F8t (w_left_a8t_0 : Int64) (w_left_a8t_1 : Int64) (w_right_a8t_0 : Int64) (w_right_a8t_1 : Int64) : Int32 := (if w_left_a8t_0 = w_left_a8t_1 then (if w_right_a8t_0 = w_right_a8t_1 then (1 : Int32) else (0 : Int32)) else (0 : Int32))
theorem own_ef8t (m : MethodId) (x0 : Addr) (x1 : Addr) : entryFrame m #[(.ref x0), (.ref x1)] 3 = mkF m 0 #[.val (.ref x0), .val (.ref x1), .unset] [] := by first | (simp [entryFrame, mkF, argsToLocals, Value.category]; done) | rfl
def own_Q8t (r : Int32) (h0 : Heap) (n0 : Nat) (v : Option Value) (h : Heap) (L : List Loc) : Prop := v = some (.int r) ∧ Fr n0 L ∧ h = h0
set_option maxRecDepth 65536 in
set_option maxHeartbeats 40000000 in
theorem own_rm8t (l : Launch) (Z : State) (a0 : Array Value) (hw : ∀ d ∈ tables_1, d.before a0 Z = true) (ws : List Jvm.Cond) (a8t_0 : Addr) (a8t_1 : Addr) (w_left_a8t_0 : Int64) (w_left_a8t_1 : Int64) (w_right_a8t_0 : Int64) (w_right_a8t_1 : Int64) (h0 : Heap) (n0 : Nat) (Z0 : n0 ≤ h0.size) (E_a8t_1 : Exa Z h0 a8t_1 "com/example/vasto/vasto/cluster/TokenRange") (F_left_a8t_0 : Fld Z h0 a8t_0 "com/example/vasto/vasto/cluster/TokenRange" "left" "J" (.long w_left_a8t_0)) (F_left_a8t_1 : Fld Z h0 a8t_1 "com/example/vasto/vasto/cluster/TokenRange" "left" "J" (.long w_left_a8t_1)) (F_right_a8t_0 : Fld Z h0 a8t_0 "com/example/vasto/vasto/cluster/TokenRange" "right" "J" (.long w_right_a8t_0)) (F_right_a8t_1 : Fld Z h0 a8t_1 "com/example/vasto/vasto/cluster/TokenRange" "right" "J" (.long w_right_a8t_1)) :
    MetFree l (⟨"com/example/vasto/vasto/cluster/TokenRange", "equals", "(Ljava/lang/Object;)Z"⟩ : MethodName) (head1 (Jvm.Cond.code (⟨"com/example/vasto/vasto/cluster/TokenRange", "equals", "(Ljava/lang/Object;)Z"⟩ : MethodName) prog_7_method_6_code 3 (some .boolean) :: ws) ({ frames := 0, cells := 0, slots := 0, locals := 0 } : Room)) (fun a U => a = #[(.ref a8t_0), (.ref a8t_1)] ∧ Z.Warmed39 U.vm ∧ U.heap = h0) (fun _ _ _ _ _ => True) (fun _ U o U' => ∃ v L, o = .returned v ∧ own_Q8t (own_F8t w_left_a8t_0 w_left_a8t_1 w_right_a8t_0 w_right_a8t_1) h0 n0 v U'.heap L ∧ FrameEnd U o U' L ({ frames := 0, cells := 0, slots := 0, locals := 0 } : Room).cells ({ frames := 0, cells := 0, slots := 0, locals := 0 } : Room).slots) := by
  refine MetFree.of_bodySF (plainFor_of_name pn_com_example_vasto_vasto_cluster_TokenRange) hisR ?_
  intro p e s m args below meth c s₁ Bd hml0 hP hK
  obtain ⟨rfl, hZ, hh⟩ := hP
  have hx := Bd.exec
  have hby := Bd.bytes
  have hlk : meth.locks = false := BodyLoose.notSynchronized Bd
  have hml : c.maxLocals = 3 := hml0
  have hown : s.vm.findClass "com/example/vasto/vasto/cluster/TokenRange" = some m.cls := findClass_of_methodNamed Bd.named
  have hnm := (name_of_methodNamed Bd.named Bd.method).1
  have X0 : Stand p l e ({ frames := 0, cells := 0, slots := 0, locals := 0 } : Room) s m #[(.ref a8t_0), (.ref a8t_1)] below meth c s₁ [] 0 0 := Stand.of_body Bd
  have e0 : s₁.heap = h0 := by rw [← hh, Bd.state]; rfl
  have N0 := Fr.nil n0
  show own_Go p e below (own_P s below ({ frames := 0, cells := 0, slots := 0, locals := 0 } : Room) (own_Q8t (own_F8t w_left_a8t_0 w_left_a8t_1 w_right_a8t_0 w_right_a8t_1) h0 n0)) s₁ (entryFrame m #[(.ref a8t_0), (.ref a8t_1)] 3)
  refine own_in (own_ef8t m a8t_0 a8t_1) ?_
  refine own_by (T' := s₁) (g' := (mkF m 1 #[.val (.ref a8t_0), .val (.ref a8t_1), .unset] [(.ref a8t_1)])) (fun t k => ?_) ?_
  · show Steps p.tables e below (s₁.setTop (mkF m 0 #[.val (.ref a8t_0), .val (.ref a8t_1), .unset] [])) t
    refine XS.aloadN X0.here hx rfl (hb hby d8_0) rfl rfl ?_
    show Steps p.tables e below (s₁.setTop (mkF m 1 #[.val (.ref a8t_0), .val (.ref a8t_1), .unset] [(.ref a8t_1)])) t
    exact k
  obtain ⟨T72, X72, e72, st72⟩ := instY X0 hx hZ hown (hw _ (List.mem_of_getElem? (i := 40) rfl)) e0 (Ins.self E_a8t_1) (g := (mkF m 1 #[.val (.ref a8t_0), .val (.ref a8t_1), .unset] [(.ref a8t_1)])) rfl rfl (hb hby d8_1)
  refine own_by (T' := T72) (g' := (mkF m 4 #[.val (.ref a8t_0), .val (.ref a8t_1), .unset] [(.int (1 : Int32))])) st72 ?_
  refine own_by (T' := T72) (g' := (mkF m 8 #[.val (.ref a8t_0), .val (.ref a8t_1), .unset] [(.ref a8t_1)])) (fun t k => ?_) ?_
  · show Steps p.tables e below (T72.setTop (mkF m 4 #[.val (.ref a8t_0), .val (.ref a8t_1), .unset] [(.int (1 : Int32))])) t
    refine XS.ifNo X72.here hx rfl (hb hby d8_4) rfl ((if0 _ _).trans (feq (by decide : ¬ ((1 : Int32) = (0 : Int32)))).1) ?_
    show Steps p.tables e below (T72.setTop (mkF m 7 #[.val (.ref a8t_0), .val (.ref a8t_1), .unset] [])) t
    refine XS.aloadN X72.here hx rfl (hb hby d8_7) rfl rfl ?_
    show Steps p.tables e below (T72.setTop (mkF m 8 #[.val (.ref a8t_0), .val (.ref a8t_1), .unset] [(.ref a8t_1)])) t
    exact k
  obtain ⟨T73, X73, e73, st73⟩ := castY X72 hx hZ hown (hw _ (List.mem_of_getElem? (i := 40) rfl)) e72 (Ins.self E_a8t_1) (g := (mkF m 8 #[.val (.ref a8t_0), .val (.ref a8t_1), .unset] [(.ref a8t_1)])) rfl rfl (hb hby d8_8)
  refine own_by (T' := T73) (g' := (mkF m 11 #[.val (.ref a8t_0), .val (.ref a8t_1), .unset] [(.ref a8t_1)])) st73 ?_
  refine own_by (T' := T73) (g' := (mkF m 13 #[.val (.ref a8t_0), .val (.ref a8t_1), .val (.ref a8t_1)] [(.ref a8t_0)])) (fun t k => ?_) ?_
  · show Steps p.tables e below (T73.setTop (mkF m 11 #[.val (.ref a8t_0), .val (.ref a8t_1), .unset] [(.ref a8t_1)])) t
    refine XS.astoreN X73.here hx rfl (hb hby d8_11) rfl rfl (l' := #[.val (.ref a8t_0), .val (.ref a8t_1), .val (.ref a8t_1)]) rfl ?_
    show Steps p.tables e below (T73.setTop (mkF m 12 #[.val (.ref a8t_0), .val (.ref a8t_1), .val (.ref a8t_1)] [])) t
    refine XS.aloadN X73.here hx rfl (hb hby d8_12) rfl rfl ?_
    show Steps p.tables e below (T73.setTop (mkF m 13 #[.val (.ref a8t_0), .val (.ref a8t_1), .val (.ref a8t_1)] [(.ref a8t_0)])) t
    exact k
  obtain ⟨T74, X74, e74, st74⟩ := getF X73 hx hZ hown (host := "") (Or.inl (hw _ (List.mem_of_getElem? (i := 23) rfl))) Via.refl e73 F_left_a8t_0 (g := (mkF m 13 #[.val (.ref a8t_0), .val (.ref a8t_1), .val (.ref a8t_1)] [(.ref a8t_0)])) rfl rfl (hb hby d8_13)
  refine own_by (T' := T74) (g' := (mkF m 16 #[.val (.ref a8t_0), .val (.ref a8t_1), .val (.ref a8t_1)] [(.long w_left_a8t_0)])) st74 ?_
  refine own_by (T' := T74) (g' := (mkF m 17 #[.val (.ref a8t_0), .val (.ref a8t_1), .val (.ref a8t_1)] [(.ref a8t_1), (.long w_left_a8t_0)])) (fun t k => ?_) ?_
  · show Steps p.tables e below (T74.setTop (mkF m 16 #[.val (.ref a8t_0), .val (.ref a8t_1), .val (.ref a8t_1)] [(.long w_left_a8t_0)])) t
    refine XS.aloadN X74.here hx rfl (hb hby d8_16) rfl rfl ?_
    show Steps p.tables e below (T74.setTop (mkF m 17 #[.val (.ref a8t_0), .val (.ref a8t_1), .val (.ref a8t_1)] [(.ref a8t_1), (.long w_left_a8t_0)])) t
    exact k
  obtain ⟨T75, X75, e75, st75⟩ := getF X74 hx hZ hown (host := "") (Or.inl (hw _ (List.mem_of_getElem? (i := 23) rfl))) Via.refl e74 F_left_a8t_1 (g := (mkF m 17 #[.val (.ref a8t_0), .val (.ref a8t_1), .val (.ref a8t_1)] [(.ref a8t_1), (.long w_left_a8t_0)])) rfl rfl (hb hby d8_17)
  refine own_by (T' := T75) (g' := (mkF m 20 #[.val (.ref a8t_0), .val (.ref a8t_1), .val (.ref a8t_1)] [(.long w_left_a8t_1), (.long w_left_a8t_0)])) st75 ?_
  refine own_by (T' := T75) (g' := (mkF m 21 #[.val (.ref a8t_0), .val (.ref a8t_1), .val (.ref a8t_1)] [(.int (lcmpW w_left_a8t_0 w_left_a8t_1))])) (fun t k => ?_) ?_
  · show Steps p.tables e below (T75.setTop (mkF m 20 #[.val (.ref a8t_0), .val (.ref a8t_1), .val (.ref a8t_1)] [(.long w_left_a8t_1), (.long w_left_a8t_0)])) t
    refine XS.lcmp X75.here hx rfl (hb hby d8_20) rfl ?_
    show Steps p.tables e below (T75.setTop (mkF m 21 #[.val (.ref a8t_0), .val (.ref a8t_1), .val (.ref a8t_1)] [(.int (lcmpW w_left_a8t_0 w_left_a8t_1))])) t
    exact k
  by_cases hc76 : w_left_a8t_0 = w_left_a8t_1
  · skip
    refine own_by (T' := T75) (g' := (mkF m 25 #[.val (.ref a8t_0), .val (.ref a8t_1), .val (.ref a8t_1)] [(.ref a8t_0)])) (fun t k => ?_) ?_
    · show Steps p.tables e below (T75.setTop (mkF m 21 #[.val (.ref a8t_0), .val (.ref a8t_1), .val (.ref a8t_1)] [(.int (lcmpW w_left_a8t_0 w_left_a8t_1))])) t
      refine XS.ifNo X75.here hx rfl (hb hby d8_21) rfl ((if0 _ _).trans (teq ((lw_eq _ _).mpr hc76)).2) ?_
      show Steps p.tables e below (T75.setTop (mkF m 24 #[.val (.ref a8t_0), .val (.ref a8t_1), .val (.ref a8t_1)] [])) t
      refine XS.aloadN X75.here hx rfl (hb hby d8_24) rfl rfl ?_
      show Steps p.tables e below (T75.setTop (mkF m 25 #[.val (.ref a8t_0), .val (.ref a8t_1), .val (.ref a8t_1)] [(.ref a8t_0)])) t
      exact k
    obtain ⟨T80, X80, e80, st80⟩ := getF X75 hx hZ hown (host := "") (Or.inl (hw _ (List.mem_of_getElem? (i := 25) rfl))) Via.refl e75 F_right_a8t_0 (g := (mkF m 25 #[.val (.ref a8t_0), .val (.ref a8t_1), .val (.ref a8t_1)] [(.ref a8t_0)])) rfl rfl (hb hby d8_25)
    refine own_by (T' := T80) (g' := (mkF m 28 #[.val (.ref a8t_0), .val (.ref a8t_1), .val (.ref a8t_1)] [(.long w_right_a8t_0)])) st80 ?_
    refine own_by (T' := T80) (g' := (mkF m 29 #[.val (.ref a8t_0), .val (.ref a8t_1), .val (.ref a8t_1)] [(.ref a8t_1), (.long w_right_a8t_0)])) (fun t k => ?_) ?_
    · show Steps p.tables e below (T80.setTop (mkF m 28 #[.val (.ref a8t_0), .val (.ref a8t_1), .val (.ref a8t_1)] [(.long w_right_a8t_0)])) t
      refine XS.aloadN X80.here hx rfl (hb hby d8_28) rfl rfl ?_
      show Steps p.tables e below (T80.setTop (mkF m 29 #[.val (.ref a8t_0), .val (.ref a8t_1), .val (.ref a8t_1)] [(.ref a8t_1), (.long w_right_a8t_0)])) t
      exact k
    obtain ⟨T81, X81, e81, st81⟩ := getF X80 hx hZ hown (host := "") (Or.inl (hw _ (List.mem_of_getElem? (i := 25) rfl))) Via.refl e80 F_right_a8t_1 (g := (mkF m 29 #[.val (.ref a8t_0), .val (.ref a8t_1), .val (.ref a8t_1)] [(.ref a8t_1), (.long w_right_a8t_0)])) rfl rfl (hb hby d8_29)
    refine own_by (T' := T81) (g' := (mkF m 32 #[.val (.ref a8t_0), .val (.ref a8t_1), .val (.ref a8t_1)] [(.long w_right_a8t_1), (.long w_right_a8t_0)])) st81 ?_
    refine own_by (T' := T81) (g' := (mkF m 33 #[.val (.ref a8t_0), .val (.ref a8t_1), .val (.ref a8t_1)] [(.int (lcmpW w_right_a8t_0 w_right_a8t_1))])) (fun t k => ?_) ?_
    · show Steps p.tables e below (T81.setTop (mkF m 32 #[.val (.ref a8t_0), .val (.ref a8t_1), .val (.ref a8t_1)] [(.long w_right_a8t_1), (.long w_right_a8t_0)])) t
      refine XS.lcmp X81.here hx rfl (hb hby d8_32) rfl ?_
      show Steps p.tables e below (T81.setTop (mkF m 33 #[.val (.ref a8t_0), .val (.ref a8t_1), .val (.ref a8t_1)] [(.int (lcmpW w_right_a8t_0 w_right_a8t_1))])) t
      exact k
    by_cases hc82 : w_right_a8t_0 = w_right_a8t_1
    · skip
      refine own_by (T' := T81) (g' := (mkF m 41 #[.val (.ref a8t_0), .val (.ref a8t_1), .val (.ref a8t_1)] [(.int (1 : Int32))])) (fun t k => ?_) ?_
      · show Steps p.tables e below (T81.setTop (mkF m 33 #[.val (.ref a8t_0), .val (.ref a8t_1), .val (.ref a8t_1)] [(.int (lcmpW w_right_a8t_0 w_right_a8t_1))])) t
        refine XS.ifNo X81.here hx rfl (hb hby d8_33) rfl ((if0 _ _).trans (teq ((lw_eq _ _).mpr hc82)).2) ?_
        show Steps p.tables e below (T81.setTop (mkF m 36 #[.val (.ref a8t_0), .val (.ref a8t_1), .val (.ref a8t_1)] [])) t
        refine XS.iconst X81.here hx rfl (hb hby d8_36) ?_
        show Steps p.tables e below (T81.setTop (mkF m 37 #[.val (.ref a8t_0), .val (.ref a8t_1), .val (.ref a8t_1)] [(.int (1 : Int32))])) t
        refine XS.goto X81.here hx rfl (pc0 := 37) (pc' := 41) rfl (hb hby d8_37) (by decide) (by decide) ?_
        show Steps p.tables e below (T81.setTop (mkF m 41 #[.val (.ref a8t_0), .val (.ref a8t_1), .val (.ref a8t_1)] [(.int (1 : Int32))])) t
        exact k
      rw [show own_F8t w_left_a8t_0 w_left_a8t_1 w_right_a8t_0 w_right_a8t_1 = (1 : Int32) from ((if_pos hc76).trans ((if_pos hc82).trans rfl))]
      exact own_retN X81 hx (t := .boolean) Bd.returns (by simp) (hb hby d8_41) hlk (by decide) (by decide) ⟨rfl, N0, e81⟩
    · skip
      refine own_by (T' := T81) (g' := (mkF m 41 #[.val (.ref a8t_0), .val (.ref a8t_1), .val (.ref a8t_1)] [(.int (0 : Int32))])) (fun t k => ?_) ?_
      · show Steps p.tables e below (T81.setTop (mkF m 33 #[.val (.ref a8t_0), .val (.ref a8t_1), .val (.ref a8t_1)] [(.int (lcmpW w_right_a8t_0 w_right_a8t_1))])) t
        refine XS.ifYes X81.here hx rfl (pc0 := 33) (pc' := 40) rfl (hb hby d8_33) rfl ((if0 _ _).trans (feq (fun q => hc82 ((lw_eq _ _).mp q))).2) (by decide) (by decide) ?_
        show Steps p.tables e below (T81.setTop (mkF m 40 #[.val (.ref a8t_0), .val (.ref a8t_1), .val (.ref a8t_1)] [])) t
        refine XS.iconst X81.here hx rfl (hb hby d8_40) ?_
        show Steps p.tables e below (T81.setTop (mkF m 41 #[.val (.ref a8t_0), .val (.ref a8t_1), .val (.ref a8t_1)] [(.int (0 : Int32))])) t
        exact k
      rw [show own_F8t w_left_a8t_0 w_left_a8t_1 w_right_a8t_0 w_right_a8t_1 = (0 : Int32) from ((if_pos hc76).trans ((if_neg hc82).trans rfl))]
      exact own_retN X81 hx (t := .boolean) Bd.returns (by simp) (hb hby d8_41) hlk (by decide) (by decide) ⟨rfl, N0, e81⟩
  · skip
    refine own_by (T' := T75) (g' := (mkF m 41 #[.val (.ref a8t_0), .val (.ref a8t_1), .val (.ref a8t_1)] [(.int (0 : Int32))])) (fun t k => ?_) ?_
    · show Steps p.tables e below (T75.setTop (mkF m 21 #[.val (.ref a8t_0), .val (.ref a8t_1), .val (.ref a8t_1)] [(.int (lcmpW w_left_a8t_0 w_left_a8t_1))])) t
      refine XS.ifYes X75.here hx rfl (pc0 := 21) (pc' := 40) rfl (hb hby d8_21) rfl ((if0 _ _).trans (feq (fun q => hc76 ((lw_eq _ _).mp q))).2) (by decide) (by decide) ?_
      show Steps p.tables e below (T75.setTop (mkF m 40 #[.val (.ref a8t_0), .val (.ref a8t_1), .val (.ref a8t_1)] [])) t
      refine XS.iconst X75.here hx rfl (hb hby d8_40) ?_
      show Steps p.tables e below (T75.setTop (mkF m 41 #[.val (.ref a8t_0), .val (.ref a8t_1), .val (.ref a8t_1)] [(.int (0 : Int32))])) t
      exact k
    rw [show own_F8t w_left_a8t_0 w_left_a8t_1 w_right_a8t_0 w_right_a8t_1 = (0 : Int32) from ((if_neg hc76).trans rfl)]
    exact own_retN X75 hx (t := .boolean) Bd.returns (by simp) (hb hby d8_41) hlk (by decide) (by decide) ⟨rfl, N0, e75⟩
def own_F8s (w_left_a8s_0 : Int64) (w_right_a8s_0 : Int64) : Int32 := (1 : Int32)
theorem own_ef8s (m : MethodId) (x1 : Addr) : entryFrame m #[(.ref x1), (.ref x1)] 3 = mkF m 0 #[.val (.ref x1), .val (.ref x1), .unset] [] := by first | (simp [entryFrame, mkF, argsToLocals, Value.category]; done) | rfl
def own_Q8s (r : Int32) (h0 : Heap) (n0 : Nat) (v : Option Value) (h : Heap) (L : List Loc) : Prop := v = some (.int r) ∧ Fr n0 L ∧ h = h0
set_option maxRecDepth 65536 in
set_option maxHeartbeats 40000000 in
theorem own_rm8s (l : Launch) (Z : State) (a0 : Array Value) (hw : ∀ d ∈ tables_1, d.before a0 Z = true) (ws : List Jvm.Cond) (a8s_0 : Addr) (w_left_a8s_0 : Int64) (w_right_a8s_0 : Int64) (h0 : Heap) (n0 : Nat) (Z0 : n0 ≤ h0.size) (E_a8s_0 : Exa Z h0 a8s_0 "com/example/vasto/vasto/cluster/TokenRange") (F_left_a8s_0 : Fld Z h0 a8s_0 "com/example/vasto/vasto/cluster/TokenRange" "left" "J" (.long w_left_a8s_0)) (F_right_a8s_0 : Fld Z h0 a8s_0 "com/example/vasto/vasto/cluster/TokenRange" "right" "J" (.long w_right_a8s_0)) :
    MetFree l (⟨"com/example/vasto/vasto/cluster/TokenRange", "equals", "(Ljava/lang/Object;)Z"⟩ : MethodName) (head1 (Jvm.Cond.code (⟨"com/example/vasto/vasto/cluster/TokenRange", "equals", "(Ljava/lang/Object;)Z"⟩ : MethodName) prog_7_method_6_code 3 (some .boolean) :: ws) ({ frames := 0, cells := 0, slots := 0, locals := 0 } : Room)) (fun a U => a = #[(.ref a8s_0), (.ref a8s_0)] ∧ Z.Warmed39 U.vm ∧ U.heap = h0) (fun _ _ _ _ _ => True) (fun _ U o U' => ∃ v L, o = .returned v ∧ own_Q8s (own_F8s w_left_a8s_0 w_right_a8s_0) h0 n0 v U'.heap L ∧ FrameEnd U o U' L ({ frames := 0, cells := 0, slots := 0, locals := 0 } : Room).cells ({ frames := 0, cells := 0, slots := 0, locals := 0 } : Room).slots) := by
  refine MetFree.of_bodySF (plainFor_of_name pn_com_example_vasto_vasto_cluster_TokenRange) hisR ?_
  intro p e s m args below meth c s₁ Bd hml0 hP hK
  obtain ⟨rfl, hZ, hh⟩ := hP
  have hx := Bd.exec
  have hby := Bd.bytes
  have hlk : meth.locks = false := BodyLoose.notSynchronized Bd
  have hml : c.maxLocals = 3 := hml0
  have hown : s.vm.findClass "com/example/vasto/vasto/cluster/TokenRange" = some m.cls := findClass_of_methodNamed Bd.named
  have hnm := (name_of_methodNamed Bd.named Bd.method).1
  have X0 : Stand p l e ({ frames := 0, cells := 0, slots := 0, locals := 0 } : Room) s m #[(.ref a8s_0), (.ref a8s_0)] below meth c s₁ [] 0 0 := Stand.of_body Bd
  have e0 : s₁.heap = h0 := by rw [← hh, Bd.state]; rfl
  have N0 := Fr.nil n0
  show own_Go p e below (own_P s below ({ frames := 0, cells := 0, slots := 0, locals := 0 } : Room) (own_Q8s (own_F8s w_left_a8s_0 w_right_a8s_0) h0 n0)) s₁ (entryFrame m #[(.ref a8s_0), (.ref a8s_0)] 3)
  refine own_in (own_ef8s m a8s_0) ?_
  refine own_by (T' := s₁) (g' := (mkF m 1 #[.val (.ref a8s_0), .val (.ref a8s_0), .unset] [(.ref a8s_0)])) (fun t k => ?_) ?_
  · show Steps p.tables e below (s₁.setTop (mkF m 0 #[.val (.ref a8s_0), .val (.ref a8s_0), .unset] [])) t
    refine XS.aloadN X0.here hx rfl (hb hby d8_0) rfl rfl ?_
    show Steps p.tables e below (s₁.setTop (mkF m 1 #[.val (.ref a8s_0), .val (.ref a8s_0), .unset] [(.ref a8s_0)])) t
    exact k
  obtain ⟨T83, X83, e83, st83⟩ := instY X0 hx hZ hown (hw _ (List.mem_of_getElem? (i := 40) rfl)) e0 (Ins.self E_a8s_0) (g := (mkF m 1 #[.val (.ref a8s_0), .val (.ref a8s_0), .unset] [(.ref a8s_0)])) rfl rfl (hb hby d8_1)
  refine own_by (T' := T83) (g' := (mkF m 4 #[.val (.ref a8s_0), .val (.ref a8s_0), .unset] [(.int (1 : Int32))])) st83 ?_
  refine own_by (T' := T83) (g' := (mkF m 8 #[.val (.ref a8s_0), .val (.ref a8s_0), .unset] [(.ref a8s_0)])) (fun t k => ?_) ?_
  · show Steps p.tables e below (T83.setTop (mkF m 4 #[.val (.ref a8s_0), .val (.ref a8s_0), .unset] [(.int (1 : Int32))])) t
    refine XS.ifNo X83.here hx rfl (hb hby d8_4) rfl ((if0 _ _).trans (feq (by decide : ¬ ((1 : Int32) = (0 : Int32)))).1) ?_
    show Steps p.tables e below (T83.setTop (mkF m 7 #[.val (.ref a8s_0), .val (.ref a8s_0), .unset] [])) t
    refine XS.aloadN X83.here hx rfl (hb hby d8_7) rfl rfl ?_
    show Steps p.tables e below (T83.setTop (mkF m 8 #[.val (.ref a8s_0), .val (.ref a8s_0), .unset] [(.ref a8s_0)])) t
    exact k
  obtain ⟨T84, X84, e84, st84⟩ := castY X83 hx hZ hown (hw _ (List.mem_of_getElem? (i := 40) rfl)) e83 (Ins.self E_a8s_0) (g := (mkF m 8 #[.val (.ref a8s_0), .val (.ref a8s_0), .unset] [(.ref a8s_0)])) rfl rfl (hb hby d8_8)
  refine own_by (T' := T84) (g' := (mkF m 11 #[.val (.ref a8s_0), .val (.ref a8s_0), .unset] [(.ref a8s_0)])) st84 ?_
  refine own_by (T' := T84) (g' := (mkF m 13 #[.val (.ref a8s_0), .val (.ref a8s_0), .val (.ref a8s_0)] [(.ref a8s_0)])) (fun t k => ?_) ?_
  · show Steps p.tables e below (T84.setTop (mkF m 11 #[.val (.ref a8s_0), .val (.ref a8s_0), .unset] [(.ref a8s_0)])) t
    refine XS.astoreN X84.here hx rfl (hb hby d8_11) rfl rfl (l' := #[.val (.ref a8s_0), .val (.ref a8s_0), .val (.ref a8s_0)]) rfl ?_
    show Steps p.tables e below (T84.setTop (mkF m 12 #[.val (.ref a8s_0), .val (.ref a8s_0), .val (.ref a8s_0)] [])) t
    refine XS.aloadN X84.here hx rfl (hb hby d8_12) rfl rfl ?_
    show Steps p.tables e below (T84.setTop (mkF m 13 #[.val (.ref a8s_0), .val (.ref a8s_0), .val (.ref a8s_0)] [(.ref a8s_0)])) t
    exact k
  obtain ⟨T85, X85, e85, st85⟩ := getF X84 hx hZ hown (host := "") (Or.inl (hw _ (List.mem_of_getElem? (i := 23) rfl))) Via.refl e84 F_left_a8s_0 (g := (mkF m 13 #[.val (.ref a8s_0), .val (.ref a8s_0), .val (.ref a8s_0)] [(.ref a8s_0)])) rfl rfl (hb hby d8_13)
  refine own_by (T' := T85) (g' := (mkF m 16 #[.val (.ref a8s_0), .val (.ref a8s_0), .val (.ref a8s_0)] [(.long w_left_a8s_0)])) st85 ?_
  refine own_by (T' := T85) (g' := (mkF m 17 #[.val (.ref a8s_0), .val (.ref a8s_0), .val (.ref a8s_0)] [(.ref a8s_0), (.long w_left_a8s_0)])) (fun t k => ?_) ?_
  · show Steps p.tables e below (T85.setTop (mkF m 16 #[.val (.ref a8s_0), .val (.ref a8s_0), .val (.ref a8s_0)] [(.long w_left_a8s_0)])) t
    refine XS.aloadN X85.here hx rfl (hb hby d8_16) rfl rfl ?_
    show Steps p.tables e below (T85.setTop (mkF m 17 #[.val (.ref a8s_0), .val (.ref a8s_0), .val (.ref a8s_0)] [(.ref a8s_0), (.long w_left_a8s_0)])) t
    exact k
  obtain ⟨T86, X86, e86, st86⟩ := getF X85 hx hZ hown (host := "") (Or.inl (hw _ (List.mem_of_getElem? (i := 23) rfl))) Via.refl e85 F_left_a8s_0 (g := (mkF m 17 #[.val (.ref a8s_0), .val (.ref a8s_0), .val (.ref a8s_0)] [(.ref a8s_0), (.long w_left_a8s_0)])) rfl rfl (hb hby d8_17)
  refine own_by (T' := T86) (g' := (mkF m 20 #[.val (.ref a8s_0), .val (.ref a8s_0), .val (.ref a8s_0)] [(.long w_left_a8s_0), (.long w_left_a8s_0)])) st86 ?_
  refine own_by (T' := T86) (g' := (mkF m 25 #[.val (.ref a8s_0), .val (.ref a8s_0), .val (.ref a8s_0)] [(.ref a8s_0)])) (fun t k => ?_) ?_
  · show Steps p.tables e below (T86.setTop (mkF m 20 #[.val (.ref a8s_0), .val (.ref a8s_0), .val (.ref a8s_0)] [(.long w_left_a8s_0), (.long w_left_a8s_0)])) t
    refine XS.lcmp X86.here hx rfl (hb hby d8_20) rfl ?_
    show Steps p.tables e below (T86.setTop (mkF m 21 #[.val (.ref a8s_0), .val (.ref a8s_0), .val (.ref a8s_0)] [(.int (lcmpW w_left_a8s_0 w_left_a8s_0))])) t
    refine XS.ifNo X86.here hx rfl (hb hby d8_21) rfl ((if0 _ _).trans (teq ((lw_eq _ _).mpr (rfl : w_left_a8s_0 = w_left_a8s_0))).2) ?_
    show Steps p.tables e below (T86.setTop (mkF m 24 #[.val (.ref a8s_0), .val (.ref a8s_0), .val (.ref a8s_0)] [])) t
    refine XS.aloadN X86.here hx rfl (hb hby d8_24) rfl rfl ?_
    show Steps p.tables e below (T86.setTop (mkF m 25 #[.val (.ref a8s_0), .val (.ref a8s_0), .val (.ref a8s_0)] [(.ref a8s_0)])) t
    exact k
  obtain ⟨T87, X87, e87, st87⟩ := getF X86 hx hZ hown (host := "") (Or.inl (hw _ (List.mem_of_getElem? (i := 25) rfl))) Via.refl e86 F_right_a8s_0 (g := (mkF m 25 #[.val (.ref a8s_0), .val (.ref a8s_0), .val (.ref a8s_0)] [(.ref a8s_0)])) rfl rfl (hb hby d8_25)
  refine own_by (T' := T87) (g' := (mkF m 28 #[.val (.ref a8s_0), .val (.ref a8s_0), .val (.ref a8s_0)] [(.long w_right_a8s_0)])) st87 ?_
  refine own_by (T' := T87) (g' := (mkF m 29 #[.val (.ref a8s_0), .val (.ref a8s_0), .val (.ref a8s_0)] [(.ref a8s_0), (.long w_right_a8s_0)])) (fun t k => ?_) ?_
  · show Steps p.tables e below (T87.setTop (mkF m 28 #[.val (.ref a8s_0), .val (.ref a8s_0), .val (.ref a8s_0)] [(.long w_right_a8s_0)])) t
    refine XS.aloadN X87.here hx rfl (hb hby d8_28) rfl rfl ?_
    show Steps p.tables e below (T87.setTop (mkF m 29 #[.val (.ref a8s_0), .val (.ref a8s_0), .val (.ref a8s_0)] [(.ref a8s_0), (.long w_right_a8s_0)])) t
    exact k
  obtain ⟨T88, X88, e88, st88⟩ := getF X87 hx hZ hown (host := "") (Or.inl (hw _ (List.mem_of_getElem? (i := 25) rfl))) Via.refl e87 F_right_a8s_0 (g := (mkF m 29 #[.val (.ref a8s_0), .val (.ref a8s_0), .val (.ref a8s_0)] [(.ref a8s_0), (.long w_right_a8s_0)])) rfl rfl (hb hby d8_29)
  refine own_by (T' := T88) (g' := (mkF m 32 #[.val (.ref a8s_0), .val (.ref a8s_0), .val (.ref a8s_0)] [(.long w_right_a8s_0), (.long w_right_a8s_0)])) st88 ?_
  refine own_by (T' := T88) (g' := (mkF m 41 #[.val (.ref a8s_0), .val (.ref a8s_0), .val (.ref a8s_0)] [(.int (1 : Int32))])) (fun t k => ?_) ?_
  · show Steps p.tables e below (T88.setTop (mkF m 32 #[.val (.ref a8s_0), .val (.ref a8s_0), .val (.ref a8s_0)] [(.long w_right_a8s_0), (.long w_right_a8s_0)])) t
    refine XS.lcmp X88.here hx rfl (hb hby d8_32) rfl ?_
    show Steps p.tables e below (T88.setTop (mkF m 33 #[.val (.ref a8s_0), .val (.ref a8s_0), .val (.ref a8s_0)] [(.int (lcmpW w_right_a8s_0 w_right_a8s_0))])) t
    refine XS.ifNo X88.here hx rfl (hb hby d8_33) rfl ((if0 _ _).trans (teq ((lw_eq _ _).mpr (rfl : w_right_a8s_0 = w_right_a8s_0))).2) ?_
    show Steps p.tables e below (T88.setTop (mkF m 36 #[.val (.ref a8s_0), .val (.ref a8s_0), .val (.ref a8s_0)] [])) t
    refine XS.iconst X88.here hx rfl (hb hby d8_36) ?_
    show Steps p.tables e below (T88.setTop (mkF m 37 #[.val (.ref a8s_0), .val (.ref a8s_0), .val (.ref a8s_0)] [(.int (1 : Int32))])) t
    refine XS.goto X88.here hx rfl (pc0 := 37) (pc' := 41) rfl (hb hby d8_37) (by decide) (by decide) ?_
    show Steps p.tables e below (T88.setTop (mkF m 41 #[.val (.ref a8s_0), .val (.ref a8s_0), .val (.ref a8s_0)] [(.int (1 : Int32))])) t
    exact k
  rw [show own_F8s w_left_a8s_0 w_right_a8s_0 = (1 : Int32) from rfl]
  exact own_retN X88 hx (t := .boolean) Bd.returns (by simp) (hb hby d8_41) hlk (by decide) (by decide) ⟨rfl, N0, e88⟩
def own_F8n  : Int32 := (0 : Int32)
theorem own_ef8n (m : MethodId) (x0 : Addr) : entryFrame m #[(.ref x0), .null] 3 = mkF m 0 #[.val (.ref x0), .val .null, .unset] [] := by first | (simp [entryFrame, mkF, argsToLocals, Value.category]; done) | rfl
def own_Q8n (r : Int32) (h0 : Heap) (n0 : Nat) (v : Option Value) (h : Heap) (L : List Loc) : Prop := v = some (.int r) ∧ Fr n0 L ∧ h = h0
set_option maxRecDepth 65536 in
set_option maxHeartbeats 40000000 in
theorem own_rm8n (l : Launch) (Z : State) (a0 : Array Value) (hw : ∀ d ∈ tables_1, d.before a0 Z = true) (ws : List Jvm.Cond) (a8n_0 : Addr) (h0 : Heap) (n0 : Nat) (Z0 : n0 ≤ h0.size) :
    MetFree l (⟨"com/example/vasto/vasto/cluster/TokenRange", "equals", "(Ljava/lang/Object;)Z"⟩ : MethodName) (head1 (Jvm.Cond.code (⟨"com/example/vasto/vasto/cluster/TokenRange", "equals", "(Ljava/lang/Object;)Z"⟩ : MethodName) prog_7_method_6_code 3 (some .boolean) :: ws) ({ frames := 0, cells := 0, slots := 0, locals := 0 } : Room)) (fun a U => a = #[(.ref a8n_0), .null] ∧ Z.Warmed39 U.vm ∧ U.heap = h0) (fun _ _ _ _ _ => True) (fun _ U o U' => ∃ v L, o = .returned v ∧ own_Q8n (own_F8n) h0 n0 v U'.heap L ∧ FrameEnd U o U' L ({ frames := 0, cells := 0, slots := 0, locals := 0 } : Room).cells ({ frames := 0, cells := 0, slots := 0, locals := 0 } : Room).slots) := by
  refine MetFree.of_bodySF (plainFor_of_name pn_com_example_vasto_vasto_cluster_TokenRange) hisR ?_
  intro p e s m args below meth c s₁ Bd hml0 hP hK
  obtain ⟨rfl, hZ, hh⟩ := hP
  have hx := Bd.exec
  have hby := Bd.bytes
  have hlk : meth.locks = false := BodyLoose.notSynchronized Bd
  have hml : c.maxLocals = 3 := hml0
  have hown : s.vm.findClass "com/example/vasto/vasto/cluster/TokenRange" = some m.cls := findClass_of_methodNamed Bd.named
  have hnm := (name_of_methodNamed Bd.named Bd.method).1
  have X0 : Stand p l e ({ frames := 0, cells := 0, slots := 0, locals := 0 } : Room) s m #[(.ref a8n_0), .null] below meth c s₁ [] 0 0 := Stand.of_body Bd
  have e0 : s₁.heap = h0 := by rw [← hh, Bd.state]; rfl
  have N0 := Fr.nil n0
  show own_Go p e below (own_P s below ({ frames := 0, cells := 0, slots := 0, locals := 0 } : Room) (own_Q8n (own_F8n) h0 n0)) s₁ (entryFrame m #[(.ref a8n_0), .null] 3)
  refine own_in (own_ef8n m a8n_0) ?_
  refine own_by (T' := s₁) (g' := (mkF m 41 #[.val (.ref a8n_0), .val .null, .unset] [(.int (0 : Int32))])) (fun t k => ?_) ?_
  · show Steps p.tables e below (s₁.setTop (mkF m 0 #[.val (.ref a8n_0), .val .null, .unset] [])) t
    refine XS.aloadN X0.here hx rfl (hb hby d8_0) rfl rfl ?_
    show Steps p.tables e below (s₁.setTop (mkF m 1 #[.val (.ref a8n_0), .val .null, .unset] [.null])) t
    refine X0.instanceofNull hx (g := (mkF m 1 #[.val (.ref a8n_0), .val .null, .unset] [.null])) rfl rfl (hb hby d8_1) _ ?_
    show Steps p.tables e below (s₁.setTop (mkF m 4 #[.val (.ref a8n_0), .val .null, .unset] [(.int (0 : Int32))])) t
    refine XS.ifYes X0.here hx rfl (pc0 := 4) (pc' := 40) rfl (hb hby d8_4) rfl ((if0 _ _).trans (teq (by decide : (0 : Int32) = (0 : Int32))).1) (by decide) (by decide) ?_
    show Steps p.tables e below (s₁.setTop (mkF m 40 #[.val (.ref a8n_0), .val .null, .unset] [])) t
    refine XS.iconst X0.here hx rfl (hb hby d8_40) ?_
    show Steps p.tables e below (s₁.setTop (mkF m 41 #[.val (.ref a8n_0), .val .null, .unset] [(.int (0 : Int32))])) t
    exact k
  rw [show own_F8n = (0 : Int32) from rfl]
  exact own_retN X0 hx (t := .boolean) Bd.returns (by simp) (hb hby d8_41) hlk (by decide) (by decide) ⟨rfl, N0, e0⟩
def own_F8l  : Int32 := (0 : Int32)
theorem own_ef8l (m : MethodId) (x0 : Addr) (x1 : Addr) : entryFrame m #[(.ref x0), (.ref x1)] 3 = mkF m 0 #[.val (.ref x0), .val (.ref x1), .unset] [] := by first | (simp [entryFrame, mkF, argsToLocals, Value.category]; done) | rfl
def own_Q8l (r : Int32) (h0 : Heap) (n0 : Nat) (v : Option Value) (h : Heap) (L : List Loc) : Prop := v = some (.int r) ∧ Fr n0 L ∧ h = h0
set_option maxRecDepth 65536 in
set_option maxHeartbeats 40000000 in
theorem own_rm8l (l : Launch) (Z : State) (a0 : Array Value) (hw : ∀ d ∈ tables_1, d.before a0 Z = true) (ws : List Jvm.Cond) (a8l_0 : Addr) (a8l_1 : Addr) (h0 : Heap) (n0 : Nat) (Z0 : n0 ≤ h0.size) (E_a8l_1 : Exa Z h0 a8l_1 "java/lang/Long") :
    MetFree l (⟨"com/example/vasto/vasto/cluster/TokenRange", "equals", "(Ljava/lang/Object;)Z"⟩ : MethodName) (head1 (Jvm.Cond.code (⟨"com/example/vasto/vasto/cluster/TokenRange", "equals", "(Ljava/lang/Object;)Z"⟩ : MethodName) prog_7_method_6_code 3 (some .boolean) :: ws) ({ frames := 0, cells := 0, slots := 0, locals := 0 } : Room)) (fun a U => a = #[(.ref a8l_0), (.ref a8l_1)] ∧ Z.Warmed39 U.vm ∧ U.heap = h0) (fun _ _ _ _ _ => True) (fun _ U o U' => ∃ v L, o = .returned v ∧ own_Q8l (own_F8l) h0 n0 v U'.heap L ∧ FrameEnd U o U' L ({ frames := 0, cells := 0, slots := 0, locals := 0 } : Room).cells ({ frames := 0, cells := 0, slots := 0, locals := 0 } : Room).slots) := by
  refine MetFree.of_bodySF (plainFor_of_name pn_com_example_vasto_vasto_cluster_TokenRange) hisR ?_
  intro p e s m args below meth c s₁ Bd hml0 hP hK
  obtain ⟨rfl, hZ, hh⟩ := hP
  have hx := Bd.exec
  have hby := Bd.bytes
  have hlk : meth.locks = false := BodyLoose.notSynchronized Bd
  have hml : c.maxLocals = 3 := hml0
  have hown : s.vm.findClass "com/example/vasto/vasto/cluster/TokenRange" = some m.cls := findClass_of_methodNamed Bd.named
  have hnm := (name_of_methodNamed Bd.named Bd.method).1
  have X0 : Stand p l e ({ frames := 0, cells := 0, slots := 0, locals := 0 } : Room) s m #[(.ref a8l_0), (.ref a8l_1)] below meth c s₁ [] 0 0 := Stand.of_body Bd
  have e0 : s₁.heap = h0 := by rw [← hh, Bd.state]; rfl
  have N0 := Fr.nil n0
  show own_Go p e below (own_P s below ({ frames := 0, cells := 0, slots := 0, locals := 0 } : Room) (own_Q8l (own_F8l) h0 n0)) s₁ (entryFrame m #[(.ref a8l_0), (.ref a8l_1)] 3)
  refine own_in (own_ef8l m a8l_0 a8l_1) ?_
  refine own_by (T' := s₁) (g' := (mkF m 1 #[.val (.ref a8l_0), .val (.ref a8l_1), .unset] [(.ref a8l_1)])) (fun t k => ?_) ?_
  · show Steps p.tables e below (s₁.setTop (mkF m 0 #[.val (.ref a8l_0), .val (.ref a8l_1), .unset] [])) t
    refine XS.aloadN X0.here hx rfl (hb hby d8_0) rfl rfl ?_
    show Steps p.tables e below (s₁.setTop (mkF m 1 #[.val (.ref a8l_0), .val (.ref a8l_1), .unset] [(.ref a8l_1)])) t
    exact k
  obtain ⟨T89, X89, e89, st89⟩ := instNo X0 hx hZ hown (hw _ (List.mem_of_getElem? (i := 40) rfl)) e0 E_a8l_1 (own_not (hw _ (List.mem_of_getElem? (i := 44) rfl)) (hw _ (List.mem_of_getElem? (i := 43) rfl)) (hw _ (List.mem_of_getElem? (i := 42) rfl)) (hw _ (List.mem_of_getElem? (i := 46) rfl)) (hw _ (List.mem_of_getElem? (i := 15) rfl)) (by decide) (by decide) (by decide)) (g := (mkF m 1 #[.val (.ref a8l_0), .val (.ref a8l_1), .unset] [(.ref a8l_1)])) rfl rfl (hb hby d8_1)
  refine own_by (T' := T89) (g' := (mkF m 4 #[.val (.ref a8l_0), .val (.ref a8l_1), .unset] [(.int (0 : Int32))])) st89 ?_
  refine own_by (T' := T89) (g' := (mkF m 41 #[.val (.ref a8l_0), .val (.ref a8l_1), .unset] [(.int (0 : Int32))])) (fun t k => ?_) ?_
  · show Steps p.tables e below (T89.setTop (mkF m 4 #[.val (.ref a8l_0), .val (.ref a8l_1), .unset] [(.int (0 : Int32))])) t
    refine XS.ifYes X89.here hx rfl (pc0 := 4) (pc' := 40) rfl (hb hby d8_4) rfl ((if0 _ _).trans (teq (by decide : (0 : Int32) = (0 : Int32))).1) (by decide) (by decide) ?_
    show Steps p.tables e below (T89.setTop (mkF m 40 #[.val (.ref a8l_0), .val (.ref a8l_1), .unset] [])) t
    refine XS.iconst X89.here hx rfl (hb hby d8_40) ?_
    show Steps p.tables e below (T89.setTop (mkF m 41 #[.val (.ref a8l_0), .val (.ref a8l_1), .unset] [(.int (0 : Int32))])) t
    exact k
  rw [show own_F8l = (0 : Int32) from rfl]
  exact own_retN X89 hx (t := .boolean) Bd.returns (by simp) (hb hby d8_41) hlk (by decide) (by decide) ⟨rfl, N0, e89⟩
theorem pd__JJ_V : parseMethodDescriptor "(JJ)V" = some ⟨[.long, .long], none⟩ := by decide +kernel
theorem pd__J_Ljava_lang_Long_ : parseMethodDescriptor "(J)Ljava/lang/Long;" = some ⟨[.long], some (.object "java/lang/Long")⟩ := by decide +kernel
theorem pd__Ljava_lang_Object__Z : parseMethodDescriptor "(Ljava/lang/Object;)Z" = some ⟨[(.object "java/lang/Object")], some .boolean⟩ := by decide +kernel
def own_F0_111_3 (q0_0 : Int64) (q0_1 : Int64) (q0_2 : Int64) (q0_3 : Int64) (p0_4 : Int32) (j95 : Int64) (j98 : Int64) (i142 : Int32) : Int32 := (if (p0_4 &&& (4 : Int32)) = (0 : Int32) then (if (own_F8t (own_F1 q0_0 q0_1) (own_F1 j95 j98) (own_F3 q0_0 q0_1) (own_F3 j95 j98)) = i142 then (if (own_F8t (own_F1 j95 j98) (own_F1 q0_0 q0_1) (own_F3 j95 j98) (own_F3 q0_0 q0_1)) = i142 then (if (own_F8s (own_F1 q0_0 q0_1) (own_F3 q0_0 q0_1)) = (0 : Int32) then (0 : Int32) else (if (own_F8l) = (0 : Int32) then (1 : Int32) else (0 : Int32))) else (0 : Int32)) else (0 : Int32)) else (if (own_F8t (own_F1 q0_0 q0_1) (own_F1 j95 j98) (own_F3 q0_0 q0_1) (own_F3 j95 j98)) = i142 then (if (own_F8t (own_F1 j95 j98) (own_F1 q0_0 q0_1) (own_F3 j95 j98) (own_F3 q0_0 q0_1)) = i142 then (if (own_F8s (own_F1 q0_0 q0_1) (own_F3 q0_0 q0_1)) = (0 : Int32) then (0 : Int32) else (if (own_F8n) = (0 : Int32) then (1 : Int32) else (0 : Int32))) else (0 : Int32)) else (0 : Int32)))
def own_F0_44_2 (q0_0 : Int64) (q0_1 : Int64) (q0_2 : Int64) (q0_3 : Int64) (p0_4 : Int32) (j95 : Int64) (j98 : Int64) : Int32 := (if (own_F1 q0_0 q0_1) = (own_F1 j95 j98) then (if (own_F3 q0_0 q0_1) = (own_F3 j95 j98) then (own_F0_111_3 q0_0 q0_1 q0_2 q0_3 p0_4 j95 j98 (1 : Int32)) else (own_F0_111_3 q0_0 q0_1 q0_2 q0_3 p0_4 j95 j98 (0 : Int32))) else (own_F0_111_3 q0_0 q0_1 q0_2 q0_3 p0_4 j95 j98 (0 : Int32)))
def own_F0_28_1 (q0_0 : Int64) (q0_1 : Int64) (q0_2 : Int64) (q0_3 : Int64) (p0_4 : Int32) (j95 : Int64) : Int32 := (if (p0_4 &&& (2 : Int32)) = (0 : Int32) then (own_F0_44_2 q0_0 q0_1 q0_2 q0_3 p0_4 j95 q0_3) else (own_F0_44_2 q0_0 q0_1 q0_2 q0_3 p0_4 j95 (own_F3 q0_0 q0_1)))
def own_F0 (q0_0 : Int64) (q0_1 : Int64) (q0_2 : Int64) (q0_3 : Int64) (p0_4 : Int32) : Int32 := (if (p0_4 &&& (1 : Int32)) = (0 : Int32) then (own_F0_28_1 q0_0 q0_1 q0_2 q0_3 p0_4 q0_2) else (own_F0_28_1 q0_0 q0_1 q0_2 q0_3 p0_4 (own_F1 q0_0 q0_1)))
theorem own_ef0 (m : MethodId) (x0 : Int64) (x1 : Int64) (x2 : Int64) (x3 : Int64) (x4 : Int32) : entryFrame m #[(.long x0), (.long x1), (.long x2), (.long x3), (.int x4)] maxLocals = mkF m 0 #[.val (.long x0), .second, .val (.long x1), .second, .val (.long x2), .second, .val (.long x3), .second, .val (.int x4), .unset, .unset, .unset, .unset, .unset, .unset, .unset, .unset, .unset, .unset, .unset, .unset, .unset, .unset, .unset, .unset] [] := by first | (simp [entryFrame, mkF, argsToLocals, Value.category, maxLocals]; done) | rfl
def own_Q0 (r : Int32) (h0 : Heap) (n0 : Nat) (v : Option Value) (h : Heap) (L : List Loc) : Prop := v = some (.int r) ∧ Fr n0 L
set_option maxRecDepth 65536 in
set_option maxHeartbeats 40000000 in
theorem own_rm0 (l : Launch) (Z : State) (a0 : Array Value) (hw : ∀ d ∈ tables_1, d.before a0 Z = true) (ws : List Jvm.Cond) (q0_0 : Int64) (q0_1 : Int64) (q0_2 : Int64) (q0_3 : Int64) (p0_4 : Int32) (wLC : Addr) (cLC : Cell) (h0 : Heap) (n0 : Nat) (Z0 : n0 ≤ h0.size) (O0 : Old Z n0 h0) (SLC : Sta Z Z.heap "java/lang/Long$LongCache" "cache" "[Ljava/lang/Long;" (.ref wLC)) (BLC : Bxs Z wLC cLC "java/lang/Long" "J" (256 : Int32) (fun j => .long (j - 128).toInt64)) :
    MetFree l x (head1 (Jvm.Cond.code x code maxLocals ret :: ws) room_1) (fun a U => a = #[(.long q0_0), (.long q0_1), (.long q0_2), (.long q0_3), (.int p0_4)] ∧ Z.Warmed39 U.vm ∧ U.heap = h0) (fun _ _ _ _ _ => True) (fun _ U o U' => ∃ v L, o = .returned v ∧ own_Q0 (own_F0 q0_0 q0_1 q0_2 q0_3 p0_4) h0 n0 v U'.heap L ∧ FrameEnd U o U' L room_1.cells room_1.slots) := by
  refine MetFree.of_bodySF (plainFor_of_name pn_com_example_vasto_vasto_cluster_TokenRangeEqualsPinLaw) hisR ?_
  intro p e s m args below meth c s₁ Bd hml0 hP hK
  obtain ⟨rfl, hZ, hh⟩ := hP
  have hx := Bd.exec
  have hby := Bd.bytes
  have hlk : meth.locks = false := BodyLoose.notSynchronized Bd
  have hml : c.maxLocals = 25 := hml0
  have hown : s.vm.findClass "com/example/vasto/vasto/cluster/TokenRangeEqualsPinLaw" = some m.cls := findClass_of_methodNamed Bd.named
  have hnm := (name_of_methodNamed Bd.named Bd.method).1
  have X0 : Stand p l e room_1 s m #[(.long q0_0), (.long q0_1), (.long q0_2), (.long q0_3), (.int p0_4)] below meth c s₁ [] 0 0 := Stand.of_body Bd
  have e0 : s₁.heap = h0 := by rw [← hh, Bd.state]; rfl
  have N0 := Fr.nil n0
  show own_Go p e below (own_P s below room_1 (own_Q0 (own_F0 q0_0 q0_1 q0_2 q0_3 p0_4) h0 n0)) s₁ (entryFrame m #[(.long q0_0), (.long q0_1), (.long q0_2), (.long q0_3), (.int p0_4)] maxLocals)
  refine own_in (own_ef0 m q0_0 q0_1 q0_2 q0_3 p0_4) ?_
  refine own_by (T' := s₁) (g' := (mkF m 2 #[.val (.long q0_0), .second, .val (.long q0_1), .second, .val (.long q0_2), .second, .val (.long q0_3), .second, .val (.int p0_4), .unset, .unset, .unset, .unset, .unset, .unset, .unset, .unset, .unset, .unset, .unset, .unset, .unset, .unset, .unset, .unset] [(.long q0_1), (.long q0_0)])) (fun t k => ?_) ?_
  · show Steps p.tables e below (s₁.setTop (mkF m 0 #[.val (.long q0_0), .second, .val (.long q0_1), .second, .val (.long q0_2), .second, .val (.long q0_3), .second, .val (.int p0_4), .unset, .unset, .unset, .unset, .unset, .unset, .unset, .unset, .unset, .unset, .unset, .unset, .unset, .unset, .unset, .unset] [])) t
    refine XS.lloadN X0.here hx rfl (hb hby at_0) rfl ?_
    show Steps p.tables e below (s₁.setTop (mkF m 1 #[.val (.long q0_0), .second, .val (.long q0_1), .second, .val (.long q0_2), .second, .val (.long q0_3), .second, .val (.int p0_4), .unset, .unset, .unset, .unset, .unset, .unset, .unset, .unset, .unset, .unset, .unset, .unset, .unset, .unset, .unset, .unset] [(.long q0_0)])) t
    refine XS.lloadN X0.here hx rfl (hb hby at_1) rfl ?_
    show Steps p.tables e below (s₁.setTop (mkF m 2 #[.val (.long q0_0), .second, .val (.long q0_1), .second, .val (.long q0_2), .second, .val (.long q0_3), .second, .val (.int p0_4), .unset, .unset, .unset, .unset, .unset, .unset, .unset, .unset, .unset, .unset, .unset, .unset, .unset, .unset, .unset, .unset] [(.long q0_1), (.long q0_0)])) t
    exact k
  obtain ⟨v90, _, ⟨T90, L90, k90, n90⟩, -, X90, ⟨Lc90, hQ90, l90, y90, z90⟩, st90⟩ := Jvm.LawKit.callS X0 hx (y := (⟨"com/example/vasto/vasto/cluster/TokenRangeEqualsPinLaw", "loOf", "(JJ)J"⟩ : MethodName)) hown (mvT hZ (hw _ (List.mem_of_getElem? (i := 0) rfl))) (mvT hZ (hw _ (List.mem_of_getElem? (i := 1) rfl))) (mvT hZ (hw _ (List.mem_of_getElem? (i := 2) rfl))) (mvT hZ (hw _ (List.mem_of_getElem? (i := 3) rfl))) (by decide) (backOf (W := 0) (own_rm1 l Z a0 hw [] q0_0 q0_1 h0 n0 Z0) hZ (hw _ (List.mem_of_getElem? (i := 3) rfl)) (hw _ (List.mem_of_getElem? (i := 2) rfl)) (by decide) (by decide)) (g := (mkF m 2 #[.val (.long q0_0), .second, .val (.long q0_1), .second, .val (.long q0_2), .second, .val (.long q0_3), .second, .val (.int p0_4), .unset, .unset, .unset, .unset, .unset, .unset, .unset, .unset, .unset, .unset, .unset, .unset, .unset, .unset, .unset, .unset] [(.long q0_1), (.long q0_0)])) rfl (by rw [hml]; rfl) (argsL := [(.long q0_0), (.long q0_1)]) (rest := []) (lenOf pd__JJ_J rfl) rfl (by show 2 * 0 + _ ≤ _; exact Nat.le_of_eq rfl) (hb hby at_2) (fun _ _ => ⟨rfl, e0, (by decide : 0 + 0 ≤ _), (by decide : 0 + 0 ≤ _)⟩)
  dsimp only [Pt.U, Pt.locs, Pt.cells, Pt.slots] at X90 l90 y90 z90 st90 hQ90
  subst l90 y90 z90
  obtain ⟨rfl, M90, e90⟩ := hQ90
  have N91 := Fr.app N0 M90
  refine own_by (T' := T90) (g' := (mkF m 5 #[.val (.long q0_0), .second, .val (.long q0_1), .second, .val (.long q0_2), .second, .val (.long q0_3), .second, .val (.int p0_4), .unset, .unset, .unset, .unset, .unset, .unset, .unset, .unset, .unset, .unset, .unset, .unset, .unset, .unset, .unset, .unset] [(.long (own_F1 q0_0 q0_1))])) st90 ?_
  refine own_by (T' := T90) (g' := (mkF m 9 #[.val (.long q0_0), .second, .val (.long q0_1), .second, .val (.long q0_2), .second, .val (.long q0_3), .second, .val (.int p0_4), .val (.long (own_F1 q0_0 q0_1)), .second, .unset, .unset, .unset, .unset, .unset, .unset, .unset, .unset, .unset, .unset, .unset, .unset, .unset, .unset] [(.long q0_1), (.long q0_0)])) (fun t k => ?_) ?_
  · show Steps p.tables e below (T90.setTop (mkF m 5 #[.val (.long q0_0), .second, .val (.long q0_1), .second, .val (.long q0_2), .second, .val (.long q0_3), .second, .val (.int p0_4), .unset, .unset, .unset, .unset, .unset, .unset, .unset, .unset, .unset, .unset, .unset, .unset, .unset, .unset, .unset, .unset] [(.long (own_F1 q0_0 q0_1))])) t
    refine XS.lstore X90.here hx rfl (hb hby at_5) rfl (l' := #[.val (.long q0_0), .second, .val (.long q0_1), .second, .val (.long q0_2), .second, .val (.long q0_3), .second, .val (.int p0_4), .val (.long (own_F1 q0_0 q0_1)), .second, .unset, .unset, .unset, .unset, .unset, .unset, .unset, .unset, .unset, .unset, .unset, .unset, .unset, .unset]) rfl ?_
    show Steps p.tables e below (T90.setTop (mkF m 7 #[.val (.long q0_0), .second, .val (.long q0_1), .second, .val (.long q0_2), .second, .val (.long q0_3), .second, .val (.int p0_4), .val (.long (own_F1 q0_0 q0_1)), .second, .unset, .unset, .unset, .unset, .unset, .unset, .unset, .unset, .unset, .unset, .unset, .unset, .unset, .unset] [])) t
    refine XS.lloadN X90.here hx rfl (hb hby at_7) rfl ?_
    show Steps p.tables e below (T90.setTop (mkF m 8 #[.val (.long q0_0), .second, .val (.long q0_1), .second, .val (.long q0_2), .second, .val (.long q0_3), .second, .val (.int p0_4), .val (.long (own_F1 q0_0 q0_1)), .second, .unset, .unset, .unset, .unset, .unset, .unset, .unset, .unset, .unset, .unset, .unset, .unset, .unset, .unset] [(.long q0_0)])) t
    refine XS.lloadN X90.here hx rfl (hb hby at_8) rfl ?_
    show Steps p.tables e below (T90.setTop (mkF m 9 #[.val (.long q0_0), .second, .val (.long q0_1), .second, .val (.long q0_2), .second, .val (.long q0_3), .second, .val (.int p0_4), .val (.long (own_F1 q0_0 q0_1)), .second, .unset, .unset, .unset, .unset, .unset, .unset, .unset, .unset, .unset, .unset, .unset, .unset, .unset, .unset] [(.long q0_1), (.long q0_0)])) t
    exact k
  obtain ⟨v92, _, ⟨T92, L92, k92, n92⟩, -, X92, ⟨Lc92, hQ92, l92, y92, z92⟩, st92⟩ := Jvm.LawKit.callS X90 hx (y := (⟨"com/example/vasto/vasto/cluster/TokenRangeEqualsPinLaw", "hiOf", "(JJ)J"⟩ : MethodName)) hown (mvT hZ (hw _ (List.mem_of_getElem? (i := 8) rfl))) (mvT hZ (hw _ (List.mem_of_getElem? (i := 9) rfl))) (mvT hZ (hw _ (List.mem_of_getElem? (i := 2) rfl))) (mvT hZ (hw _ (List.mem_of_getElem? (i := 10) rfl))) (by decide) (backOf (W := 0) (own_rm3 l Z a0 hw [] q0_0 q0_1 h0 n0 Z0) hZ (hw _ (List.mem_of_getElem? (i := 10) rfl)) (hw _ (List.mem_of_getElem? (i := 2) rfl)) (by decide) (by decide)) (g := (mkF m 9 #[.val (.long q0_0), .second, .val (.long q0_1), .second, .val (.long q0_2), .second, .val (.long q0_3), .second, .val (.int p0_4), .val (.long (own_F1 q0_0 q0_1)), .second, .unset, .unset, .unset, .unset, .unset, .unset, .unset, .unset, .unset, .unset, .unset, .unset, .unset, .unset] [(.long q0_1), (.long q0_0)])) rfl (by rw [hml]; rfl) (argsL := [(.long q0_0), (.long q0_1)]) (rest := []) (lenOf pd__JJ_J rfl) rfl (by show 2 * 0 + _ ≤ _; exact Nat.le_of_eq rfl) (hb hby at_9) (fun _ _ => ⟨rfl, e90, (by decide : 0 + 0 ≤ _), (by decide : 0 + 0 ≤ _)⟩)
  dsimp only [Pt.U, Pt.locs, Pt.cells, Pt.slots] at X92 l92 y92 z92 st92 hQ92
  subst l92 y92 z92
  obtain ⟨rfl, M92, e92⟩ := hQ92
  have N93 := Fr.app N91 M92
  refine own_by (T' := T92) (g' := (mkF m 12 #[.val (.long q0_0), .second, .val (.long q0_1), .second, .val (.long q0_2), .second, .val (.long q0_3), .second, .val (.int p0_4), .val (.long (own_F1 q0_0 q0_1)), .second, .unset, .unset, .unset, .unset, .unset, .unset, .unset, .unset, .unset, .unset, .unset, .unset, .unset, .unset] [(.long (own_F3 q0_0 q0_1))])) st92 ?_
  refine own_by (T' := T92) (g' := (mkF m 18 #[.val (.long q0_0), .second, .val (.long q0_1), .second, .val (.long q0_2), .second, .val (.long q0_3), .second, .val (.int p0_4), .val (.long (own_F1 q0_0 q0_1)), .second, .val (.long (own_F3 q0_0 q0_1)), .second, .unset, .unset, .unset, .unset, .unset, .unset, .unset, .unset, .unset, .unset, .unset, .unset] [(.int (p0_4 &&& (1 : Int32)))])) (fun t k => ?_) ?_
  · show Steps p.tables e below (T92.setTop (mkF m 12 #[.val (.long q0_0), .second, .val (.long q0_1), .second, .val (.long q0_2), .second, .val (.long q0_3), .second, .val (.int p0_4), .val (.long (own_F1 q0_0 q0_1)), .second, .unset, .unset, .unset, .unset, .unset, .unset, .unset, .unset, .unset, .unset, .unset, .unset, .unset, .unset] [(.long (own_F3 q0_0 q0_1))])) t
    refine XS.lstore X92.here hx rfl (hb hby at_12) rfl (l' := #[.val (.long q0_0), .second, .val (.long q0_1), .second, .val (.long q0_2), .second, .val (.long q0_3), .second, .val (.int p0_4), .val (.long (own_F1 q0_0 q0_1)), .second, .val (.long (own_F3 q0_0 q0_1)), .second, .unset, .unset, .unset, .unset, .unset, .unset, .unset, .unset, .unset, .unset, .unset, .unset]) rfl ?_
    show Steps p.tables e below (T92.setTop (mkF m 14 #[.val (.long q0_0), .second, .val (.long q0_1), .second, .val (.long q0_2), .second, .val (.long q0_3), .second, .val (.int p0_4), .val (.long (own_F1 q0_0 q0_1)), .second, .val (.long (own_F3 q0_0 q0_1)), .second, .unset, .unset, .unset, .unset, .unset, .unset, .unset, .unset, .unset, .unset, .unset, .unset] [])) t
    refine XS.iload X92.here hx rfl (hb hby at_14) rfl ?_
    show Steps p.tables e below (T92.setTop (mkF m 16 #[.val (.long q0_0), .second, .val (.long q0_1), .second, .val (.long q0_2), .second, .val (.long q0_3), .second, .val (.int p0_4), .val (.long (own_F1 q0_0 q0_1)), .second, .val (.long (own_F3 q0_0 q0_1)), .second, .unset, .unset, .unset, .unset, .unset, .unset, .unset, .unset, .unset, .unset, .unset, .unset] [(.int p0_4)])) t
    refine XS.iconst X92.here hx rfl (hb hby at_16) ?_
    show Steps p.tables e below (T92.setTop (mkF m 17 #[.val (.long q0_0), .second, .val (.long q0_1), .second, .val (.long q0_2), .second, .val (.long q0_3), .second, .val (.int p0_4), .val (.long (own_F1 q0_0 q0_1)), .second, .val (.long (own_F3 q0_0 q0_1)), .second, .unset, .unset, .unset, .unset, .unset, .unset, .unset, .unset, .unset, .unset, .unset, .unset] [(.int (1 : Int32)), (.int p0_4)])) t
    refine XS.iand X92.here hx rfl (hb hby at_17) rfl ?_
    show Steps p.tables e below (T92.setTop (mkF m 18 #[.val (.long q0_0), .second, .val (.long q0_1), .second, .val (.long q0_2), .second, .val (.long q0_3), .second, .val (.int p0_4), .val (.long (own_F1 q0_0 q0_1)), .second, .val (.long (own_F3 q0_0 q0_1)), .second, .unset, .unset, .unset, .unset, .unset, .unset, .unset, .unset, .unset, .unset, .unset, .unset] [(.int (p0_4 &&& (1 : Int32)))])) t
    exact k
  have J0_1 : ∀ (T96 : State) (L96 : List Loc) (j95 : Int64), Stand p l e room_1 s m #[(.long q0_0), (.long q0_1), (.long q0_2), (.long q0_3), (.int p0_4)] below meth c T96 L96 0 0 → T96.heap = h0 → Fr n0 L96 → own_Go p e below (own_P s below room_1 (own_Q0 (own_F0_28_1 q0_0 q0_1 q0_2 q0_3 p0_4 j95) h0 n0)) T96 (mkF m 28 #[.val (.long q0_0), .second, .val (.long q0_1), .second, .val (.long q0_2), .second, .val (.long q0_3), .second, .val (.int p0_4), .val (.long (own_F1 q0_0 q0_1)), .second, .val (.long (own_F3 q0_0 q0_1)), .second, .unset, .unset, .unset, .unset, .unset, .unset, .unset, .unset, .unset, .unset, .unset, .unset] [(.long j95)]) := by
    intro T96 L96 j95 X96 e96 N96
    refine own_by (T' := T96) (g' := (mkF m 34 #[.val (.long q0_0), .second, .val (.long q0_1), .second, .val (.long q0_2), .second, .val (.long q0_3), .second, .val (.int p0_4), .val (.long (own_F1 q0_0 q0_1)), .second, .val (.long (own_F3 q0_0 q0_1)), .second, .val (.long j95), .second, .unset, .unset, .unset, .unset, .unset, .unset, .unset, .unset, .unset, .unset] [(.int (p0_4 &&& (2 : Int32)))])) (fun t k => ?_) ?_
    · show Steps p.tables e below (T96.setTop (mkF m 28 #[.val (.long q0_0), .second, .val (.long q0_1), .second, .val (.long q0_2), .second, .val (.long q0_3), .second, .val (.int p0_4), .val (.long (own_F1 q0_0 q0_1)), .second, .val (.long (own_F3 q0_0 q0_1)), .second, .unset, .unset, .unset, .unset, .unset, .unset, .unset, .unset, .unset, .unset, .unset, .unset] [(.long j95)])) t
      refine XS.lstore X96.here hx rfl (hb hby at_28) rfl (l' := #[.val (.long q0_0), .second, .val (.long q0_1), .second, .val (.long q0_2), .second, .val (.long q0_3), .second, .val (.int p0_4), .val (.long (own_F1 q0_0 q0_1)), .second, .val (.long (own_F3 q0_0 q0_1)), .second, .val (.long j95), .second, .unset, .unset, .unset, .unset, .unset, .unset, .unset, .unset, .unset, .unset]) rfl ?_
      show Steps p.tables e below (T96.setTop (mkF m 30 #[.val (.long q0_0), .second, .val (.long q0_1), .second, .val (.long q0_2), .second, .val (.long q0_3), .second, .val (.int p0_4), .val (.long (own_F1 q0_0 q0_1)), .second, .val (.long (own_F3 q0_0 q0_1)), .second, .val (.long j95), .second, .unset, .unset, .unset, .unset, .unset, .unset, .unset, .unset, .unset, .unset] [])) t
      refine XS.iload X96.here hx rfl (hb hby at_30) rfl ?_
      show Steps p.tables e below (T96.setTop (mkF m 32 #[.val (.long q0_0), .second, .val (.long q0_1), .second, .val (.long q0_2), .second, .val (.long q0_3), .second, .val (.int p0_4), .val (.long (own_F1 q0_0 q0_1)), .second, .val (.long (own_F3 q0_0 q0_1)), .second, .val (.long j95), .second, .unset, .unset, .unset, .unset, .unset, .unset, .unset, .unset, .unset, .unset] [(.int p0_4)])) t
      refine XS.iconst X96.here hx rfl (hb hby at_32) ?_
      show Steps p.tables e below (T96.setTop (mkF m 33 #[.val (.long q0_0), .second, .val (.long q0_1), .second, .val (.long q0_2), .second, .val (.long q0_3), .second, .val (.int p0_4), .val (.long (own_F1 q0_0 q0_1)), .second, .val (.long (own_F3 q0_0 q0_1)), .second, .val (.long j95), .second, .unset, .unset, .unset, .unset, .unset, .unset, .unset, .unset, .unset, .unset] [(.int (2 : Int32)), (.int p0_4)])) t
      refine XS.iand X96.here hx rfl (hb hby at_33) rfl ?_
      show Steps p.tables e below (T96.setTop (mkF m 34 #[.val (.long q0_0), .second, .val (.long q0_1), .second, .val (.long q0_2), .second, .val (.long q0_3), .second, .val (.int p0_4), .val (.long (own_F1 q0_0 q0_1)), .second, .val (.long (own_F3 q0_0 q0_1)), .second, .val (.long j95), .second, .unset, .unset, .unset, .unset, .unset, .unset, .unset, .unset, .unset, .unset] [(.int (p0_4 &&& (2 : Int32)))])) t
      exact k
    have J0_2 : ∀ (T99 : State) (L99 : List Loc) (j98 : Int64), Stand p l e room_1 s m #[(.long q0_0), (.long q0_1), (.long q0_2), (.long q0_3), (.int p0_4)] below meth c T99 L99 0 0 → T99.heap = h0 → Fr n0 L99 → own_Go p e below (own_P s below room_1 (own_Q0 (own_F0_44_2 q0_0 q0_1 q0_2 q0_3 p0_4 j95 j98) h0 n0)) T99 (mkF m 44 #[.val (.long q0_0), .second, .val (.long q0_1), .second, .val (.long q0_2), .second, .val (.long q0_3), .second, .val (.int p0_4), .val (.long (own_F1 q0_0 q0_1)), .second, .val (.long (own_F3 q0_0 q0_1)), .second, .val (.long j95), .second, .unset, .unset, .unset, .unset, .unset, .unset, .unset, .unset, .unset, .unset] [(.long j98)]) := by
      intro T99 L99 j98 X99 e99 N99
      refine own_by (T' := T99) (g' := (mkF m 50 #[.val (.long q0_0), .second, .val (.long q0_1), .second, .val (.long q0_2), .second, .val (.long q0_3), .second, .val (.int p0_4), .val (.long (own_F1 q0_0 q0_1)), .second, .val (.long (own_F3 q0_0 q0_1)), .second, .val (.long j95), .second, .val (.long j98), .second, .unset, .unset, .unset, .unset, .unset, .unset, .unset, .unset] [(.long j98), (.long j95)])) (fun t k => ?_) ?_
      · show Steps p.tables e below (T99.setTop (mkF m 44 #[.val (.long q0_0), .second, .val (.long q0_1), .second, .val (.long q0_2), .second, .val (.long q0_3), .second, .val (.int p0_4), .val (.long (own_F1 q0_0 q0_1)), .second, .val (.long (own_F3 q0_0 q0_1)), .second, .val (.long j95), .second, .unset, .unset, .unset, .unset, .unset, .unset, .unset, .unset, .unset, .unset] [(.long j98)])) t
        refine XS.lstore X99.here hx rfl (hb hby at_44) rfl (l' := #[.val (.long q0_0), .second, .val (.long q0_1), .second, .val (.long q0_2), .second, .val (.long q0_3), .second, .val (.int p0_4), .val (.long (own_F1 q0_0 q0_1)), .second, .val (.long (own_F3 q0_0 q0_1)), .second, .val (.long j95), .second, .val (.long j98), .second, .unset, .unset, .unset, .unset, .unset, .unset, .unset, .unset]) rfl ?_
        show Steps p.tables e below (T99.setTop (mkF m 46 #[.val (.long q0_0), .second, .val (.long q0_1), .second, .val (.long q0_2), .second, .val (.long q0_3), .second, .val (.int p0_4), .val (.long (own_F1 q0_0 q0_1)), .second, .val (.long (own_F3 q0_0 q0_1)), .second, .val (.long j95), .second, .val (.long j98), .second, .unset, .unset, .unset, .unset, .unset, .unset, .unset, .unset] [])) t
        refine XS.lload X99.here hx rfl (hb hby at_46) rfl ?_
        show Steps p.tables e below (T99.setTop (mkF m 48 #[.val (.long q0_0), .second, .val (.long q0_1), .second, .val (.long q0_2), .second, .val (.long q0_3), .second, .val (.int p0_4), .val (.long (own_F1 q0_0 q0_1)), .second, .val (.long (own_F3 q0_0 q0_1)), .second, .val (.long j95), .second, .val (.long j98), .second, .unset, .unset, .unset, .unset, .unset, .unset, .unset, .unset] [(.long j95)])) t
        refine XS.lload X99.here hx rfl (hb hby at_48) rfl ?_
        show Steps p.tables e below (T99.setTop (mkF m 50 #[.val (.long q0_0), .second, .val (.long q0_1), .second, .val (.long q0_2), .second, .val (.long q0_3), .second, .val (.int p0_4), .val (.long (own_F1 q0_0 q0_1)), .second, .val (.long (own_F3 q0_0 q0_1)), .second, .val (.long j95), .second, .val (.long j98), .second, .unset, .unset, .unset, .unset, .unset, .unset, .unset, .unset] [(.long j98), (.long j95)])) t
        exact k
      obtain ⟨v100, _, ⟨T100, L100, k100, n100⟩, -, X100, ⟨Lc100, hQ100, l100, y100, z100⟩, st100⟩ := Jvm.LawKit.callS X99 hx (y := (⟨"com/example/vasto/vasto/cluster/TokenRangeEqualsPinLaw", "loOf", "(JJ)J"⟩ : MethodName)) hown (mvT hZ (hw _ (List.mem_of_getElem? (i := 0) rfl))) (mvT hZ (hw _ (List.mem_of_getElem? (i := 1) rfl))) (mvT hZ (hw _ (List.mem_of_getElem? (i := 2) rfl))) (mvT hZ (hw _ (List.mem_of_getElem? (i := 3) rfl))) (by decide) (backOf (W := 0) (own_rm1 l Z a0 hw [] j95 j98 h0 n0 Z0) hZ (hw _ (List.mem_of_getElem? (i := 3) rfl)) (hw _ (List.mem_of_getElem? (i := 2) rfl)) (by decide) (by decide)) (g := (mkF m 50 #[.val (.long q0_0), .second, .val (.long q0_1), .second, .val (.long q0_2), .second, .val (.long q0_3), .second, .val (.int p0_4), .val (.long (own_F1 q0_0 q0_1)), .second, .val (.long (own_F3 q0_0 q0_1)), .second, .val (.long j95), .second, .val (.long j98), .second, .unset, .unset, .unset, .unset, .unset, .unset, .unset, .unset] [(.long j98), (.long j95)])) rfl (by rw [hml]; rfl) (argsL := [(.long j95), (.long j98)]) (rest := []) (lenOf pd__JJ_J rfl) rfl (by show 2 * 0 + _ ≤ _; exact Nat.le_of_eq rfl) (hb hby at_50) (fun _ _ => ⟨rfl, e99, (by decide : 0 + 0 ≤ _), (by decide : 0 + 0 ≤ _)⟩)
      dsimp only [Pt.U, Pt.locs, Pt.cells, Pt.slots] at X100 l100 y100 z100 st100 hQ100
      subst l100 y100 z100
      obtain ⟨rfl, M100, e100⟩ := hQ100
      have N101 := Fr.app N99 M100
      refine own_by (T' := T100) (g' := (mkF m 53 #[.val (.long q0_0), .second, .val (.long q0_1), .second, .val (.long q0_2), .second, .val (.long q0_3), .second, .val (.int p0_4), .val (.long (own_F1 q0_0 q0_1)), .second, .val (.long (own_F3 q0_0 q0_1)), .second, .val (.long j95), .second, .val (.long j98), .second, .unset, .unset, .unset, .unset, .unset, .unset, .unset, .unset] [(.long (own_F1 j95 j98))])) st100 ?_
      refine own_by (T' := T100) (g' := (mkF m 59 #[.val (.long q0_0), .second, .val (.long q0_1), .second, .val (.long q0_2), .second, .val (.long q0_3), .second, .val (.int p0_4), .val (.long (own_F1 q0_0 q0_1)), .second, .val (.long (own_F3 q0_0 q0_1)), .second, .val (.long j95), .second, .val (.long j98), .second, .val (.long (own_F1 j95 j98)), .second, .unset, .unset, .unset, .unset, .unset, .unset] [(.long j98), (.long j95)])) (fun t k => ?_) ?_
      · show Steps p.tables e below (T100.setTop (mkF m 53 #[.val (.long q0_0), .second, .val (.long q0_1), .second, .val (.long q0_2), .second, .val (.long q0_3), .second, .val (.int p0_4), .val (.long (own_F1 q0_0 q0_1)), .second, .val (.long (own_F3 q0_0 q0_1)), .second, .val (.long j95), .second, .val (.long j98), .second, .unset, .unset, .unset, .unset, .unset, .unset, .unset, .unset] [(.long (own_F1 j95 j98))])) t
        refine XS.lstore X100.here hx rfl (hb hby at_53) rfl (l' := #[.val (.long q0_0), .second, .val (.long q0_1), .second, .val (.long q0_2), .second, .val (.long q0_3), .second, .val (.int p0_4), .val (.long (own_F1 q0_0 q0_1)), .second, .val (.long (own_F3 q0_0 q0_1)), .second, .val (.long j95), .second, .val (.long j98), .second, .val (.long (own_F1 j95 j98)), .second, .unset, .unset, .unset, .unset, .unset, .unset]) rfl ?_
        show Steps p.tables e below (T100.setTop (mkF m 55 #[.val (.long q0_0), .second, .val (.long q0_1), .second, .val (.long q0_2), .second, .val (.long q0_3), .second, .val (.int p0_4), .val (.long (own_F1 q0_0 q0_1)), .second, .val (.long (own_F3 q0_0 q0_1)), .second, .val (.long j95), .second, .val (.long j98), .second, .val (.long (own_F1 j95 j98)), .second, .unset, .unset, .unset, .unset, .unset, .unset] [])) t
        refine XS.lload X100.here hx rfl (hb hby at_55) rfl ?_
        show Steps p.tables e below (T100.setTop (mkF m 57 #[.val (.long q0_0), .second, .val (.long q0_1), .second, .val (.long q0_2), .second, .val (.long q0_3), .second, .val (.int p0_4), .val (.long (own_F1 q0_0 q0_1)), .second, .val (.long (own_F3 q0_0 q0_1)), .second, .val (.long j95), .second, .val (.long j98), .second, .val (.long (own_F1 j95 j98)), .second, .unset, .unset, .unset, .unset, .unset, .unset] [(.long j95)])) t
        refine XS.lload X100.here hx rfl (hb hby at_57) rfl ?_
        show Steps p.tables e below (T100.setTop (mkF m 59 #[.val (.long q0_0), .second, .val (.long q0_1), .second, .val (.long q0_2), .second, .val (.long q0_3), .second, .val (.int p0_4), .val (.long (own_F1 q0_0 q0_1)), .second, .val (.long (own_F3 q0_0 q0_1)), .second, .val (.long j95), .second, .val (.long j98), .second, .val (.long (own_F1 j95 j98)), .second, .unset, .unset, .unset, .unset, .unset, .unset] [(.long j98), (.long j95)])) t
        exact k
      obtain ⟨v102, _, ⟨T102, L102, k102, n102⟩, -, X102, ⟨Lc102, hQ102, l102, y102, z102⟩, st102⟩ := Jvm.LawKit.callS X100 hx (y := (⟨"com/example/vasto/vasto/cluster/TokenRangeEqualsPinLaw", "hiOf", "(JJ)J"⟩ : MethodName)) hown (mvT hZ (hw _ (List.mem_of_getElem? (i := 8) rfl))) (mvT hZ (hw _ (List.mem_of_getElem? (i := 9) rfl))) (mvT hZ (hw _ (List.mem_of_getElem? (i := 2) rfl))) (mvT hZ (hw _ (List.mem_of_getElem? (i := 10) rfl))) (by decide) (backOf (W := 0) (own_rm3 l Z a0 hw [] j95 j98 h0 n0 Z0) hZ (hw _ (List.mem_of_getElem? (i := 10) rfl)) (hw _ (List.mem_of_getElem? (i := 2) rfl)) (by decide) (by decide)) (g := (mkF m 59 #[.val (.long q0_0), .second, .val (.long q0_1), .second, .val (.long q0_2), .second, .val (.long q0_3), .second, .val (.int p0_4), .val (.long (own_F1 q0_0 q0_1)), .second, .val (.long (own_F3 q0_0 q0_1)), .second, .val (.long j95), .second, .val (.long j98), .second, .val (.long (own_F1 j95 j98)), .second, .unset, .unset, .unset, .unset, .unset, .unset] [(.long j98), (.long j95)])) rfl (by rw [hml]; rfl) (argsL := [(.long j95), (.long j98)]) (rest := []) (lenOf pd__JJ_J rfl) rfl (by show 2 * 0 + _ ≤ _; exact Nat.le_of_eq rfl) (hb hby at_59) (fun _ _ => ⟨rfl, e100, (by decide : 0 + 0 ≤ _), (by decide : 0 + 0 ≤ _)⟩)
      dsimp only [Pt.U, Pt.locs, Pt.cells, Pt.slots] at X102 l102 y102 z102 st102 hQ102
      subst l102 y102 z102
      obtain ⟨rfl, M102, e102⟩ := hQ102
      have N103 := Fr.app N101 M102
      refine own_by (T' := T102) (g' := (mkF m 62 #[.val (.long q0_0), .second, .val (.long q0_1), .second, .val (.long q0_2), .second, .val (.long q0_3), .second, .val (.int p0_4), .val (.long (own_F1 q0_0 q0_1)), .second, .val (.long (own_F3 q0_0 q0_1)), .second, .val (.long j95), .second, .val (.long j98), .second, .val (.long (own_F1 j95 j98)), .second, .unset, .unset, .unset, .unset, .unset, .unset] [(.long (own_F3 j95 j98))])) st102 ?_
      refine own_by (T' := T102) (g' := (mkF m 64 #[.val (.long q0_0), .second, .val (.long q0_1), .second, .val (.long q0_2), .second, .val (.long q0_3), .second, .val (.int p0_4), .val (.long (own_F1 q0_0 q0_1)), .second, .val (.long (own_F3 q0_0 q0_1)), .second, .val (.long j95), .second, .val (.long j98), .second, .val (.long (own_F1 j95 j98)), .second, .val (.long (own_F3 j95 j98)), .second, .unset, .unset, .unset, .unset] [])) (fun t k => ?_) ?_
      · show Steps p.tables e below (T102.setTop (mkF m 62 #[.val (.long q0_0), .second, .val (.long q0_1), .second, .val (.long q0_2), .second, .val (.long q0_3), .second, .val (.int p0_4), .val (.long (own_F1 q0_0 q0_1)), .second, .val (.long (own_F3 q0_0 q0_1)), .second, .val (.long j95), .second, .val (.long j98), .second, .val (.long (own_F1 j95 j98)), .second, .unset, .unset, .unset, .unset, .unset, .unset] [(.long (own_F3 j95 j98))])) t
        refine XS.lstore X102.here hx rfl (hb hby at_62) rfl (l' := #[.val (.long q0_0), .second, .val (.long q0_1), .second, .val (.long q0_2), .second, .val (.long q0_3), .second, .val (.int p0_4), .val (.long (own_F1 q0_0 q0_1)), .second, .val (.long (own_F3 q0_0 q0_1)), .second, .val (.long j95), .second, .val (.long j98), .second, .val (.long (own_F1 j95 j98)), .second, .val (.long (own_F3 j95 j98)), .second, .unset, .unset, .unset, .unset]) rfl ?_
        show Steps p.tables e below (T102.setTop (mkF m 64 #[.val (.long q0_0), .second, .val (.long q0_1), .second, .val (.long q0_2), .second, .val (.long q0_3), .second, .val (.int p0_4), .val (.long (own_F1 q0_0 q0_1)), .second, .val (.long (own_F3 q0_0 q0_1)), .second, .val (.long j95), .second, .val (.long j98), .second, .val (.long (own_F1 j95 j98)), .second, .val (.long (own_F3 j95 j98)), .second, .unset, .unset, .unset, .unset] [])) t
        exact k
      obtain ⟨T104, h104, X104, e104, E104, A104, D104, -, st104⟩ := newO X102 hx hZ hown (hw _ (List.mem_of_getElem? (i := 14) rfl)) (hw _ (List.mem_of_getElem? (i := 15) rfl)) (hw _ (List.mem_of_getElem? (i := 16) rfl)) e102 (g := (mkF m 64 #[.val (.long q0_0), .second, .val (.long q0_1), .second, .val (.long q0_2), .second, .val (.long q0_3), .second, .val (.int p0_4), .val (.long (own_F1 q0_0 q0_1)), .second, .val (.long (own_F3 q0_0 q0_1)), .second, .val (.long j95), .second, .val (.long j98), .second, .val (.long (own_F1 j95 j98)), .second, .val (.long (own_F3 j95 j98)), .second, .unset, .unset, .unset, .unset] [])) rfl (hb hby at_64) (by decide) (by decide)
      obtain ⟨b104, g104⟩ : ∃ z, z = h0.size := ⟨_, rfl⟩
      rw [← g104] at A104 D104 st104
      have gn_b104 : n0 ≤ b104 := Nat.le_trans Z0 (Nat.le_of_eq g104.symm)
      have sz_b104 : h0.size ≤ b104 := Nat.le_trans (Keep.refl h0 []).1 (Nat.le_of_eq g104.symm)
      have K105 : Keep h0 h104 [] := (Keep.refl h0 []).ext E104
      have O106 := O0.ext E104
      have Z107 := Nat.le_trans Z0 E104.1
      have f108 : Fld Z h104 b104 "com/example/vasto/vasto/cluster/TokenRange" "left" "J" (.long (0 : Int64)) := D104 (Or.inr (hw _ (List.mem_of_getElem? (i := 24) rfl))) (ty := .long) (by decide)
      have f109 : Fld Z h104 b104 "com/example/vasto/vasto/cluster/TokenRange" "right" "J" (.long (0 : Int64)) := D104 (Or.inr (hw _ (List.mem_of_getElem? (i := 26) rfl))) (ty := .long) (by decide)
      refine own_by (T' := T104) (g' := (mkF m 67 #[.val (.long q0_0), .second, .val (.long q0_1), .second, .val (.long q0_2), .second, .val (.long q0_3), .second, .val (.int p0_4), .val (.long (own_F1 q0_0 q0_1)), .second, .val (.long (own_F3 q0_0 q0_1)), .second, .val (.long j95), .second, .val (.long j98), .second, .val (.long (own_F1 j95 j98)), .second, .val (.long (own_F3 j95 j98)), .second, .unset, .unset, .unset, .unset] [(.ref b104)])) st104 ?_
      refine own_by (T' := T104) (g' := (mkF m 72 #[.val (.long q0_0), .second, .val (.long q0_1), .second, .val (.long q0_2), .second, .val (.long q0_3), .second, .val (.int p0_4), .val (.long (own_F1 q0_0 q0_1)), .second, .val (.long (own_F3 q0_0 q0_1)), .second, .val (.long j95), .second, .val (.long j98), .second, .val (.long (own_F1 j95 j98)), .second, .val (.long (own_F3 j95 j98)), .second, .unset, .unset, .unset, .unset] [(.long (own_F3 q0_0 q0_1)), (.long (own_F1 q0_0 q0_1)), (.ref b104), (.ref b104)])) (fun t k => ?_) ?_
      · show Steps p.tables e below (T104.setTop (mkF m 67 #[.val (.long q0_0), .second, .val (.long q0_1), .second, .val (.long q0_2), .second, .val (.long q0_3), .second, .val (.int p0_4), .val (.long (own_F1 q0_0 q0_1)), .second, .val (.long (own_F3 q0_0 q0_1)), .second, .val (.long j95), .second, .val (.long j98), .second, .val (.long (own_F1 j95 j98)), .second, .val (.long (own_F3 j95 j98)), .second, .unset, .unset, .unset, .unset] [(.ref b104)])) t
        refine XS.dup X104.here hx rfl (hb hby at_67) rfl rfl ?_
        show Steps p.tables e below (T104.setTop (mkF m 68 #[.val (.long q0_0), .second, .val (.long q0_1), .second, .val (.long q0_2), .second, .val (.long q0_3), .second, .val (.int p0_4), .val (.long (own_F1 q0_0 q0_1)), .second, .val (.long (own_F3 q0_0 q0_1)), .second, .val (.long j95), .second, .val (.long j98), .second, .val (.long (own_F1 j95 j98)), .second, .val (.long (own_F3 j95 j98)), .second, .unset, .unset, .unset, .unset] [(.ref b104), (.ref b104)])) t
        refine XS.lload X104.here hx rfl (hb hby at_68) rfl ?_
        show Steps p.tables e below (T104.setTop (mkF m 70 #[.val (.long q0_0), .second, .val (.long q0_1), .second, .val (.long q0_2), .second, .val (.long q0_3), .second, .val (.int p0_4), .val (.long (own_F1 q0_0 q0_1)), .second, .val (.long (own_F3 q0_0 q0_1)), .second, .val (.long j95), .second, .val (.long j98), .second, .val (.long (own_F1 j95 j98)), .second, .val (.long (own_F3 j95 j98)), .second, .unset, .unset, .unset, .unset] [(.long (own_F1 q0_0 q0_1)), (.ref b104), (.ref b104)])) t
        refine XS.lload X104.here hx rfl (hb hby at_70) rfl ?_
        show Steps p.tables e below (T104.setTop (mkF m 72 #[.val (.long q0_0), .second, .val (.long q0_1), .second, .val (.long q0_2), .second, .val (.long q0_3), .second, .val (.int p0_4), .val (.long (own_F1 q0_0 q0_1)), .second, .val (.long (own_F3 q0_0 q0_1)), .second, .val (.long j95), .second, .val (.long j98), .second, .val (.long (own_F1 j95 j98)), .second, .val (.long (own_F3 j95 j98)), .second, .unset, .unset, .unset, .unset] [(.long (own_F3 q0_0 q0_1)), (.long (own_F1 q0_0 q0_1)), (.ref b104), (.ref b104)])) t
        exact k
      obtain ⟨v110, _, ⟨T110, L110, k110, n110⟩, -, X110, ⟨Lc110, hQ110, l110, y110, z110⟩, st110⟩ := X104.specialBack hx (y := (⟨"com/example/vasto/vasto/cluster/TokenRange", "<init>", "(JJ)V"⟩ : MethodName)) rfl hown (mvT hZ (hw _ (List.mem_of_getElem? (i := 17) rfl))) (mvT hZ (hw _ (List.mem_of_getElem? (i := 18) rfl))) (mvT hZ (hw _ (List.mem_of_getElem? (i := 19) rfl))) (by decide) (backOf (W := 1) (own_rm5 l Z a0 hw [] b104 (own_F1 q0_0 q0_1) (own_F3 q0_0 q0_1) (.long (0 : Int64)) (.long (0 : Int64)) h104 n0 Z107 (own_lohi q0_0 q0_1) A104 f108 gn_b104 f109) hZ (hw _ (List.mem_of_getElem? (i := 19) rfl)) (hw _ (List.mem_of_getElem? (i := 16) rfl)) (by decide) (by decide)) (g := (mkF m 72 #[.val (.long q0_0), .second, .val (.long q0_1), .second, .val (.long q0_2), .second, .val (.long q0_3), .second, .val (.int p0_4), .val (.long (own_F1 q0_0 q0_1)), .second, .val (.long (own_F3 q0_0 q0_1)), .second, .val (.long j95), .second, .val (.long j98), .second, .val (.long (own_F1 j95 j98)), .second, .val (.long (own_F3 j95 j98)), .second, .unset, .unset, .unset, .unset] [(.long (own_F3 q0_0 q0_1)), (.long (own_F1 q0_0 q0_1)), (.ref b104), (.ref b104)])) rfl (by rw [hml]; rfl) (Steps.refl _) (a := b104) (argsL := [(.long (own_F1 q0_0 q0_1)), (.long (own_F3 q0_0 q0_1))]) (rest := [(.ref b104)]) (lenOf pd__JJ_V rfl) rfl (by show 2 * 0 + _ ≤ _; exact Nat.le_of_eq rfl) (hb hby at_72) (fun _ _ => ⟨rfl, e104, (by decide : 1 + 0 ≤ _), (by decide : 2 + 0 ≤ _)⟩)
      dsimp only [Pt.U, Pt.locs, Pt.cells, Pt.slots] at X110 l110 y110 z110 st110 hQ110
      subst l110 y110 z110
      obtain ⟨rfl, M110, K110, f111, f112, f113⟩ := hQ110
      have f114 := A104.keep K110
      have K115 : Keep h0 T110.heap [] := K105.trans K110 (allS (Or.inr sz_b104) all0)
      have O116 := O106.keep K110 (allS gn_b104 all0)
      have Z117 := Nat.le_trans Z107 K110.1
      have N118 := Fr.app N103 M110
      refine own_via (T' := T110) (g' := (mkF m 75 #[.val (.long q0_0), .second, .val (.long q0_1), .second, .val (.long q0_2), .second, .val (.long q0_3), .second, .val (.int p0_4), .val (.long (own_F1 q0_0 q0_1)), .second, .val (.long (own_F3 q0_0 q0_1)), .second, .val (.long j95), .second, .val (.long j98), .second, .val (.long (own_F1 j95 j98)), .second, .val (.long (own_F3 j95 j98)), .second, .unset, .unset, .unset, .unset] [(.ref b104)])) st110 ?_
      refine own_by (T' := T110) (g' := (mkF m 77 #[.val (.long q0_0), .second, .val (.long q0_1), .second, .val (.long q0_2), .second, .val (.long q0_3), .second, .val (.int p0_4), .val (.long (own_F1 q0_0 q0_1)), .second, .val (.long (own_F3 q0_0 q0_1)), .second, .val (.long j95), .second, .val (.long j98), .second, .val (.long (own_F1 j95 j98)), .second, .val (.long (own_F3 j95 j98)), .second, .val (.ref b104), .unset, .unset, .unset] [])) (fun t k => ?_) ?_
      · show Steps p.tables e below (T110.setTop (mkF m 75 #[.val (.long q0_0), .second, .val (.long q0_1), .second, .val (.long q0_2), .second, .val (.long q0_3), .second, .val (.int p0_4), .val (.long (own_F1 q0_0 q0_1)), .second, .val (.long (own_F3 q0_0 q0_1)), .second, .val (.long j95), .second, .val (.long j98), .second, .val (.long (own_F1 j95 j98)), .second, .val (.long (own_F3 j95 j98)), .second, .unset, .unset, .unset, .unset] [(.ref b104)])) t
        refine XS.astore X110.here hx rfl (hb hby at_75) rfl rfl (l' := #[.val (.long q0_0), .second, .val (.long q0_1), .second, .val (.long q0_2), .second, .val (.long q0_3), .second, .val (.int p0_4), .val (.long (own_F1 q0_0 q0_1)), .second, .val (.long (own_F3 q0_0 q0_1)), .second, .val (.long j95), .second, .val (.long j98), .second, .val (.long (own_F1 j95 j98)), .second, .val (.long (own_F3 j95 j98)), .second, .val (.ref b104), .unset, .unset, .unset]) rfl ?_
        show Steps p.tables e below (T110.setTop (mkF m 77 #[.val (.long q0_0), .second, .val (.long q0_1), .second, .val (.long q0_2), .second, .val (.long q0_3), .second, .val (.int p0_4), .val (.long (own_F1 q0_0 q0_1)), .second, .val (.long (own_F3 q0_0 q0_1)), .second, .val (.long j95), .second, .val (.long j98), .second, .val (.long (own_F1 j95 j98)), .second, .val (.long (own_F3 j95 j98)), .second, .val (.ref b104), .unset, .unset, .unset] [])) t
        exact k
      obtain ⟨T119, h119, X119, e119, E119, A119, D119, -, st119⟩ := newO X110 hx hZ hown (hw _ (List.mem_of_getElem? (i := 14) rfl)) (hw _ (List.mem_of_getElem? (i := 15) rfl)) (hw _ (List.mem_of_getElem? (i := 16) rfl)) rfl (g := (mkF m 77 #[.val (.long q0_0), .second, .val (.long q0_1), .second, .val (.long q0_2), .second, .val (.long q0_3), .second, .val (.int p0_4), .val (.long (own_F1 q0_0 q0_1)), .second, .val (.long (own_F3 q0_0 q0_1)), .second, .val (.long j95), .second, .val (.long j98), .second, .val (.long (own_F1 j95 j98)), .second, .val (.long (own_F3 j95 j98)), .second, .val (.ref b104), .unset, .unset, .unset] [])) rfl (hb hby at_77) (by decide) (by decide)
      obtain ⟨b119, g119⟩ : ∃ z, z = T110.heap.size := ⟨_, rfl⟩
      rw [← g119] at A119 D119 st119
      have gn_b119 : n0 ≤ b119 := Nat.le_trans Z117 (Nat.le_of_eq g119.symm)
      have sz_b119 : h0.size ≤ b119 := Nat.le_trans K115.1 (Nat.le_of_eq g119.symm)
      have ne_b104_b119 : b104 ≠ b119 := Nat.ne_of_lt (Nat.lt_of_lt_of_le f113.lt (Nat.le_of_eq g119.symm))
      have f120 := f111.ext E119
      have f121 := f112.ext E119
      have f122 := f113.ext E119
      have K123 : Keep h0 h119 [] := K115.ext E119
      have O124 := O116.ext E119
      have Z125 := Nat.le_trans Z117 E119.1
      have f126 : Fld Z h119 b119 "com/example/vasto/vasto/cluster/TokenRange" "left" "J" (.long (0 : Int64)) := D119 (Or.inr (hw _ (List.mem_of_getElem? (i := 24) rfl))) (ty := .long) (by decide)
      have f127 : Fld Z h119 b119 "com/example/vasto/vasto/cluster/TokenRange" "right" "J" (.long (0 : Int64)) := D119 (Or.inr (hw _ (List.mem_of_getElem? (i := 26) rfl))) (ty := .long) (by decide)
      refine own_by (T' := T119) (g' := (mkF m 80 #[.val (.long q0_0), .second, .val (.long q0_1), .second, .val (.long q0_2), .second, .val (.long q0_3), .second, .val (.int p0_4), .val (.long (own_F1 q0_0 q0_1)), .second, .val (.long (own_F3 q0_0 q0_1)), .second, .val (.long j95), .second, .val (.long j98), .second, .val (.long (own_F1 j95 j98)), .second, .val (.long (own_F3 j95 j98)), .second, .val (.ref b104), .unset, .unset, .unset] [(.ref b119)])) st119 ?_
      refine own_by (T' := T119) (g' := (mkF m 85 #[.val (.long q0_0), .second, .val (.long q0_1), .second, .val (.long q0_2), .second, .val (.long q0_3), .second, .val (.int p0_4), .val (.long (own_F1 q0_0 q0_1)), .second, .val (.long (own_F3 q0_0 q0_1)), .second, .val (.long j95), .second, .val (.long j98), .second, .val (.long (own_F1 j95 j98)), .second, .val (.long (own_F3 j95 j98)), .second, .val (.ref b104), .unset, .unset, .unset] [(.long (own_F3 j95 j98)), (.long (own_F1 j95 j98)), (.ref b119), (.ref b119)])) (fun t k => ?_) ?_
      · show Steps p.tables e below (T119.setTop (mkF m 80 #[.val (.long q0_0), .second, .val (.long q0_1), .second, .val (.long q0_2), .second, .val (.long q0_3), .second, .val (.int p0_4), .val (.long (own_F1 q0_0 q0_1)), .second, .val (.long (own_F3 q0_0 q0_1)), .second, .val (.long j95), .second, .val (.long j98), .second, .val (.long (own_F1 j95 j98)), .second, .val (.long (own_F3 j95 j98)), .second, .val (.ref b104), .unset, .unset, .unset] [(.ref b119)])) t
        refine XS.dup X119.here hx rfl (hb hby at_80) rfl rfl ?_
        show Steps p.tables e below (T119.setTop (mkF m 81 #[.val (.long q0_0), .second, .val (.long q0_1), .second, .val (.long q0_2), .second, .val (.long q0_3), .second, .val (.int p0_4), .val (.long (own_F1 q0_0 q0_1)), .second, .val (.long (own_F3 q0_0 q0_1)), .second, .val (.long j95), .second, .val (.long j98), .second, .val (.long (own_F1 j95 j98)), .second, .val (.long (own_F3 j95 j98)), .second, .val (.ref b104), .unset, .unset, .unset] [(.ref b119), (.ref b119)])) t
        refine XS.lload X119.here hx rfl (hb hby at_81) rfl ?_
        show Steps p.tables e below (T119.setTop (mkF m 83 #[.val (.long q0_0), .second, .val (.long q0_1), .second, .val (.long q0_2), .second, .val (.long q0_3), .second, .val (.int p0_4), .val (.long (own_F1 q0_0 q0_1)), .second, .val (.long (own_F3 q0_0 q0_1)), .second, .val (.long j95), .second, .val (.long j98), .second, .val (.long (own_F1 j95 j98)), .second, .val (.long (own_F3 j95 j98)), .second, .val (.ref b104), .unset, .unset, .unset] [(.long (own_F1 j95 j98)), (.ref b119), (.ref b119)])) t
        refine XS.lload X119.here hx rfl (hb hby at_83) rfl ?_
        show Steps p.tables e below (T119.setTop (mkF m 85 #[.val (.long q0_0), .second, .val (.long q0_1), .second, .val (.long q0_2), .second, .val (.long q0_3), .second, .val (.int p0_4), .val (.long (own_F1 q0_0 q0_1)), .second, .val (.long (own_F3 q0_0 q0_1)), .second, .val (.long j95), .second, .val (.long j98), .second, .val (.long (own_F1 j95 j98)), .second, .val (.long (own_F3 j95 j98)), .second, .val (.ref b104), .unset, .unset, .unset] [(.long (own_F3 j95 j98)), (.long (own_F1 j95 j98)), (.ref b119), (.ref b119)])) t
        exact k
      obtain ⟨v128, _, ⟨T128, L128, k128, n128⟩, -, X128, ⟨Lc128, hQ128, l128, y128, z128⟩, st128⟩ := X119.specialBack hx (y := (⟨"com/example/vasto/vasto/cluster/TokenRange", "<init>", "(JJ)V"⟩ : MethodName)) rfl hown (mvT hZ (hw _ (List.mem_of_getElem? (i := 17) rfl))) (mvT hZ (hw _ (List.mem_of_getElem? (i := 18) rfl))) (mvT hZ (hw _ (List.mem_of_getElem? (i := 19) rfl))) (by decide) (backOf (W := 1) (own_rm5 l Z a0 hw [] b119 (own_F1 j95 j98) (own_F3 j95 j98) (.long (0 : Int64)) (.long (0 : Int64)) h119 n0 Z125 (own_lohi j95 j98) A119 f126 gn_b119 f127) hZ (hw _ (List.mem_of_getElem? (i := 19) rfl)) (hw _ (List.mem_of_getElem? (i := 16) rfl)) (by decide) (by decide)) (g := (mkF m 85 #[.val (.long q0_0), .second, .val (.long q0_1), .second, .val (.long q0_2), .second, .val (.long q0_3), .second, .val (.int p0_4), .val (.long (own_F1 q0_0 q0_1)), .second, .val (.long (own_F3 q0_0 q0_1)), .second, .val (.long j95), .second, .val (.long j98), .second, .val (.long (own_F1 j95 j98)), .second, .val (.long (own_F3 j95 j98)), .second, .val (.ref b104), .unset, .unset, .unset] [(.long (own_F3 j95 j98)), (.long (own_F1 j95 j98)), (.ref b119), (.ref b119)])) rfl (by rw [hml]; rfl) (Steps.refl _) (a := b119) (argsL := [(.long (own_F1 j95 j98)), (.long (own_F3 j95 j98))]) (rest := [(.ref b119)]) (lenOf pd__JJ_V rfl) rfl (by show 2 * 0 + _ ≤ _; exact Nat.le_of_eq rfl) (hb hby at_85) (fun _ _ => ⟨rfl, e119, (by decide : 2 + 0 ≤ _), (by decide : 4 + 0 ≤ _)⟩)
      dsimp only [Pt.U, Pt.locs, Pt.cells, Pt.slots] at X128 l128 y128 z128 st128 hQ128
      subst l128 y128 z128
      obtain ⟨rfl, M128, K128, f129, f130, f131⟩ := hQ128
      have f132 := f120.keep K128
      have f133 := f121.keep K128 (ninS ne_b104_b119 nin0)
      have f134 := f122.keep K128 (ninS ne_b104_b119 nin0)
      have f135 := A119.keep K128
      have K136 : Keep h0 T128.heap [] := K123.trans K128 (allS (Or.inr sz_b119) all0)
      have O137 := O124.keep K128 (allS gn_b119 all0)
      have Z138 := Nat.le_trans Z125 K128.1
      have N139 := Fr.app N118 M128
      refine own_via (T' := T128) (g' := (mkF m 88 #[.val (.long q0_0), .second, .val (.long q0_1), .second, .val (.long q0_2), .second, .val (.long q0_3), .second, .val (.int p0_4), .val (.long (own_F1 q0_0 q0_1)), .second, .val (.long (own_F3 q0_0 q0_1)), .second, .val (.long j95), .second, .val (.long j98), .second, .val (.long (own_F1 j95 j98)), .second, .val (.long (own_F3 j95 j98)), .second, .val (.ref b104), .unset, .unset, .unset] [(.ref b119)])) st128 ?_
      refine own_by (T' := T128) (g' := (mkF m 95 #[.val (.long q0_0), .second, .val (.long q0_1), .second, .val (.long q0_2), .second, .val (.long q0_3), .second, .val (.int p0_4), .val (.long (own_F1 q0_0 q0_1)), .second, .val (.long (own_F3 q0_0 q0_1)), .second, .val (.long j95), .second, .val (.long j98), .second, .val (.long (own_F1 j95 j98)), .second, .val (.long (own_F3 j95 j98)), .second, .val (.ref b104), .val (.ref b119), .unset, .unset] [(.int (lcmpW (own_F1 q0_0 q0_1) (own_F1 j95 j98)))])) (fun t k => ?_) ?_
      · show Steps p.tables e below (T128.setTop (mkF m 88 #[.val (.long q0_0), .second, .val (.long q0_1), .second, .val (.long q0_2), .second, .val (.long q0_3), .second, .val (.int p0_4), .val (.long (own_F1 q0_0 q0_1)), .second, .val (.long (own_F3 q0_0 q0_1)), .second, .val (.long j95), .second, .val (.long j98), .second, .val (.long (own_F1 j95 j98)), .second, .val (.long (own_F3 j95 j98)), .second, .val (.ref b104), .unset, .unset, .unset] [(.ref b119)])) t
        refine XS.astore X128.here hx rfl (hb hby at_88) rfl rfl (l' := #[.val (.long q0_0), .second, .val (.long q0_1), .second, .val (.long q0_2), .second, .val (.long q0_3), .second, .val (.int p0_4), .val (.long (own_F1 q0_0 q0_1)), .second, .val (.long (own_F3 q0_0 q0_1)), .second, .val (.long j95), .second, .val (.long j98), .second, .val (.long (own_F1 j95 j98)), .second, .val (.long (own_F3 j95 j98)), .second, .val (.ref b104), .val (.ref b119), .unset, .unset]) rfl ?_
        show Steps p.tables e below (T128.setTop (mkF m 90 #[.val (.long q0_0), .second, .val (.long q0_1), .second, .val (.long q0_2), .second, .val (.long q0_3), .second, .val (.int p0_4), .val (.long (own_F1 q0_0 q0_1)), .second, .val (.long (own_F3 q0_0 q0_1)), .second, .val (.long j95), .second, .val (.long j98), .second, .val (.long (own_F1 j95 j98)), .second, .val (.long (own_F3 j95 j98)), .second, .val (.ref b104), .val (.ref b119), .unset, .unset] [])) t
        refine XS.lload X128.here hx rfl (hb hby at_90) rfl ?_
        show Steps p.tables e below (T128.setTop (mkF m 92 #[.val (.long q0_0), .second, .val (.long q0_1), .second, .val (.long q0_2), .second, .val (.long q0_3), .second, .val (.int p0_4), .val (.long (own_F1 q0_0 q0_1)), .second, .val (.long (own_F3 q0_0 q0_1)), .second, .val (.long j95), .second, .val (.long j98), .second, .val (.long (own_F1 j95 j98)), .second, .val (.long (own_F3 j95 j98)), .second, .val (.ref b104), .val (.ref b119), .unset, .unset] [(.long (own_F1 q0_0 q0_1))])) t
        refine XS.lload X128.here hx rfl (hb hby at_92) rfl ?_
        show Steps p.tables e below (T128.setTop (mkF m 94 #[.val (.long q0_0), .second, .val (.long q0_1), .second, .val (.long q0_2), .second, .val (.long q0_3), .second, .val (.int p0_4), .val (.long (own_F1 q0_0 q0_1)), .second, .val (.long (own_F3 q0_0 q0_1)), .second, .val (.long j95), .second, .val (.long j98), .second, .val (.long (own_F1 j95 j98)), .second, .val (.long (own_F3 j95 j98)), .second, .val (.ref b104), .val (.ref b119), .unset, .unset] [(.long (own_F1 j95 j98)), (.long (own_F1 q0_0 q0_1))])) t
        refine XS.lcmp X128.here hx rfl (hb hby at_94) rfl ?_
        show Steps p.tables e below (T128.setTop (mkF m 95 #[.val (.long q0_0), .second, .val (.long q0_1), .second, .val (.long q0_2), .second, .val (.long q0_3), .second, .val (.int p0_4), .val (.long (own_F1 q0_0 q0_1)), .second, .val (.long (own_F3 q0_0 q0_1)), .second, .val (.long j95), .second, .val (.long j98), .second, .val (.long (own_F1 j95 j98)), .second, .val (.long (own_F3 j95 j98)), .second, .val (.ref b104), .val (.ref b119), .unset, .unset] [(.int (lcmpW (own_F1 q0_0 q0_1) (own_F1 j95 j98)))])) t
        exact k
      have J0_3 : ∀ (T143 : State) (L143 : List Loc) (i142 : Int32), Stand p l e room_1 s m #[(.long q0_0), (.long q0_1), (.long q0_2), (.long q0_3), (.int p0_4)] below meth c T143 L143 2 4 → T143.heap = T128.heap → Fr n0 L143 → own_Go p e below (own_P s below room_1 (own_Q0 (own_F0_111_3 q0_0 q0_1 q0_2 q0_3 p0_4 j95 j98 i142) h0 n0)) T143 (mkF m 111 #[.val (.long q0_0), .second, .val (.long q0_1), .second, .val (.long q0_2), .second, .val (.long q0_3), .second, .val (.int p0_4), .val (.long (own_F1 q0_0 q0_1)), .second, .val (.long (own_F3 q0_0 q0_1)), .second, .val (.long j95), .second, .val (.long j98), .second, .val (.long (own_F1 j95 j98)), .second, .val (.long (own_F3 j95 j98)), .second, .val (.ref b104), .val (.ref b119), .unset, .unset] [(.int i142)]) := by
        intro T143 L143 i142 X143 e143 N143
        refine own_by (T' := T143) (g' := (mkF m 117 #[.val (.long q0_0), .second, .val (.long q0_1), .second, .val (.long q0_2), .second, .val (.long q0_3), .second, .val (.int p0_4), .val (.long (own_F1 q0_0 q0_1)), .second, .val (.long (own_F3 q0_0 q0_1)), .second, .val (.long j95), .second, .val (.long j98), .second, .val (.long (own_F1 j95 j98)), .second, .val (.long (own_F3 j95 j98)), .second, .val (.ref b104), .val (.ref b119), .val (.int i142), .unset] [(.int (p0_4 &&& (4 : Int32)))])) (fun t k => ?_) ?_
        · show Steps p.tables e below (T143.setTop (mkF m 111 #[.val (.long q0_0), .second, .val (.long q0_1), .second, .val (.long q0_2), .second, .val (.long q0_3), .second, .val (.int p0_4), .val (.long (own_F1 q0_0 q0_1)), .second, .val (.long (own_F3 q0_0 q0_1)), .second, .val (.long j95), .second, .val (.long j98), .second, .val (.long (own_F1 j95 j98)), .second, .val (.long (own_F3 j95 j98)), .second, .val (.ref b104), .val (.ref b119), .unset, .unset] [(.int i142)])) t
          refine XS.istore X143.here hx rfl (hb hby at_111) rfl (l' := #[.val (.long q0_0), .second, .val (.long q0_1), .second, .val (.long q0_2), .second, .val (.long q0_3), .second, .val (.int p0_4), .val (.long (own_F1 q0_0 q0_1)), .second, .val (.long (own_F3 q0_0 q0_1)), .second, .val (.long j95), .second, .val (.long j98), .second, .val (.long (own_F1 j95 j98)), .second, .val (.long (own_F3 j95 j98)), .second, .val (.ref b104), .val (.ref b119), .val (.int i142), .unset]) rfl ?_
          show Steps p.tables e below (T143.setTop (mkF m 113 #[.val (.long q0_0), .second, .val (.long q0_1), .second, .val (.long q0_2), .second, .val (.long q0_3), .second, .val (.int p0_4), .val (.long (own_F1 q0_0 q0_1)), .second, .val (.long (own_F3 q0_0 q0_1)), .second, .val (.long j95), .second, .val (.long j98), .second, .val (.long (own_F1 j95 j98)), .second, .val (.long (own_F3 j95 j98)), .second, .val (.ref b104), .val (.ref b119), .val (.int i142), .unset] [])) t
          refine XS.iload X143.here hx rfl (hb hby at_113) rfl ?_
          show Steps p.tables e below (T143.setTop (mkF m 115 #[.val (.long q0_0), .second, .val (.long q0_1), .second, .val (.long q0_2), .second, .val (.long q0_3), .second, .val (.int p0_4), .val (.long (own_F1 q0_0 q0_1)), .second, .val (.long (own_F3 q0_0 q0_1)), .second, .val (.long j95), .second, .val (.long j98), .second, .val (.long (own_F1 j95 j98)), .second, .val (.long (own_F3 j95 j98)), .second, .val (.ref b104), .val (.ref b119), .val (.int i142), .unset] [(.int p0_4)])) t
          refine XS.iconst X143.here hx rfl (hb hby at_115) ?_
          show Steps p.tables e below (T143.setTop (mkF m 116 #[.val (.long q0_0), .second, .val (.long q0_1), .second, .val (.long q0_2), .second, .val (.long q0_3), .second, .val (.int p0_4), .val (.long (own_F1 q0_0 q0_1)), .second, .val (.long (own_F3 q0_0 q0_1)), .second, .val (.long j95), .second, .val (.long j98), .second, .val (.long (own_F1 j95 j98)), .second, .val (.long (own_F3 j95 j98)), .second, .val (.ref b104), .val (.ref b119), .val (.int i142), .unset] [(.int (4 : Int32)), (.int p0_4)])) t
          refine XS.iand X143.here hx rfl (hb hby at_116) rfl ?_
          show Steps p.tables e below (T143.setTop (mkF m 117 #[.val (.long q0_0), .second, .val (.long q0_1), .second, .val (.long q0_2), .second, .val (.long q0_3), .second, .val (.int p0_4), .val (.long (own_F1 q0_0 q0_1)), .second, .val (.long (own_F3 q0_0 q0_1)), .second, .val (.long j95), .second, .val (.long j98), .second, .val (.long (own_F1 j95 j98)), .second, .val (.long (own_F3 j95 j98)), .second, .val (.ref b104), .val (.ref b119), .val (.int i142), .unset] [(.int (p0_4 &&& (4 : Int32)))])) t
          exact k
        by_cases hc144 : (p0_4 &&& (4 : Int32)) = (0 : Int32)
        · skip
          refine own_by (T' := T143) (g' := (mkF m 125 #[.val (.long q0_0), .second, .val (.long q0_1), .second, .val (.long q0_2), .second, .val (.long q0_3), .second, .val (.int p0_4), .val (.long (own_F1 q0_0 q0_1)), .second, .val (.long (own_F3 q0_0 q0_1)), .second, .val (.long j95), .second, .val (.long j98), .second, .val (.long (own_F1 j95 j98)), .second, .val (.long (own_F3 j95 j98)), .second, .val (.ref b104), .val (.ref b119), .val (.int i142), .unset] [(.long q0_0)])) (fun t k => ?_) ?_
          · show Steps p.tables e below (T143.setTop (mkF m 117 #[.val (.long q0_0), .second, .val (.long q0_1), .second, .val (.long q0_2), .second, .val (.long q0_3), .second, .val (.int p0_4), .val (.long (own_F1 q0_0 q0_1)), .second, .val (.long (own_F3 q0_0 q0_1)), .second, .val (.long j95), .second, .val (.long j98), .second, .val (.long (own_F1 j95 j98)), .second, .val (.long (own_F3 j95 j98)), .second, .val (.ref b104), .val (.ref b119), .val (.int i142), .unset] [(.int (p0_4 &&& (4 : Int32)))])) t
            refine XS.ifYes X143.here hx rfl (pc0 := 117) (pc' := 124) rfl (hb hby at_117) rfl ((if0 _ _).trans (teq hc144).1) (by decide) (by decide) ?_
            show Steps p.tables e below (T143.setTop (mkF m 124 #[.val (.long q0_0), .second, .val (.long q0_1), .second, .val (.long q0_2), .second, .val (.long q0_3), .second, .val (.int p0_4), .val (.long (own_F1 q0_0 q0_1)), .second, .val (.long (own_F3 q0_0 q0_1)), .second, .val (.long j95), .second, .val (.long j98), .second, .val (.long (own_F1 j95 j98)), .second, .val (.long (own_F3 j95 j98)), .second, .val (.ref b104), .val (.ref b119), .val (.int i142), .unset] [])) t
            refine XS.lloadN X143.here hx rfl (hb hby at_124) rfl ?_
            show Steps p.tables e below (T143.setTop (mkF m 125 #[.val (.long q0_0), .second, .val (.long q0_1), .second, .val (.long q0_2), .second, .val (.long q0_3), .second, .val (.int p0_4), .val (.long (own_F1 q0_0 q0_1)), .second, .val (.long (own_F3 q0_0 q0_1)), .second, .val (.long j95), .second, .val (.long j98), .second, .val (.long (own_F1 j95 j98)), .second, .val (.long (own_F3 j95 j98)), .second, .val (.ref b104), .val (.ref b119), .val (.int i142), .unset] [(.long q0_0)])) t
            exact k
          obtain ⟨v145, _, ⟨T145, L145, k145, n145⟩, -, X145, ⟨Lc145, hQ145, l145, y145, z145⟩, st145⟩ := Jvm.LawKit.callS X143 hx (y := (⟨"java/lang/Long", "valueOf", "(J)Ljava/lang/Long;"⟩ : MethodName)) hown (mvT hZ (hw _ (List.mem_of_getElem? (i := 27) rfl))) (mvT hZ (hw _ (List.mem_of_getElem? (i := 28) rfl))) (mvT hZ (hw _ (List.mem_of_getElem? (i := 29) rfl))) (mvT hZ (hw _ (List.mem_of_getElem? (i := 30) rfl))) (by decide) (backOf (W := 0) (own_rm7 l Z a0 hw [] q0_0 wLC cLC T128.heap n0 Z138 O137 SLC BLC) hZ (hw _ (List.mem_of_getElem? (i := 30) rfl)) (hw _ (List.mem_of_getElem? (i := 29) rfl)) (by decide) (by decide)) (g := (mkF m 125 #[.val (.long q0_0), .second, .val (.long q0_1), .second, .val (.long q0_2), .second, .val (.long q0_3), .second, .val (.int p0_4), .val (.long (own_F1 q0_0 q0_1)), .second, .val (.long (own_F3 q0_0 q0_1)), .second, .val (.long j95), .second, .val (.long j98), .second, .val (.long (own_F1 j95 j98)), .second, .val (.long (own_F3 j95 j98)), .second, .val (.ref b104), .val (.ref b119), .val (.int i142), .unset] [(.long q0_0)])) rfl (by rw [hml]; rfl) (argsL := [(.long q0_0)]) (rest := []) (lenOf pd__J_Ljava_lang_Long_ rfl) rfl (by show 2 * 0 + _ ≤ _; exact Nat.le_of_eq rfl) (hb hby at_125) (fun _ _ => ⟨rfl, e143, (by decide : 2 + 1 ≤ _), (by decide : 4 + 1 ≤ _)⟩)
          dsimp only [Pt.U, Pt.locs, Pt.cells, Pt.slots] at X145 l145 y145 z145 st145 hQ145
          subst l145 y145 z145
          obtain ⟨b145, rfl, M145, K145, f146⟩ := hQ145
          have f147 := f132.keep K145
          have f148 := f133.keep K145 nin0
          have f149 := f134.keep K145 nin0
          have f150 := f129.keep K145
          have f151 := f130.keep K145 nin0
          have f152 := f131.keep K145 nin0
          have K153 : Keep h0 T145.heap [] := K136.trans K145 all0
          have O154 := O137.keep K145 all0
          have Z155 := Nat.le_trans Z138 K145.1
          have N156 := Fr.app N143 M145
          refine own_by (T' := T145) (g' := (mkF m 128 #[.val (.long q0_0), .second, .val (.long q0_1), .second, .val (.long q0_2), .second, .val (.long q0_3), .second, .val (.int p0_4), .val (.long (own_F1 q0_0 q0_1)), .second, .val (.long (own_F3 q0_0 q0_1)), .second, .val (.long j95), .second, .val (.long j98), .second, .val (.long (own_F1 j95 j98)), .second, .val (.long (own_F3 j95 j98)), .second, .val (.ref b104), .val (.ref b119), .val (.int i142), .unset] [(.ref b145)])) st145 ?_
          refine own_by (T' := T145) (g' := (mkF m 134 #[.val (.long q0_0), .second, .val (.long q0_1), .second, .val (.long q0_2), .second, .val (.long q0_3), .second, .val (.int p0_4), .val (.long (own_F1 q0_0 q0_1)), .second, .val (.long (own_F3 q0_0 q0_1)), .second, .val (.long j95), .second, .val (.long j98), .second, .val (.long (own_F1 j95 j98)), .second, .val (.long (own_F3 j95 j98)), .second, .val (.ref b104), .val (.ref b119), .val (.int i142), .val (.ref b145)] [(.ref b119), (.ref b104)])) (fun t k => ?_) ?_
          · show Steps p.tables e below (T145.setTop (mkF m 128 #[.val (.long q0_0), .second, .val (.long q0_1), .second, .val (.long q0_2), .second, .val (.long q0_3), .second, .val (.int p0_4), .val (.long (own_F1 q0_0 q0_1)), .second, .val (.long (own_F3 q0_0 q0_1)), .second, .val (.long j95), .second, .val (.long j98), .second, .val (.long (own_F1 j95 j98)), .second, .val (.long (own_F3 j95 j98)), .second, .val (.ref b104), .val (.ref b119), .val (.int i142), .unset] [(.ref b145)])) t
            refine XS.astore X145.here hx rfl (hb hby at_128) rfl rfl (l' := #[.val (.long q0_0), .second, .val (.long q0_1), .second, .val (.long q0_2), .second, .val (.long q0_3), .second, .val (.int p0_4), .val (.long (own_F1 q0_0 q0_1)), .second, .val (.long (own_F3 q0_0 q0_1)), .second, .val (.long j95), .second, .val (.long j98), .second, .val (.long (own_F1 j95 j98)), .second, .val (.long (own_F3 j95 j98)), .second, .val (.ref b104), .val (.ref b119), .val (.int i142), .val (.ref b145)]) rfl ?_
            show Steps p.tables e below (T145.setTop (mkF m 130 #[.val (.long q0_0), .second, .val (.long q0_1), .second, .val (.long q0_2), .second, .val (.long q0_3), .second, .val (.int p0_4), .val (.long (own_F1 q0_0 q0_1)), .second, .val (.long (own_F3 q0_0 q0_1)), .second, .val (.long j95), .second, .val (.long j98), .second, .val (.long (own_F1 j95 j98)), .second, .val (.long (own_F3 j95 j98)), .second, .val (.ref b104), .val (.ref b119), .val (.int i142), .val (.ref b145)] [])) t
            refine XS.aload X145.here hx rfl (hb hby at_130) rfl rfl ?_
            show Steps p.tables e below (T145.setTop (mkF m 132 #[.val (.long q0_0), .second, .val (.long q0_1), .second, .val (.long q0_2), .second, .val (.long q0_3), .second, .val (.int p0_4), .val (.long (own_F1 q0_0 q0_1)), .second, .val (.long (own_F3 q0_0 q0_1)), .second, .val (.long j95), .second, .val (.long j98), .second, .val (.long (own_F1 j95 j98)), .second, .val (.long (own_F3 j95 j98)), .second, .val (.ref b104), .val (.ref b119), .val (.int i142), .val (.ref b145)] [(.ref b104)])) t
            refine XS.aload X145.here hx rfl (hb hby at_132) rfl rfl ?_
            show Steps p.tables e below (T145.setTop (mkF m 134 #[.val (.long q0_0), .second, .val (.long q0_1), .second, .val (.long q0_2), .second, .val (.long q0_3), .second, .val (.int p0_4), .val (.long (own_F1 q0_0 q0_1)), .second, .val (.long (own_F3 q0_0 q0_1)), .second, .val (.long j95), .second, .val (.long j98), .second, .val (.long (own_F1 j95 j98)), .second, .val (.long (own_F3 j95 j98)), .second, .val (.ref b104), .val (.ref b119), .val (.int i142), .val (.ref b145)] [(.ref b119), (.ref b104)])) t
            exact k
          obtain ⟨cq157, kq157, q157a, q157b, q157c⟩ := isOf hZ rfl f147
          obtain ⟨v157, _, ⟨T157, L157, k157, n157⟩, -, X157, ⟨Lc157, hQ157, l157, y157, z157⟩, st157⟩ := X145.virtualBack hx (y := (⟨"com/example/vasto/vasto/cluster/TokenRange", "equals", "(Ljava/lang/Object;)Z"⟩ : MethodName)) (z := (⟨"com/example/vasto/vasto/cluster/TokenRange", "equals", "(Ljava/lang/Object;)Z"⟩ : MethodName)) hown (mvT hZ (hw _ (List.mem_of_getElem? (i := 35) rfl))) (mvT hZ (hw _ (List.mem_of_getElem? (i := 36) rfl))) (notFace_of_selects (args := #[]) (mvT hZ (hw _ (List.mem_of_getElem? (i := 38) rfl)))) (mvT hZ (hw _ (List.mem_of_getElem? (i := 38) rfl))) (mvT hZ (hw _ (List.mem_of_getElem? (i := 37) rfl))) (by decide) (backOf (W := 0) (own_rm8t l Z a0 hw [] b104 b119 (own_F1 q0_0 q0_1) (own_F1 j95 j98) (own_F3 q0_0 q0_1) (own_F3 j95 j98) T145.heap n0 Z155 f150 f148 f151 f149 f152) hZ (hw _ (List.mem_of_getElem? (i := 39) rfl)) (hw _ (List.mem_of_getElem? (i := 16) rfl)) (by decide) (by decide)) q157a q157c (g := (mkF m 134 #[.val (.long q0_0), .second, .val (.long q0_1), .second, .val (.long q0_2), .second, .val (.long q0_3), .second, .val (.int p0_4), .val (.long (own_F1 q0_0 q0_1)), .second, .val (.long (own_F3 q0_0 q0_1)), .second, .val (.long j95), .second, .val (.long j98), .second, .val (.long (own_F1 j95 j98)), .second, .val (.long (own_F3 j95 j98)), .second, .val (.ref b104), .val (.ref b119), .val (.int i142), .val (.ref b145)] [(.ref b119), (.ref b104)])) rfl (by rw [hml]; rfl) (Steps.refl _) (argsL := [(.ref b119)]) (rest := []) (lenOf pd__Ljava_lang_Object__Z rfl) rfl (by show 2 * 0 + _ ≤ _; exact Nat.le_of_eq rfl) (hb hby at_134) (fun _ _ => ⟨rfl, rfl, (by decide : 3 + 0 ≤ _), (by decide : 5 + 0 ≤ _)⟩)
          dsimp only [Pt.U, Pt.locs, Pt.cells, Pt.slots] at X157 l157 y157 z157 st157 hQ157
          subst l157 y157 z157
          obtain ⟨rfl, M157, e157⟩ := hQ157
          have N158 := Fr.app N156 M157
          refine own_via (T' := T157) (g' := (mkF m 137 #[.val (.long q0_0), .second, .val (.long q0_1), .second, .val (.long q0_2), .second, .val (.long q0_3), .second, .val (.int p0_4), .val (.long (own_F1 q0_0 q0_1)), .second, .val (.long (own_F3 q0_0 q0_1)), .second, .val (.long j95), .second, .val (.long j98), .second, .val (.long (own_F1 j95 j98)), .second, .val (.long (own_F3 j95 j98)), .second, .val (.ref b104), .val (.ref b119), .val (.int i142), .val (.ref b145)] [(.int (own_F8t (own_F1 q0_0 q0_1) (own_F1 j95 j98) (own_F3 q0_0 q0_1) (own_F3 j95 j98)))])) st157 ?_
          refine own_by (T' := T157) (g' := (mkF m 139 #[.val (.long q0_0), .second, .val (.long q0_1), .second, .val (.long q0_2), .second, .val (.long q0_3), .second, .val (.int p0_4), .val (.long (own_F1 q0_0 q0_1)), .second, .val (.long (own_F3 q0_0 q0_1)), .second, .val (.long j95), .second, .val (.long j98), .second, .val (.long (own_F1 j95 j98)), .second, .val (.long (own_F3 j95 j98)), .second, .val (.ref b104), .val (.ref b119), .val (.int i142), .val (.ref b145)] [(.int i142), (.int (own_F8t (own_F1 q0_0 q0_1) (own_F1 j95 j98) (own_F3 q0_0 q0_1) (own_F3 j95 j98)))])) (fun t k => ?_) ?_
          · show Steps p.tables e below (T157.setTop (mkF m 137 #[.val (.long q0_0), .second, .val (.long q0_1), .second, .val (.long q0_2), .second, .val (.long q0_3), .second, .val (.int p0_4), .val (.long (own_F1 q0_0 q0_1)), .second, .val (.long (own_F3 q0_0 q0_1)), .second, .val (.long j95), .second, .val (.long j98), .second, .val (.long (own_F1 j95 j98)), .second, .val (.long (own_F3 j95 j98)), .second, .val (.ref b104), .val (.ref b119), .val (.int i142), .val (.ref b145)] [(.int (own_F8t (own_F1 q0_0 q0_1) (own_F1 j95 j98) (own_F3 q0_0 q0_1) (own_F3 j95 j98)))])) t
            refine XS.iload X157.here hx rfl (hb hby at_137) rfl ?_
            show Steps p.tables e below (T157.setTop (mkF m 139 #[.val (.long q0_0), .second, .val (.long q0_1), .second, .val (.long q0_2), .second, .val (.long q0_3), .second, .val (.int p0_4), .val (.long (own_F1 q0_0 q0_1)), .second, .val (.long (own_F3 q0_0 q0_1)), .second, .val (.long j95), .second, .val (.long j98), .second, .val (.long (own_F1 j95 j98)), .second, .val (.long (own_F3 j95 j98)), .second, .val (.ref b104), .val (.ref b119), .val (.int i142), .val (.ref b145)] [(.int i142), (.int (own_F8t (own_F1 q0_0 q0_1) (own_F1 j95 j98) (own_F3 q0_0 q0_1) (own_F3 j95 j98)))])) t
            exact k
          by_cases hc159 : (own_F8t (own_F1 q0_0 q0_1) (own_F1 j95 j98) (own_F3 q0_0 q0_1) (own_F3 j95 j98)) = i142
          · skip
            refine own_by (T' := T157) (g' := (mkF m 146 #[.val (.long q0_0), .second, .val (.long q0_1), .second, .val (.long q0_2), .second, .val (.long q0_3), .second, .val (.int p0_4), .val (.long (own_F1 q0_0 q0_1)), .second, .val (.long (own_F3 q0_0 q0_1)), .second, .val (.long j95), .second, .val (.long j98), .second, .val (.long (own_F1 j95 j98)), .second, .val (.long (own_F3 j95 j98)), .second, .val (.ref b104), .val (.ref b119), .val (.int i142), .val (.ref b145)] [(.ref b104), (.ref b119)])) (fun t k => ?_) ?_
            · show Steps p.tables e below (T157.setTop (mkF m 139 #[.val (.long q0_0), .second, .val (.long q0_1), .second, .val (.long q0_2), .second, .val (.long q0_3), .second, .val (.int p0_4), .val (.long (own_F1 q0_0 q0_1)), .second, .val (.long (own_F3 q0_0 q0_1)), .second, .val (.long j95), .second, .val (.long j98), .second, .val (.long (own_F1 j95 j98)), .second, .val (.long (own_F3 j95 j98)), .second, .val (.ref b104), .val (.ref b119), .val (.int i142), .val (.ref b145)] [(.int i142), (.int (own_F8t (own_F1 q0_0 q0_1) (own_F1 j95 j98) (own_F3 q0_0 q0_1) (own_F3 j95 j98)))])) t
              refine XS.icmpNo X157.here hx rfl (hb hby at_139) rfl (teq hc159).2 ?_
              show Steps p.tables e below (T157.setTop (mkF m 142 #[.val (.long q0_0), .second, .val (.long q0_1), .second, .val (.long q0_2), .second, .val (.long q0_3), .second, .val (.int p0_4), .val (.long (own_F1 q0_0 q0_1)), .second, .val (.long (own_F3 q0_0 q0_1)), .second, .val (.long j95), .second, .val (.long j98), .second, .val (.long (own_F1 j95 j98)), .second, .val (.long (own_F3 j95 j98)), .second, .val (.ref b104), .val (.ref b119), .val (.int i142), .val (.ref b145)] [])) t
              refine XS.aload X157.here hx rfl (hb hby at_142) rfl rfl ?_
              show Steps p.tables e below (T157.setTop (mkF m 144 #[.val (.long q0_0), .second, .val (.long q0_1), .second, .val (.long q0_2), .second, .val (.long q0_3), .second, .val (.int p0_4), .val (.long (own_F1 q0_0 q0_1)), .second, .val (.long (own_F3 q0_0 q0_1)), .second, .val (.long j95), .second, .val (.long j98), .second, .val (.long (own_F1 j95 j98)), .second, .val (.long (own_F3 j95 j98)), .second, .val (.ref b104), .val (.ref b119), .val (.int i142), .val (.ref b145)] [(.ref b119)])) t
              refine XS.aload X157.here hx rfl (hb hby at_144) rfl rfl ?_
              show Steps p.tables e below (T157.setTop (mkF m 146 #[.val (.long q0_0), .second, .val (.long q0_1), .second, .val (.long q0_2), .second, .val (.long q0_3), .second, .val (.int p0_4), .val (.long (own_F1 q0_0 q0_1)), .second, .val (.long (own_F3 q0_0 q0_1)), .second, .val (.long j95), .second, .val (.long j98), .second, .val (.long (own_F1 j95 j98)), .second, .val (.long (own_F3 j95 j98)), .second, .val (.ref b104), .val (.ref b119), .val (.int i142), .val (.ref b145)] [(.ref b104), (.ref b119)])) t
              exact k
            obtain ⟨cq169, kq169, q169a, q169b, q169c⟩ := isOf hZ e157 f150
            obtain ⟨v169, _, ⟨T169, L169, k169, n169⟩, -, X169, ⟨Lc169, hQ169, l169, y169, z169⟩, st169⟩ := X157.virtualBack hx (y := (⟨"com/example/vasto/vasto/cluster/TokenRange", "equals", "(Ljava/lang/Object;)Z"⟩ : MethodName)) (z := (⟨"com/example/vasto/vasto/cluster/TokenRange", "equals", "(Ljava/lang/Object;)Z"⟩ : MethodName)) hown (mvT hZ (hw _ (List.mem_of_getElem? (i := 35) rfl))) (mvT hZ (hw _ (List.mem_of_getElem? (i := 36) rfl))) (notFace_of_selects (args := #[]) (mvT hZ (hw _ (List.mem_of_getElem? (i := 38) rfl)))) (mvT hZ (hw _ (List.mem_of_getElem? (i := 38) rfl))) (mvT hZ (hw _ (List.mem_of_getElem? (i := 37) rfl))) (by decide) (backOf (W := 0) (own_rm8t l Z a0 hw [] b119 b104 (own_F1 j95 j98) (own_F1 q0_0 q0_1) (own_F3 j95 j98) (own_F3 q0_0 q0_1) T145.heap n0 Z155 f147 f151 f148 f152 f149) hZ (hw _ (List.mem_of_getElem? (i := 39) rfl)) (hw _ (List.mem_of_getElem? (i := 16) rfl)) (by decide) (by decide)) q169a q169c (g := (mkF m 146 #[.val (.long q0_0), .second, .val (.long q0_1), .second, .val (.long q0_2), .second, .val (.long q0_3), .second, .val (.int p0_4), .val (.long (own_F1 q0_0 q0_1)), .second, .val (.long (own_F3 q0_0 q0_1)), .second, .val (.long j95), .second, .val (.long j98), .second, .val (.long (own_F1 j95 j98)), .second, .val (.long (own_F3 j95 j98)), .second, .val (.ref b104), .val (.ref b119), .val (.int i142), .val (.ref b145)] [(.ref b104), (.ref b119)])) rfl (by rw [hml]; rfl) (Steps.refl _) (argsL := [(.ref b104)]) (rest := []) (lenOf pd__Ljava_lang_Object__Z rfl) rfl (by show 2 * 0 + _ ≤ _; exact Nat.le_of_eq rfl) (hb hby at_146) (fun _ _ => ⟨rfl, e157, (by decide : 3 + 0 ≤ _), (by decide : 5 + 0 ≤ _)⟩)
            dsimp only [Pt.U, Pt.locs, Pt.cells, Pt.slots] at X169 l169 y169 z169 st169 hQ169
            subst l169 y169 z169
            obtain ⟨rfl, M169, e169⟩ := hQ169
            have N170 := Fr.app N158 M169
            refine own_via (T' := T169) (g' := (mkF m 149 #[.val (.long q0_0), .second, .val (.long q0_1), .second, .val (.long q0_2), .second, .val (.long q0_3), .second, .val (.int p0_4), .val (.long (own_F1 q0_0 q0_1)), .second, .val (.long (own_F3 q0_0 q0_1)), .second, .val (.long j95), .second, .val (.long j98), .second, .val (.long (own_F1 j95 j98)), .second, .val (.long (own_F3 j95 j98)), .second, .val (.ref b104), .val (.ref b119), .val (.int i142), .val (.ref b145)] [(.int (own_F8t (own_F1 j95 j98) (own_F1 q0_0 q0_1) (own_F3 j95 j98) (own_F3 q0_0 q0_1)))])) st169 ?_
            refine own_by (T' := T169) (g' := (mkF m 151 #[.val (.long q0_0), .second, .val (.long q0_1), .second, .val (.long q0_2), .second, .val (.long q0_3), .second, .val (.int p0_4), .val (.long (own_F1 q0_0 q0_1)), .second, .val (.long (own_F3 q0_0 q0_1)), .second, .val (.long j95), .second, .val (.long j98), .second, .val (.long (own_F1 j95 j98)), .second, .val (.long (own_F3 j95 j98)), .second, .val (.ref b104), .val (.ref b119), .val (.int i142), .val (.ref b145)] [(.int i142), (.int (own_F8t (own_F1 j95 j98) (own_F1 q0_0 q0_1) (own_F3 j95 j98) (own_F3 q0_0 q0_1)))])) (fun t k => ?_) ?_
            · show Steps p.tables e below (T169.setTop (mkF m 149 #[.val (.long q0_0), .second, .val (.long q0_1), .second, .val (.long q0_2), .second, .val (.long q0_3), .second, .val (.int p0_4), .val (.long (own_F1 q0_0 q0_1)), .second, .val (.long (own_F3 q0_0 q0_1)), .second, .val (.long j95), .second, .val (.long j98), .second, .val (.long (own_F1 j95 j98)), .second, .val (.long (own_F3 j95 j98)), .second, .val (.ref b104), .val (.ref b119), .val (.int i142), .val (.ref b145)] [(.int (own_F8t (own_F1 j95 j98) (own_F1 q0_0 q0_1) (own_F3 j95 j98) (own_F3 q0_0 q0_1)))])) t
              refine XS.iload X169.here hx rfl (hb hby at_149) rfl ?_
              show Steps p.tables e below (T169.setTop (mkF m 151 #[.val (.long q0_0), .second, .val (.long q0_1), .second, .val (.long q0_2), .second, .val (.long q0_3), .second, .val (.int p0_4), .val (.long (own_F1 q0_0 q0_1)), .second, .val (.long (own_F3 q0_0 q0_1)), .second, .val (.long j95), .second, .val (.long j98), .second, .val (.long (own_F1 j95 j98)), .second, .val (.long (own_F3 j95 j98)), .second, .val (.ref b104), .val (.ref b119), .val (.int i142), .val (.ref b145)] [(.int i142), (.int (own_F8t (own_F1 j95 j98) (own_F1 q0_0 q0_1) (own_F3 j95 j98) (own_F3 q0_0 q0_1)))])) t
              exact k
            by_cases hc171 : (own_F8t (own_F1 j95 j98) (own_F1 q0_0 q0_1) (own_F3 j95 j98) (own_F3 q0_0 q0_1)) = i142
            · skip
              refine own_by (T' := T169) (g' := (mkF m 158 #[.val (.long q0_0), .second, .val (.long q0_1), .second, .val (.long q0_2), .second, .val (.long q0_3), .second, .val (.int p0_4), .val (.long (own_F1 q0_0 q0_1)), .second, .val (.long (own_F3 q0_0 q0_1)), .second, .val (.long j95), .second, .val (.long j98), .second, .val (.long (own_F1 j95 j98)), .second, .val (.long (own_F3 j95 j98)), .second, .val (.ref b104), .val (.ref b119), .val (.int i142), .val (.ref b145)] [(.ref b104), (.ref b104)])) (fun t k => ?_) ?_
              · show Steps p.tables e below (T169.setTop (mkF m 151 #[.val (.long q0_0), .second, .val (.long q0_1), .second, .val (.long q0_2), .second, .val (.long q0_3), .second, .val (.int p0_4), .val (.long (own_F1 q0_0 q0_1)), .second, .val (.long (own_F3 q0_0 q0_1)), .second, .val (.long j95), .second, .val (.long j98), .second, .val (.long (own_F1 j95 j98)), .second, .val (.long (own_F3 j95 j98)), .second, .val (.ref b104), .val (.ref b119), .val (.int i142), .val (.ref b145)] [(.int i142), (.int (own_F8t (own_F1 j95 j98) (own_F1 q0_0 q0_1) (own_F3 j95 j98) (own_F3 q0_0 q0_1)))])) t
                refine XS.icmpNo X169.here hx rfl (hb hby at_151) rfl (teq hc171).2 ?_
                show Steps p.tables e below (T169.setTop (mkF m 154 #[.val (.long q0_0), .second, .val (.long q0_1), .second, .val (.long q0_2), .second, .val (.long q0_3), .second, .val (.int p0_4), .val (.long (own_F1 q0_0 q0_1)), .second, .val (.long (own_F3 q0_0 q0_1)), .second, .val (.long j95), .second, .val (.long j98), .second, .val (.long (own_F1 j95 j98)), .second, .val (.long (own_F3 j95 j98)), .second, .val (.ref b104), .val (.ref b119), .val (.int i142), .val (.ref b145)] [])) t
                refine XS.aload X169.here hx rfl (hb hby at_154) rfl rfl ?_
                show Steps p.tables e below (T169.setTop (mkF m 156 #[.val (.long q0_0), .second, .val (.long q0_1), .second, .val (.long q0_2), .second, .val (.long q0_3), .second, .val (.int p0_4), .val (.long (own_F1 q0_0 q0_1)), .second, .val (.long (own_F3 q0_0 q0_1)), .second, .val (.long j95), .second, .val (.long j98), .second, .val (.long (own_F1 j95 j98)), .second, .val (.long (own_F3 j95 j98)), .second, .val (.ref b104), .val (.ref b119), .val (.int i142), .val (.ref b145)] [(.ref b104)])) t
                refine XS.aload X169.here hx rfl (hb hby at_156) rfl rfl ?_
                show Steps p.tables e below (T169.setTop (mkF m 158 #[.val (.long q0_0), .second, .val (.long q0_1), .second, .val (.long q0_2), .second, .val (.long q0_3), .second, .val (.int p0_4), .val (.long (own_F1 q0_0 q0_1)), .second, .val (.long (own_F3 q0_0 q0_1)), .second, .val (.long j95), .second, .val (.long j98), .second, .val (.long (own_F1 j95 j98)), .second, .val (.long (own_F3 j95 j98)), .second, .val (.ref b104), .val (.ref b119), .val (.int i142), .val (.ref b145)] [(.ref b104), (.ref b104)])) t
                exact k
              obtain ⟨cq178, kq178, q178a, q178b, q178c⟩ := isOf hZ e169 f147
              obtain ⟨v178, _, ⟨T178, L178, k178, n178⟩, -, X178, ⟨Lc178, hQ178, l178, y178, z178⟩, st178⟩ := X169.virtualBack hx (y := (⟨"com/example/vasto/vasto/cluster/TokenRange", "equals", "(Ljava/lang/Object;)Z"⟩ : MethodName)) (z := (⟨"com/example/vasto/vasto/cluster/TokenRange", "equals", "(Ljava/lang/Object;)Z"⟩ : MethodName)) hown (mvT hZ (hw _ (List.mem_of_getElem? (i := 35) rfl))) (mvT hZ (hw _ (List.mem_of_getElem? (i := 36) rfl))) (notFace_of_selects (args := #[]) (mvT hZ (hw _ (List.mem_of_getElem? (i := 38) rfl)))) (mvT hZ (hw _ (List.mem_of_getElem? (i := 38) rfl))) (mvT hZ (hw _ (List.mem_of_getElem? (i := 37) rfl))) (by decide) (backOf (W := 0) (own_rm8s l Z a0 hw [] b104 (own_F1 q0_0 q0_1) (own_F3 q0_0 q0_1) T145.heap n0 Z155 f147 f148 f149) hZ (hw _ (List.mem_of_getElem? (i := 39) rfl)) (hw _ (List.mem_of_getElem? (i := 16) rfl)) (by decide) (by decide)) q178a q178c (g := (mkF m 158 #[.val (.long q0_0), .second, .val (.long q0_1), .second, .val (.long q0_2), .second, .val (.long q0_3), .second, .val (.int p0_4), .val (.long (own_F1 q0_0 q0_1)), .second, .val (.long (own_F3 q0_0 q0_1)), .second, .val (.long j95), .second, .val (.long j98), .second, .val (.long (own_F1 j95 j98)), .second, .val (.long (own_F3 j95 j98)), .second, .val (.ref b104), .val (.ref b119), .val (.int i142), .val (.ref b145)] [(.ref b104), (.ref b104)])) rfl (by rw [hml]; rfl) (Steps.refl _) (argsL := [(.ref b104)]) (rest := []) (lenOf pd__Ljava_lang_Object__Z rfl) rfl (by show 2 * 0 + _ ≤ _; exact Nat.le_of_eq rfl) (hb hby at_158) (fun _ _ => ⟨rfl, e169, (by decide : 3 + 0 ≤ _), (by decide : 5 + 0 ≤ _)⟩)
              dsimp only [Pt.U, Pt.locs, Pt.cells, Pt.slots] at X178 l178 y178 z178 st178 hQ178
              subst l178 y178 z178
              obtain ⟨rfl, M178, e178⟩ := hQ178
              have N179 := Fr.app N170 M178
              refine own_via (T' := T178) (g' := (mkF m 161 #[.val (.long q0_0), .second, .val (.long q0_1), .second, .val (.long q0_2), .second, .val (.long q0_3), .second, .val (.int p0_4), .val (.long (own_F1 q0_0 q0_1)), .second, .val (.long (own_F3 q0_0 q0_1)), .second, .val (.long j95), .second, .val (.long j98), .second, .val (.long (own_F1 j95 j98)), .second, .val (.long (own_F3 j95 j98)), .second, .val (.ref b104), .val (.ref b119), .val (.int i142), .val (.ref b145)] [(.int (own_F8s (own_F1 q0_0 q0_1) (own_F3 q0_0 q0_1)))])) st178 ?_
              by_cases hc180 : (own_F8s (own_F1 q0_0 q0_1) (own_F3 q0_0 q0_1)) = (0 : Int32)
              · skip
                refine own_by (T' := T178) (g' := (mkF m 179 #[.val (.long q0_0), .second, .val (.long q0_1), .second, .val (.long q0_2), .second, .val (.long q0_3), .second, .val (.int p0_4), .val (.long (own_F1 q0_0 q0_1)), .second, .val (.long (own_F3 q0_0 q0_1)), .second, .val (.long j95), .second, .val (.long j98), .second, .val (.long (own_F1 j95 j98)), .second, .val (.long (own_F3 j95 j98)), .second, .val (.ref b104), .val (.ref b119), .val (.int i142), .val (.ref b145)] [(.int (0 : Int32))])) (fun t k => ?_) ?_
                · show Steps p.tables e below (T178.setTop (mkF m 161 #[.val (.long q0_0), .second, .val (.long q0_1), .second, .val (.long q0_2), .second, .val (.long q0_3), .second, .val (.int p0_4), .val (.long (own_F1 q0_0 q0_1)), .second, .val (.long (own_F3 q0_0 q0_1)), .second, .val (.long j95), .second, .val (.long j98), .second, .val (.long (own_F1 j95 j98)), .second, .val (.long (own_F3 j95 j98)), .second, .val (.ref b104), .val (.ref b119), .val (.int i142), .val (.ref b145)] [(.int (own_F8s (own_F1 q0_0 q0_1) (own_F3 q0_0 q0_1)))])) t
                  refine XS.ifYes X178.here hx rfl (pc0 := 161) (pc' := 178) rfl (hb hby at_161) rfl ((if0 _ _).trans (teq hc180).1) (by decide) (by decide) ?_
                  show Steps p.tables e below (T178.setTop (mkF m 178 #[.val (.long q0_0), .second, .val (.long q0_1), .second, .val (.long q0_2), .second, .val (.long q0_3), .second, .val (.int p0_4), .val (.long (own_F1 q0_0 q0_1)), .second, .val (.long (own_F3 q0_0 q0_1)), .second, .val (.long j95), .second, .val (.long j98), .second, .val (.long (own_F1 j95 j98)), .second, .val (.long (own_F3 j95 j98)), .second, .val (.ref b104), .val (.ref b119), .val (.int i142), .val (.ref b145)] [])) t
                  refine XS.iconst X178.here hx rfl (hb hby at_178) ?_
                  show Steps p.tables e below (T178.setTop (mkF m 179 #[.val (.long q0_0), .second, .val (.long q0_1), .second, .val (.long q0_2), .second, .val (.long q0_3), .second, .val (.int p0_4), .val (.long (own_F1 q0_0 q0_1)), .second, .val (.long (own_F3 q0_0 q0_1)), .second, .val (.long j95), .second, .val (.long j98), .second, .val (.long (own_F1 j95 j98)), .second, .val (.long (own_F3 j95 j98)), .second, .val (.ref b104), .val (.ref b119), .val (.int i142), .val (.ref b145)] [(.int (0 : Int32))])) t
                  exact k
                rw [show own_F0_111_3 q0_0 q0_1 q0_2 q0_3 p0_4 j95 j98 i142 = (0 : Int32) from ((if_pos hc144).trans ((if_pos hc159).trans ((if_pos hc171).trans ((if_pos hc180).trans rfl))))]
                exact own_retN X178 hx (t := .boolean) Bd.returns (by simp) (hb hby at_179) hlk (by decide) (by decide) ⟨rfl, N179⟩
              · skip
                refine own_by (T' := T178) (g' := (mkF m 168 #[.val (.long q0_0), .second, .val (.long q0_1), .second, .val (.long q0_2), .second, .val (.long q0_3), .second, .val (.int p0_4), .val (.long (own_F1 q0_0 q0_1)), .second, .val (.long (own_F3 q0_0 q0_1)), .second, .val (.long j95), .second, .val (.long j98), .second, .val (.long (own_F1 j95 j98)), .second, .val (.long (own_F3 j95 j98)), .second, .val (.ref b104), .val (.ref b119), .val (.int i142), .val (.ref b145)] [(.ref b145), (.ref b104)])) (fun t k => ?_) ?_
                · show Steps p.tables e below (T178.setTop (mkF m 161 #[.val (.long q0_0), .second, .val (.long q0_1), .second, .val (.long q0_2), .second, .val (.long q0_3), .second, .val (.int p0_4), .val (.long (own_F1 q0_0 q0_1)), .second, .val (.long (own_F3 q0_0 q0_1)), .second, .val (.long j95), .second, .val (.long j98), .second, .val (.long (own_F1 j95 j98)), .second, .val (.long (own_F3 j95 j98)), .second, .val (.ref b104), .val (.ref b119), .val (.int i142), .val (.ref b145)] [(.int (own_F8s (own_F1 q0_0 q0_1) (own_F3 q0_0 q0_1)))])) t
                  refine XS.ifNo X178.here hx rfl (hb hby at_161) rfl ((if0 _ _).trans (feq hc180).1) ?_
                  show Steps p.tables e below (T178.setTop (mkF m 164 #[.val (.long q0_0), .second, .val (.long q0_1), .second, .val (.long q0_2), .second, .val (.long q0_3), .second, .val (.int p0_4), .val (.long (own_F1 q0_0 q0_1)), .second, .val (.long (own_F3 q0_0 q0_1)), .second, .val (.long j95), .second, .val (.long j98), .second, .val (.long (own_F1 j95 j98)), .second, .val (.long (own_F3 j95 j98)), .second, .val (.ref b104), .val (.ref b119), .val (.int i142), .val (.ref b145)] [])) t
                  refine XS.aload X178.here hx rfl (hb hby at_164) rfl rfl ?_
                  show Steps p.tables e below (T178.setTop (mkF m 166 #[.val (.long q0_0), .second, .val (.long q0_1), .second, .val (.long q0_2), .second, .val (.long q0_3), .second, .val (.int p0_4), .val (.long (own_F1 q0_0 q0_1)), .second, .val (.long (own_F3 q0_0 q0_1)), .second, .val (.long j95), .second, .val (.long j98), .second, .val (.long (own_F1 j95 j98)), .second, .val (.long (own_F3 j95 j98)), .second, .val (.ref b104), .val (.ref b119), .val (.int i142), .val (.ref b145)] [(.ref b104)])) t
                  refine XS.aload X178.here hx rfl (hb hby at_166) rfl rfl ?_
                  show Steps p.tables e below (T178.setTop (mkF m 168 #[.val (.long q0_0), .second, .val (.long q0_1), .second, .val (.long q0_2), .second, .val (.long q0_3), .second, .val (.int p0_4), .val (.long (own_F1 q0_0 q0_1)), .second, .val (.long (own_F3 q0_0 q0_1)), .second, .val (.long j95), .second, .val (.long j98), .second, .val (.long (own_F1 j95 j98)), .second, .val (.long (own_F3 j95 j98)), .second, .val (.ref b104), .val (.ref b119), .val (.int i142), .val (.ref b145)] [(.ref b145), (.ref b104)])) t
                  exact k
                obtain ⟨cq184, kq184, q184a, q184b, q184c⟩ := isOf hZ e178 f147
                obtain ⟨v184, _, ⟨T184, L184, k184, n184⟩, -, X184, ⟨Lc184, hQ184, l184, y184, z184⟩, st184⟩ := X178.virtualBack hx (y := (⟨"com/example/vasto/vasto/cluster/TokenRange", "equals", "(Ljava/lang/Object;)Z"⟩ : MethodName)) (z := (⟨"com/example/vasto/vasto/cluster/TokenRange", "equals", "(Ljava/lang/Object;)Z"⟩ : MethodName)) hown (mvT hZ (hw _ (List.mem_of_getElem? (i := 35) rfl))) (mvT hZ (hw _ (List.mem_of_getElem? (i := 36) rfl))) (notFace_of_selects (args := #[]) (mvT hZ (hw _ (List.mem_of_getElem? (i := 38) rfl)))) (mvT hZ (hw _ (List.mem_of_getElem? (i := 38) rfl))) (mvT hZ (hw _ (List.mem_of_getElem? (i := 37) rfl))) (by decide) (backOf (W := 0) (own_rm8l l Z a0 hw [] b104 b145 T145.heap n0 Z155 f146) hZ (hw _ (List.mem_of_getElem? (i := 39) rfl)) (hw _ (List.mem_of_getElem? (i := 16) rfl)) (by decide) (by decide)) q184a q184c (g := (mkF m 168 #[.val (.long q0_0), .second, .val (.long q0_1), .second, .val (.long q0_2), .second, .val (.long q0_3), .second, .val (.int p0_4), .val (.long (own_F1 q0_0 q0_1)), .second, .val (.long (own_F3 q0_0 q0_1)), .second, .val (.long j95), .second, .val (.long j98), .second, .val (.long (own_F1 j95 j98)), .second, .val (.long (own_F3 j95 j98)), .second, .val (.ref b104), .val (.ref b119), .val (.int i142), .val (.ref b145)] [(.ref b145), (.ref b104)])) rfl (by rw [hml]; rfl) (Steps.refl _) (argsL := [(.ref b145)]) (rest := []) (lenOf pd__Ljava_lang_Object__Z rfl) rfl (by show 2 * 0 + _ ≤ _; exact Nat.le_of_eq rfl) (hb hby at_168) (fun _ _ => ⟨rfl, e178, (by decide : 3 + 0 ≤ _), (by decide : 5 + 0 ≤ _)⟩)
                dsimp only [Pt.U, Pt.locs, Pt.cells, Pt.slots] at X184 l184 y184 z184 st184 hQ184
                subst l184 y184 z184
                obtain ⟨rfl, M184, e184⟩ := hQ184
                have N185 := Fr.app N179 M184
                refine own_via (T' := T184) (g' := (mkF m 171 #[.val (.long q0_0), .second, .val (.long q0_1), .second, .val (.long q0_2), .second, .val (.long q0_3), .second, .val (.int p0_4), .val (.long (own_F1 q0_0 q0_1)), .second, .val (.long (own_F3 q0_0 q0_1)), .second, .val (.long j95), .second, .val (.long j98), .second, .val (.long (own_F1 j95 j98)), .second, .val (.long (own_F3 j95 j98)), .second, .val (.ref b104), .val (.ref b119), .val (.int i142), .val (.ref b145)] [(.int (own_F8l))])) st184 ?_
                by_cases hc186 : (own_F8l) = (0 : Int32)
                · skip
                  refine own_by (T' := T184) (g' := (mkF m 179 #[.val (.long q0_0), .second, .val (.long q0_1), .second, .val (.long q0_2), .second, .val (.long q0_3), .second, .val (.int p0_4), .val (.long (own_F1 q0_0 q0_1)), .second, .val (.long (own_F3 q0_0 q0_1)), .second, .val (.long j95), .second, .val (.long j98), .second, .val (.long (own_F1 j95 j98)), .second, .val (.long (own_F3 j95 j98)), .second, .val (.ref b104), .val (.ref b119), .val (.int i142), .val (.ref b145)] [(.int (1 : Int32))])) (fun t k => ?_) ?_
                  · show Steps p.tables e below (T184.setTop (mkF m 171 #[.val (.long q0_0), .second, .val (.long q0_1), .second, .val (.long q0_2), .second, .val (.long q0_3), .second, .val (.int p0_4), .val (.long (own_F1 q0_0 q0_1)), .second, .val (.long (own_F3 q0_0 q0_1)), .second, .val (.long j95), .second, .val (.long j98), .second, .val (.long (own_F1 j95 j98)), .second, .val (.long (own_F3 j95 j98)), .second, .val (.ref b104), .val (.ref b119), .val (.int i142), .val (.ref b145)] [(.int (own_F8l))])) t
                    refine XS.ifNo X184.here hx rfl (hb hby at_171) rfl ((if0 _ _).trans (teq hc186).2) ?_
                    show Steps p.tables e below (T184.setTop (mkF m 174 #[.val (.long q0_0), .second, .val (.long q0_1), .second, .val (.long q0_2), .second, .val (.long q0_3), .second, .val (.int p0_4), .val (.long (own_F1 q0_0 q0_1)), .second, .val (.long (own_F3 q0_0 q0_1)), .second, .val (.long j95), .second, .val (.long j98), .second, .val (.long (own_F1 j95 j98)), .second, .val (.long (own_F3 j95 j98)), .second, .val (.ref b104), .val (.ref b119), .val (.int i142), .val (.ref b145)] [])) t
                    refine XS.iconst X184.here hx rfl (hb hby at_174) ?_
                    show Steps p.tables e below (T184.setTop (mkF m 175 #[.val (.long q0_0), .second, .val (.long q0_1), .second, .val (.long q0_2), .second, .val (.long q0_3), .second, .val (.int p0_4), .val (.long (own_F1 q0_0 q0_1)), .second, .val (.long (own_F3 q0_0 q0_1)), .second, .val (.long j95), .second, .val (.long j98), .second, .val (.long (own_F1 j95 j98)), .second, .val (.long (own_F3 j95 j98)), .second, .val (.ref b104), .val (.ref b119), .val (.int i142), .val (.ref b145)] [(.int (1 : Int32))])) t
                    refine XS.goto X184.here hx rfl (pc0 := 175) (pc' := 179) rfl (hb hby at_175) (by decide) (by decide) ?_
                    show Steps p.tables e below (T184.setTop (mkF m 179 #[.val (.long q0_0), .second, .val (.long q0_1), .second, .val (.long q0_2), .second, .val (.long q0_3), .second, .val (.int p0_4), .val (.long (own_F1 q0_0 q0_1)), .second, .val (.long (own_F3 q0_0 q0_1)), .second, .val (.long j95), .second, .val (.long j98), .second, .val (.long (own_F1 j95 j98)), .second, .val (.long (own_F3 j95 j98)), .second, .val (.ref b104), .val (.ref b119), .val (.int i142), .val (.ref b145)] [(.int (1 : Int32))])) t
                    exact k
                  rw [show own_F0_111_3 q0_0 q0_1 q0_2 q0_3 p0_4 j95 j98 i142 = (1 : Int32) from ((if_pos hc144).trans ((if_pos hc159).trans ((if_pos hc171).trans ((if_neg hc180).trans ((if_pos hc186).trans rfl)))))]
                  exact own_retN X184 hx (t := .boolean) Bd.returns (by simp) (hb hby at_179) hlk (by decide) (by decide) ⟨rfl, N185⟩
                · skip
                  refine own_by (T' := T184) (g' := (mkF m 179 #[.val (.long q0_0), .second, .val (.long q0_1), .second, .val (.long q0_2), .second, .val (.long q0_3), .second, .val (.int p0_4), .val (.long (own_F1 q0_0 q0_1)), .second, .val (.long (own_F3 q0_0 q0_1)), .second, .val (.long j95), .second, .val (.long j98), .second, .val (.long (own_F1 j95 j98)), .second, .val (.long (own_F3 j95 j98)), .second, .val (.ref b104), .val (.ref b119), .val (.int i142), .val (.ref b145)] [(.int (0 : Int32))])) (fun t k => ?_) ?_
                  · show Steps p.tables e below (T184.setTop (mkF m 171 #[.val (.long q0_0), .second, .val (.long q0_1), .second, .val (.long q0_2), .second, .val (.long q0_3), .second, .val (.int p0_4), .val (.long (own_F1 q0_0 q0_1)), .second, .val (.long (own_F3 q0_0 q0_1)), .second, .val (.long j95), .second, .val (.long j98), .second, .val (.long (own_F1 j95 j98)), .second, .val (.long (own_F3 j95 j98)), .second, .val (.ref b104), .val (.ref b119), .val (.int i142), .val (.ref b145)] [(.int (own_F8l))])) t
                    refine XS.ifYes X184.here hx rfl (pc0 := 171) (pc' := 178) rfl (hb hby at_171) rfl ((if0 _ _).trans (feq hc186).2) (by decide) (by decide) ?_
                    show Steps p.tables e below (T184.setTop (mkF m 178 #[.val (.long q0_0), .second, .val (.long q0_1), .second, .val (.long q0_2), .second, .val (.long q0_3), .second, .val (.int p0_4), .val (.long (own_F1 q0_0 q0_1)), .second, .val (.long (own_F3 q0_0 q0_1)), .second, .val (.long j95), .second, .val (.long j98), .second, .val (.long (own_F1 j95 j98)), .second, .val (.long (own_F3 j95 j98)), .second, .val (.ref b104), .val (.ref b119), .val (.int i142), .val (.ref b145)] [])) t
                    refine XS.iconst X184.here hx rfl (hb hby at_178) ?_
                    show Steps p.tables e below (T184.setTop (mkF m 179 #[.val (.long q0_0), .second, .val (.long q0_1), .second, .val (.long q0_2), .second, .val (.long q0_3), .second, .val (.int p0_4), .val (.long (own_F1 q0_0 q0_1)), .second, .val (.long (own_F3 q0_0 q0_1)), .second, .val (.long j95), .second, .val (.long j98), .second, .val (.long (own_F1 j95 j98)), .second, .val (.long (own_F3 j95 j98)), .second, .val (.ref b104), .val (.ref b119), .val (.int i142), .val (.ref b145)] [(.int (0 : Int32))])) t
                    exact k
                  rw [show own_F0_111_3 q0_0 q0_1 q0_2 q0_3 p0_4 j95 j98 i142 = (0 : Int32) from ((if_pos hc144).trans ((if_pos hc159).trans ((if_pos hc171).trans ((if_neg hc180).trans ((if_neg hc186).trans rfl)))))]
                  exact own_retN X184 hx (t := .boolean) Bd.returns (by simp) (hb hby at_179) hlk (by decide) (by decide) ⟨rfl, N185⟩
            · skip
              refine own_by (T' := T169) (g' := (mkF m 179 #[.val (.long q0_0), .second, .val (.long q0_1), .second, .val (.long q0_2), .second, .val (.long q0_3), .second, .val (.int p0_4), .val (.long (own_F1 q0_0 q0_1)), .second, .val (.long (own_F3 q0_0 q0_1)), .second, .val (.long j95), .second, .val (.long j98), .second, .val (.long (own_F1 j95 j98)), .second, .val (.long (own_F3 j95 j98)), .second, .val (.ref b104), .val (.ref b119), .val (.int i142), .val (.ref b145)] [(.int (0 : Int32))])) (fun t k => ?_) ?_
              · show Steps p.tables e below (T169.setTop (mkF m 151 #[.val (.long q0_0), .second, .val (.long q0_1), .second, .val (.long q0_2), .second, .val (.long q0_3), .second, .val (.int p0_4), .val (.long (own_F1 q0_0 q0_1)), .second, .val (.long (own_F3 q0_0 q0_1)), .second, .val (.long j95), .second, .val (.long j98), .second, .val (.long (own_F1 j95 j98)), .second, .val (.long (own_F3 j95 j98)), .second, .val (.ref b104), .val (.ref b119), .val (.int i142), .val (.ref b145)] [(.int i142), (.int (own_F8t (own_F1 j95 j98) (own_F1 q0_0 q0_1) (own_F3 j95 j98) (own_F3 q0_0 q0_1)))])) t
                refine XS.icmpYes X169.here hx rfl (pc0 := 151) (pc' := 178) rfl (hb hby at_151) rfl (feq hc171).2 (by decide) (by decide) ?_
                show Steps p.tables e below (T169.setTop (mkF m 178 #[.val (.long q0_0), .second, .val (.long q0_1), .second, .val (.long q0_2), .second, .val (.long q0_3), .second, .val (.int p0_4), .val (.long (own_F1 q0_0 q0_1)), .second, .val (.long (own_F3 q0_0 q0_1)), .second, .val (.long j95), .second, .val (.long j98), .second, .val (.long (own_F1 j95 j98)), .second, .val (.long (own_F3 j95 j98)), .second, .val (.ref b104), .val (.ref b119), .val (.int i142), .val (.ref b145)] [])) t
                refine XS.iconst X169.here hx rfl (hb hby at_178) ?_
                show Steps p.tables e below (T169.setTop (mkF m 179 #[.val (.long q0_0), .second, .val (.long q0_1), .second, .val (.long q0_2), .second, .val (.long q0_3), .second, .val (.int p0_4), .val (.long (own_F1 q0_0 q0_1)), .second, .val (.long (own_F3 q0_0 q0_1)), .second, .val (.long j95), .second, .val (.long j98), .second, .val (.long (own_F1 j95 j98)), .second, .val (.long (own_F3 j95 j98)), .second, .val (.ref b104), .val (.ref b119), .val (.int i142), .val (.ref b145)] [(.int (0 : Int32))])) t
                exact k
              rw [show own_F0_111_3 q0_0 q0_1 q0_2 q0_3 p0_4 j95 j98 i142 = (0 : Int32) from ((if_pos hc144).trans ((if_pos hc159).trans ((if_neg hc171).trans rfl)))]
              exact own_retN X169 hx (t := .boolean) Bd.returns (by simp) (hb hby at_179) hlk (by decide) (by decide) ⟨rfl, N170⟩
          · skip
            refine own_by (T' := T157) (g' := (mkF m 179 #[.val (.long q0_0), .second, .val (.long q0_1), .second, .val (.long q0_2), .second, .val (.long q0_3), .second, .val (.int p0_4), .val (.long (own_F1 q0_0 q0_1)), .second, .val (.long (own_F3 q0_0 q0_1)), .second, .val (.long j95), .second, .val (.long j98), .second, .val (.long (own_F1 j95 j98)), .second, .val (.long (own_F3 j95 j98)), .second, .val (.ref b104), .val (.ref b119), .val (.int i142), .val (.ref b145)] [(.int (0 : Int32))])) (fun t k => ?_) ?_
            · show Steps p.tables e below (T157.setTop (mkF m 139 #[.val (.long q0_0), .second, .val (.long q0_1), .second, .val (.long q0_2), .second, .val (.long q0_3), .second, .val (.int p0_4), .val (.long (own_F1 q0_0 q0_1)), .second, .val (.long (own_F3 q0_0 q0_1)), .second, .val (.long j95), .second, .val (.long j98), .second, .val (.long (own_F1 j95 j98)), .second, .val (.long (own_F3 j95 j98)), .second, .val (.ref b104), .val (.ref b119), .val (.int i142), .val (.ref b145)] [(.int i142), (.int (own_F8t (own_F1 q0_0 q0_1) (own_F1 j95 j98) (own_F3 q0_0 q0_1) (own_F3 j95 j98)))])) t
              refine XS.icmpYes X157.here hx rfl (pc0 := 139) (pc' := 178) rfl (hb hby at_139) rfl (feq hc159).2 (by decide) (by decide) ?_
              show Steps p.tables e below (T157.setTop (mkF m 178 #[.val (.long q0_0), .second, .val (.long q0_1), .second, .val (.long q0_2), .second, .val (.long q0_3), .second, .val (.int p0_4), .val (.long (own_F1 q0_0 q0_1)), .second, .val (.long (own_F3 q0_0 q0_1)), .second, .val (.long j95), .second, .val (.long j98), .second, .val (.long (own_F1 j95 j98)), .second, .val (.long (own_F3 j95 j98)), .second, .val (.ref b104), .val (.ref b119), .val (.int i142), .val (.ref b145)] [])) t
              refine XS.iconst X157.here hx rfl (hb hby at_178) ?_
              show Steps p.tables e below (T157.setTop (mkF m 179 #[.val (.long q0_0), .second, .val (.long q0_1), .second, .val (.long q0_2), .second, .val (.long q0_3), .second, .val (.int p0_4), .val (.long (own_F1 q0_0 q0_1)), .second, .val (.long (own_F3 q0_0 q0_1)), .second, .val (.long j95), .second, .val (.long j98), .second, .val (.long (own_F1 j95 j98)), .second, .val (.long (own_F3 j95 j98)), .second, .val (.ref b104), .val (.ref b119), .val (.int i142), .val (.ref b145)] [(.int (0 : Int32))])) t
              exact k
            rw [show own_F0_111_3 q0_0 q0_1 q0_2 q0_3 p0_4 j95 j98 i142 = (0 : Int32) from ((if_pos hc144).trans ((if_neg hc159).trans rfl))]
            exact own_retN X157 hx (t := .boolean) Bd.returns (by simp) (hb hby at_179) hlk (by decide) (by decide) ⟨rfl, N158⟩
        · skip
          refine own_by (T' := T143) (g' := (mkF m 134 #[.val (.long q0_0), .second, .val (.long q0_1), .second, .val (.long q0_2), .second, .val (.long q0_3), .second, .val (.int p0_4), .val (.long (own_F1 q0_0 q0_1)), .second, .val (.long (own_F3 q0_0 q0_1)), .second, .val (.long j95), .second, .val (.long j98), .second, .val (.long (own_F1 j95 j98)), .second, .val (.long (own_F3 j95 j98)), .second, .val (.ref b104), .val (.ref b119), .val (.int i142), .val .null] [(.ref b119), (.ref b104)])) (fun t k => ?_) ?_
          · show Steps p.tables e below (T143.setTop (mkF m 117 #[.val (.long q0_0), .second, .val (.long q0_1), .second, .val (.long q0_2), .second, .val (.long q0_3), .second, .val (.int p0_4), .val (.long (own_F1 q0_0 q0_1)), .second, .val (.long (own_F3 q0_0 q0_1)), .second, .val (.long j95), .second, .val (.long j98), .second, .val (.long (own_F1 j95 j98)), .second, .val (.long (own_F3 j95 j98)), .second, .val (.ref b104), .val (.ref b119), .val (.int i142), .unset] [(.int (p0_4 &&& (4 : Int32)))])) t
            refine XS.ifNo X143.here hx rfl (hb hby at_117) rfl ((if0 _ _).trans (feq hc144).1) ?_
            show Steps p.tables e below (T143.setTop (mkF m 120 #[.val (.long q0_0), .second, .val (.long q0_1), .second, .val (.long q0_2), .second, .val (.long q0_3), .second, .val (.int p0_4), .val (.long (own_F1 q0_0 q0_1)), .second, .val (.long (own_F3 q0_0 q0_1)), .second, .val (.long j95), .second, .val (.long j98), .second, .val (.long (own_F1 j95 j98)), .second, .val (.long (own_F3 j95 j98)), .second, .val (.ref b104), .val (.ref b119), .val (.int i142), .unset] [])) t
            refine XS.aconstNull X143.here hx rfl (hb hby at_120) ?_
            show Steps p.tables e below (T143.setTop (mkF m 121 #[.val (.long q0_0), .second, .val (.long q0_1), .second, .val (.long q0_2), .second, .val (.long q0_3), .second, .val (.int p0_4), .val (.long (own_F1 q0_0 q0_1)), .second, .val (.long (own_F3 q0_0 q0_1)), .second, .val (.long j95), .second, .val (.long j98), .second, .val (.long (own_F1 j95 j98)), .second, .val (.long (own_F3 j95 j98)), .second, .val (.ref b104), .val (.ref b119), .val (.int i142), .unset] [.null])) t
            refine XS.goto X143.here hx rfl (pc0 := 121) (pc' := 128) rfl (hb hby at_121) (by decide) (by decide) ?_
            show Steps p.tables e below (T143.setTop (mkF m 128 #[.val (.long q0_0), .second, .val (.long q0_1), .second, .val (.long q0_2), .second, .val (.long q0_3), .second, .val (.int p0_4), .val (.long (own_F1 q0_0 q0_1)), .second, .val (.long (own_F3 q0_0 q0_1)), .second, .val (.long j95), .second, .val (.long j98), .second, .val (.long (own_F1 j95 j98)), .second, .val (.long (own_F3 j95 j98)), .second, .val (.ref b104), .val (.ref b119), .val (.int i142), .unset] [.null])) t
            refine XS.astore X143.here hx rfl (hb hby at_128) rfl rfl (l' := #[.val (.long q0_0), .second, .val (.long q0_1), .second, .val (.long q0_2), .second, .val (.long q0_3), .second, .val (.int p0_4), .val (.long (own_F1 q0_0 q0_1)), .second, .val (.long (own_F3 q0_0 q0_1)), .second, .val (.long j95), .second, .val (.long j98), .second, .val (.long (own_F1 j95 j98)), .second, .val (.long (own_F3 j95 j98)), .second, .val (.ref b104), .val (.ref b119), .val (.int i142), .val .null]) rfl ?_
            show Steps p.tables e below (T143.setTop (mkF m 130 #[.val (.long q0_0), .second, .val (.long q0_1), .second, .val (.long q0_2), .second, .val (.long q0_3), .second, .val (.int p0_4), .val (.long (own_F1 q0_0 q0_1)), .second, .val (.long (own_F3 q0_0 q0_1)), .second, .val (.long j95), .second, .val (.long j98), .second, .val (.long (own_F1 j95 j98)), .second, .val (.long (own_F3 j95 j98)), .second, .val (.ref b104), .val (.ref b119), .val (.int i142), .val .null] [])) t
            refine XS.aload X143.here hx rfl (hb hby at_130) rfl rfl ?_
            show Steps p.tables e below (T143.setTop (mkF m 132 #[.val (.long q0_0), .second, .val (.long q0_1), .second, .val (.long q0_2), .second, .val (.long q0_3), .second, .val (.int p0_4), .val (.long (own_F1 q0_0 q0_1)), .second, .val (.long (own_F3 q0_0 q0_1)), .second, .val (.long j95), .second, .val (.long j98), .second, .val (.long (own_F1 j95 j98)), .second, .val (.long (own_F3 j95 j98)), .second, .val (.ref b104), .val (.ref b119), .val (.int i142), .val .null] [(.ref b104)])) t
            refine XS.aload X143.here hx rfl (hb hby at_132) rfl rfl ?_
            show Steps p.tables e below (T143.setTop (mkF m 134 #[.val (.long q0_0), .second, .val (.long q0_1), .second, .val (.long q0_2), .second, .val (.long q0_3), .second, .val (.int p0_4), .val (.long (own_F1 q0_0 q0_1)), .second, .val (.long (own_F3 q0_0 q0_1)), .second, .val (.long j95), .second, .val (.long j98), .second, .val (.long (own_F1 j95 j98)), .second, .val (.long (own_F3 j95 j98)), .second, .val (.ref b104), .val (.ref b119), .val (.int i142), .val .null] [(.ref b119), (.ref b104)])) t
            exact k
          obtain ⟨cq187, kq187, q187a, q187b, q187c⟩ := isOf hZ e143 f132
          obtain ⟨v187, _, ⟨T187, L187, k187, n187⟩, -, X187, ⟨Lc187, hQ187, l187, y187, z187⟩, st187⟩ := X143.virtualBack hx (y := (⟨"com/example/vasto/vasto/cluster/TokenRange", "equals", "(Ljava/lang/Object;)Z"⟩ : MethodName)) (z := (⟨"com/example/vasto/vasto/cluster/TokenRange", "equals", "(Ljava/lang/Object;)Z"⟩ : MethodName)) hown (mvT hZ (hw _ (List.mem_of_getElem? (i := 35) rfl))) (mvT hZ (hw _ (List.mem_of_getElem? (i := 36) rfl))) (notFace_of_selects (args := #[]) (mvT hZ (hw _ (List.mem_of_getElem? (i := 38) rfl)))) (mvT hZ (hw _ (List.mem_of_getElem? (i := 38) rfl))) (mvT hZ (hw _ (List.mem_of_getElem? (i := 37) rfl))) (by decide) (backOf (W := 0) (own_rm8t l Z a0 hw [] b104 b119 (own_F1 q0_0 q0_1) (own_F1 j95 j98) (own_F3 q0_0 q0_1) (own_F3 j95 j98) T128.heap n0 Z138 f129 f133 f130 f134 f131) hZ (hw _ (List.mem_of_getElem? (i := 39) rfl)) (hw _ (List.mem_of_getElem? (i := 16) rfl)) (by decide) (by decide)) q187a q187c (g := (mkF m 134 #[.val (.long q0_0), .second, .val (.long q0_1), .second, .val (.long q0_2), .second, .val (.long q0_3), .second, .val (.int p0_4), .val (.long (own_F1 q0_0 q0_1)), .second, .val (.long (own_F3 q0_0 q0_1)), .second, .val (.long j95), .second, .val (.long j98), .second, .val (.long (own_F1 j95 j98)), .second, .val (.long (own_F3 j95 j98)), .second, .val (.ref b104), .val (.ref b119), .val (.int i142), .val .null] [(.ref b119), (.ref b104)])) rfl (by rw [hml]; rfl) (Steps.refl _) (argsL := [(.ref b119)]) (rest := []) (lenOf pd__Ljava_lang_Object__Z rfl) rfl (by show 2 * 0 + _ ≤ _; exact Nat.le_of_eq rfl) (hb hby at_134) (fun _ _ => ⟨rfl, e143, (by decide : 2 + 0 ≤ _), (by decide : 4 + 0 ≤ _)⟩)
          dsimp only [Pt.U, Pt.locs, Pt.cells, Pt.slots] at X187 l187 y187 z187 st187 hQ187
          subst l187 y187 z187
          obtain ⟨rfl, M187, e187⟩ := hQ187
          have N188 := Fr.app N143 M187
          refine own_via (T' := T187) (g' := (mkF m 137 #[.val (.long q0_0), .second, .val (.long q0_1), .second, .val (.long q0_2), .second, .val (.long q0_3), .second, .val (.int p0_4), .val (.long (own_F1 q0_0 q0_1)), .second, .val (.long (own_F3 q0_0 q0_1)), .second, .val (.long j95), .second, .val (.long j98), .second, .val (.long (own_F1 j95 j98)), .second, .val (.long (own_F3 j95 j98)), .second, .val (.ref b104), .val (.ref b119), .val (.int i142), .val .null] [(.int (own_F8t (own_F1 q0_0 q0_1) (own_F1 j95 j98) (own_F3 q0_0 q0_1) (own_F3 j95 j98)))])) st187 ?_
          refine own_by (T' := T187) (g' := (mkF m 139 #[.val (.long q0_0), .second, .val (.long q0_1), .second, .val (.long q0_2), .second, .val (.long q0_3), .second, .val (.int p0_4), .val (.long (own_F1 q0_0 q0_1)), .second, .val (.long (own_F3 q0_0 q0_1)), .second, .val (.long j95), .second, .val (.long j98), .second, .val (.long (own_F1 j95 j98)), .second, .val (.long (own_F3 j95 j98)), .second, .val (.ref b104), .val (.ref b119), .val (.int i142), .val .null] [(.int i142), (.int (own_F8t (own_F1 q0_0 q0_1) (own_F1 j95 j98) (own_F3 q0_0 q0_1) (own_F3 j95 j98)))])) (fun t k => ?_) ?_
          · show Steps p.tables e below (T187.setTop (mkF m 137 #[.val (.long q0_0), .second, .val (.long q0_1), .second, .val (.long q0_2), .second, .val (.long q0_3), .second, .val (.int p0_4), .val (.long (own_F1 q0_0 q0_1)), .second, .val (.long (own_F3 q0_0 q0_1)), .second, .val (.long j95), .second, .val (.long j98), .second, .val (.long (own_F1 j95 j98)), .second, .val (.long (own_F3 j95 j98)), .second, .val (.ref b104), .val (.ref b119), .val (.int i142), .val .null] [(.int (own_F8t (own_F1 q0_0 q0_1) (own_F1 j95 j98) (own_F3 q0_0 q0_1) (own_F3 j95 j98)))])) t
            refine XS.iload X187.here hx rfl (hb hby at_137) rfl ?_
            show Steps p.tables e below (T187.setTop (mkF m 139 #[.val (.long q0_0), .second, .val (.long q0_1), .second, .val (.long q0_2), .second, .val (.long q0_3), .second, .val (.int p0_4), .val (.long (own_F1 q0_0 q0_1)), .second, .val (.long (own_F3 q0_0 q0_1)), .second, .val (.long j95), .second, .val (.long j98), .second, .val (.long (own_F1 j95 j98)), .second, .val (.long (own_F3 j95 j98)), .second, .val (.ref b104), .val (.ref b119), .val (.int i142), .val .null] [(.int i142), (.int (own_F8t (own_F1 q0_0 q0_1) (own_F1 j95 j98) (own_F3 q0_0 q0_1) (own_F3 j95 j98)))])) t
            exact k
          by_cases hc189 : (own_F8t (own_F1 q0_0 q0_1) (own_F1 j95 j98) (own_F3 q0_0 q0_1) (own_F3 j95 j98)) = i142
          · skip
            refine own_by (T' := T187) (g' := (mkF m 146 #[.val (.long q0_0), .second, .val (.long q0_1), .second, .val (.long q0_2), .second, .val (.long q0_3), .second, .val (.int p0_4), .val (.long (own_F1 q0_0 q0_1)), .second, .val (.long (own_F3 q0_0 q0_1)), .second, .val (.long j95), .second, .val (.long j98), .second, .val (.long (own_F1 j95 j98)), .second, .val (.long (own_F3 j95 j98)), .second, .val (.ref b104), .val (.ref b119), .val (.int i142), .val .null] [(.ref b104), (.ref b119)])) (fun t k => ?_) ?_
            · show Steps p.tables e below (T187.setTop (mkF m 139 #[.val (.long q0_0), .second, .val (.long q0_1), .second, .val (.long q0_2), .second, .val (.long q0_3), .second, .val (.int p0_4), .val (.long (own_F1 q0_0 q0_1)), .second, .val (.long (own_F3 q0_0 q0_1)), .second, .val (.long j95), .second, .val (.long j98), .second, .val (.long (own_F1 j95 j98)), .second, .val (.long (own_F3 j95 j98)), .second, .val (.ref b104), .val (.ref b119), .val (.int i142), .val .null] [(.int i142), (.int (own_F8t (own_F1 q0_0 q0_1) (own_F1 j95 j98) (own_F3 q0_0 q0_1) (own_F3 j95 j98)))])) t
              refine XS.icmpNo X187.here hx rfl (hb hby at_139) rfl (teq hc189).2 ?_
              show Steps p.tables e below (T187.setTop (mkF m 142 #[.val (.long q0_0), .second, .val (.long q0_1), .second, .val (.long q0_2), .second, .val (.long q0_3), .second, .val (.int p0_4), .val (.long (own_F1 q0_0 q0_1)), .second, .val (.long (own_F3 q0_0 q0_1)), .second, .val (.long j95), .second, .val (.long j98), .second, .val (.long (own_F1 j95 j98)), .second, .val (.long (own_F3 j95 j98)), .second, .val (.ref b104), .val (.ref b119), .val (.int i142), .val .null] [])) t
              refine XS.aload X187.here hx rfl (hb hby at_142) rfl rfl ?_
              show Steps p.tables e below (T187.setTop (mkF m 144 #[.val (.long q0_0), .second, .val (.long q0_1), .second, .val (.long q0_2), .second, .val (.long q0_3), .second, .val (.int p0_4), .val (.long (own_F1 q0_0 q0_1)), .second, .val (.long (own_F3 q0_0 q0_1)), .second, .val (.long j95), .second, .val (.long j98), .second, .val (.long (own_F1 j95 j98)), .second, .val (.long (own_F3 j95 j98)), .second, .val (.ref b104), .val (.ref b119), .val (.int i142), .val .null] [(.ref b119)])) t
              refine XS.aload X187.here hx rfl (hb hby at_144) rfl rfl ?_
              show Steps p.tables e below (T187.setTop (mkF m 146 #[.val (.long q0_0), .second, .val (.long q0_1), .second, .val (.long q0_2), .second, .val (.long q0_3), .second, .val (.int p0_4), .val (.long (own_F1 q0_0 q0_1)), .second, .val (.long (own_F3 q0_0 q0_1)), .second, .val (.long j95), .second, .val (.long j98), .second, .val (.long (own_F1 j95 j98)), .second, .val (.long (own_F3 j95 j98)), .second, .val (.ref b104), .val (.ref b119), .val (.int i142), .val .null] [(.ref b104), (.ref b119)])) t
              exact k
            obtain ⟨cq199, kq199, q199a, q199b, q199c⟩ := isOf hZ e187 f129
            obtain ⟨v199, _, ⟨T199, L199, k199, n199⟩, -, X199, ⟨Lc199, hQ199, l199, y199, z199⟩, st199⟩ := X187.virtualBack hx (y := (⟨"com/example/vasto/vasto/cluster/TokenRange", "equals", "(Ljava/lang/Object;)Z"⟩ : MethodName)) (z := (⟨"com/example/vasto/vasto/cluster/TokenRange", "equals", "(Ljava/lang/Object;)Z"⟩ : MethodName)) hown (mvT hZ (hw _ (List.mem_of_getElem? (i := 35) rfl))) (mvT hZ (hw _ (List.mem_of_getElem? (i := 36) rfl))) (notFace_of_selects (args := #[]) (mvT hZ (hw _ (List.mem_of_getElem? (i := 38) rfl)))) (mvT hZ (hw _ (List.mem_of_getElem? (i := 38) rfl))) (mvT hZ (hw _ (List.mem_of_getElem? (i := 37) rfl))) (by decide) (backOf (W := 0) (own_rm8t l Z a0 hw [] b119 b104 (own_F1 j95 j98) (own_F1 q0_0 q0_1) (own_F3 j95 j98) (own_F3 q0_0 q0_1) T128.heap n0 Z138 f132 f130 f133 f131 f134) hZ (hw _ (List.mem_of_getElem? (i := 39) rfl)) (hw _ (List.mem_of_getElem? (i := 16) rfl)) (by decide) (by decide)) q199a q199c (g := (mkF m 146 #[.val (.long q0_0), .second, .val (.long q0_1), .second, .val (.long q0_2), .second, .val (.long q0_3), .second, .val (.int p0_4), .val (.long (own_F1 q0_0 q0_1)), .second, .val (.long (own_F3 q0_0 q0_1)), .second, .val (.long j95), .second, .val (.long j98), .second, .val (.long (own_F1 j95 j98)), .second, .val (.long (own_F3 j95 j98)), .second, .val (.ref b104), .val (.ref b119), .val (.int i142), .val .null] [(.ref b104), (.ref b119)])) rfl (by rw [hml]; rfl) (Steps.refl _) (argsL := [(.ref b104)]) (rest := []) (lenOf pd__Ljava_lang_Object__Z rfl) rfl (by show 2 * 0 + _ ≤ _; exact Nat.le_of_eq rfl) (hb hby at_146) (fun _ _ => ⟨rfl, e187, (by decide : 2 + 0 ≤ _), (by decide : 4 + 0 ≤ _)⟩)
            dsimp only [Pt.U, Pt.locs, Pt.cells, Pt.slots] at X199 l199 y199 z199 st199 hQ199
            subst l199 y199 z199
            obtain ⟨rfl, M199, e199⟩ := hQ199
            have N200 := Fr.app N188 M199
            refine own_via (T' := T199) (g' := (mkF m 149 #[.val (.long q0_0), .second, .val (.long q0_1), .second, .val (.long q0_2), .second, .val (.long q0_3), .second, .val (.int p0_4), .val (.long (own_F1 q0_0 q0_1)), .second, .val (.long (own_F3 q0_0 q0_1)), .second, .val (.long j95), .second, .val (.long j98), .second, .val (.long (own_F1 j95 j98)), .second, .val (.long (own_F3 j95 j98)), .second, .val (.ref b104), .val (.ref b119), .val (.int i142), .val .null] [(.int (own_F8t (own_F1 j95 j98) (own_F1 q0_0 q0_1) (own_F3 j95 j98) (own_F3 q0_0 q0_1)))])) st199 ?_
            refine own_by (T' := T199) (g' := (mkF m 151 #[.val (.long q0_0), .second, .val (.long q0_1), .second, .val (.long q0_2), .second, .val (.long q0_3), .second, .val (.int p0_4), .val (.long (own_F1 q0_0 q0_1)), .second, .val (.long (own_F3 q0_0 q0_1)), .second, .val (.long j95), .second, .val (.long j98), .second, .val (.long (own_F1 j95 j98)), .second, .val (.long (own_F3 j95 j98)), .second, .val (.ref b104), .val (.ref b119), .val (.int i142), .val .null] [(.int i142), (.int (own_F8t (own_F1 j95 j98) (own_F1 q0_0 q0_1) (own_F3 j95 j98) (own_F3 q0_0 q0_1)))])) (fun t k => ?_) ?_
            · show Steps p.tables e below (T199.setTop (mkF m 149 #[.val (.long q0_0), .second, .val (.long q0_1), .second, .val (.long q0_2), .second, .val (.long q0_3), .second, .val (.int p0_4), .val (.long (own_F1 q0_0 q0_1)), .second, .val (.long (own_F3 q0_0 q0_1)), .second, .val (.long j95), .second, .val (.long j98), .second, .val (.long (own_F1 j95 j98)), .second, .val (.long (own_F3 j95 j98)), .second, .val (.ref b104), .val (.ref b119), .val (.int i142), .val .null] [(.int (own_F8t (own_F1 j95 j98) (own_F1 q0_0 q0_1) (own_F3 j95 j98) (own_F3 q0_0 q0_1)))])) t
              refine XS.iload X199.here hx rfl (hb hby at_149) rfl ?_
              show Steps p.tables e below (T199.setTop (mkF m 151 #[.val (.long q0_0), .second, .val (.long q0_1), .second, .val (.long q0_2), .second, .val (.long q0_3), .second, .val (.int p0_4), .val (.long (own_F1 q0_0 q0_1)), .second, .val (.long (own_F3 q0_0 q0_1)), .second, .val (.long j95), .second, .val (.long j98), .second, .val (.long (own_F1 j95 j98)), .second, .val (.long (own_F3 j95 j98)), .second, .val (.ref b104), .val (.ref b119), .val (.int i142), .val .null] [(.int i142), (.int (own_F8t (own_F1 j95 j98) (own_F1 q0_0 q0_1) (own_F3 j95 j98) (own_F3 q0_0 q0_1)))])) t
              exact k
            by_cases hc201 : (own_F8t (own_F1 j95 j98) (own_F1 q0_0 q0_1) (own_F3 j95 j98) (own_F3 q0_0 q0_1)) = i142
            · skip
              refine own_by (T' := T199) (g' := (mkF m 158 #[.val (.long q0_0), .second, .val (.long q0_1), .second, .val (.long q0_2), .second, .val (.long q0_3), .second, .val (.int p0_4), .val (.long (own_F1 q0_0 q0_1)), .second, .val (.long (own_F3 q0_0 q0_1)), .second, .val (.long j95), .second, .val (.long j98), .second, .val (.long (own_F1 j95 j98)), .second, .val (.long (own_F3 j95 j98)), .second, .val (.ref b104), .val (.ref b119), .val (.int i142), .val .null] [(.ref b104), (.ref b104)])) (fun t k => ?_) ?_
              · show Steps p.tables e below (T199.setTop (mkF m 151 #[.val (.long q0_0), .second, .val (.long q0_1), .second, .val (.long q0_2), .second, .val (.long q0_3), .second, .val (.int p0_4), .val (.long (own_F1 q0_0 q0_1)), .second, .val (.long (own_F3 q0_0 q0_1)), .second, .val (.long j95), .second, .val (.long j98), .second, .val (.long (own_F1 j95 j98)), .second, .val (.long (own_F3 j95 j98)), .second, .val (.ref b104), .val (.ref b119), .val (.int i142), .val .null] [(.int i142), (.int (own_F8t (own_F1 j95 j98) (own_F1 q0_0 q0_1) (own_F3 j95 j98) (own_F3 q0_0 q0_1)))])) t
                refine XS.icmpNo X199.here hx rfl (hb hby at_151) rfl (teq hc201).2 ?_
                show Steps p.tables e below (T199.setTop (mkF m 154 #[.val (.long q0_0), .second, .val (.long q0_1), .second, .val (.long q0_2), .second, .val (.long q0_3), .second, .val (.int p0_4), .val (.long (own_F1 q0_0 q0_1)), .second, .val (.long (own_F3 q0_0 q0_1)), .second, .val (.long j95), .second, .val (.long j98), .second, .val (.long (own_F1 j95 j98)), .second, .val (.long (own_F3 j95 j98)), .second, .val (.ref b104), .val (.ref b119), .val (.int i142), .val .null] [])) t
                refine XS.aload X199.here hx rfl (hb hby at_154) rfl rfl ?_
                show Steps p.tables e below (T199.setTop (mkF m 156 #[.val (.long q0_0), .second, .val (.long q0_1), .second, .val (.long q0_2), .second, .val (.long q0_3), .second, .val (.int p0_4), .val (.long (own_F1 q0_0 q0_1)), .second, .val (.long (own_F3 q0_0 q0_1)), .second, .val (.long j95), .second, .val (.long j98), .second, .val (.long (own_F1 j95 j98)), .second, .val (.long (own_F3 j95 j98)), .second, .val (.ref b104), .val (.ref b119), .val (.int i142), .val .null] [(.ref b104)])) t
                refine XS.aload X199.here hx rfl (hb hby at_156) rfl rfl ?_
                show Steps p.tables e below (T199.setTop (mkF m 158 #[.val (.long q0_0), .second, .val (.long q0_1), .second, .val (.long q0_2), .second, .val (.long q0_3), .second, .val (.int p0_4), .val (.long (own_F1 q0_0 q0_1)), .second, .val (.long (own_F3 q0_0 q0_1)), .second, .val (.long j95), .second, .val (.long j98), .second, .val (.long (own_F1 j95 j98)), .second, .val (.long (own_F3 j95 j98)), .second, .val (.ref b104), .val (.ref b119), .val (.int i142), .val .null] [(.ref b104), (.ref b104)])) t
                exact k
              obtain ⟨cq208, kq208, q208a, q208b, q208c⟩ := isOf hZ e199 f132
              obtain ⟨v208, _, ⟨T208, L208, k208, n208⟩, -, X208, ⟨Lc208, hQ208, l208, y208, z208⟩, st208⟩ := X199.virtualBack hx (y := (⟨"com/example/vasto/vasto/cluster/TokenRange", "equals", "(Ljava/lang/Object;)Z"⟩ : MethodName)) (z := (⟨"com/example/vasto/vasto/cluster/TokenRange", "equals", "(Ljava/lang/Object;)Z"⟩ : MethodName)) hown (mvT hZ (hw _ (List.mem_of_getElem? (i := 35) rfl))) (mvT hZ (hw _ (List.mem_of_getElem? (i := 36) rfl))) (notFace_of_selects (args := #[]) (mvT hZ (hw _ (List.mem_of_getElem? (i := 38) rfl)))) (mvT hZ (hw _ (List.mem_of_getElem? (i := 38) rfl))) (mvT hZ (hw _ (List.mem_of_getElem? (i := 37) rfl))) (by decide) (backOf (W := 0) (own_rm8s l Z a0 hw [] b104 (own_F1 q0_0 q0_1) (own_F3 q0_0 q0_1) T128.heap n0 Z138 f132 f133 f134) hZ (hw _ (List.mem_of_getElem? (i := 39) rfl)) (hw _ (List.mem_of_getElem? (i := 16) rfl)) (by decide) (by decide)) q208a q208c (g := (mkF m 158 #[.val (.long q0_0), .second, .val (.long q0_1), .second, .val (.long q0_2), .second, .val (.long q0_3), .second, .val (.int p0_4), .val (.long (own_F1 q0_0 q0_1)), .second, .val (.long (own_F3 q0_0 q0_1)), .second, .val (.long j95), .second, .val (.long j98), .second, .val (.long (own_F1 j95 j98)), .second, .val (.long (own_F3 j95 j98)), .second, .val (.ref b104), .val (.ref b119), .val (.int i142), .val .null] [(.ref b104), (.ref b104)])) rfl (by rw [hml]; rfl) (Steps.refl _) (argsL := [(.ref b104)]) (rest := []) (lenOf pd__Ljava_lang_Object__Z rfl) rfl (by show 2 * 0 + _ ≤ _; exact Nat.le_of_eq rfl) (hb hby at_158) (fun _ _ => ⟨rfl, e199, (by decide : 2 + 0 ≤ _), (by decide : 4 + 0 ≤ _)⟩)
              dsimp only [Pt.U, Pt.locs, Pt.cells, Pt.slots] at X208 l208 y208 z208 st208 hQ208
              subst l208 y208 z208
              obtain ⟨rfl, M208, e208⟩ := hQ208
              have N209 := Fr.app N200 M208
              refine own_via (T' := T208) (g' := (mkF m 161 #[.val (.long q0_0), .second, .val (.long q0_1), .second, .val (.long q0_2), .second, .val (.long q0_3), .second, .val (.int p0_4), .val (.long (own_F1 q0_0 q0_1)), .second, .val (.long (own_F3 q0_0 q0_1)), .second, .val (.long j95), .second, .val (.long j98), .second, .val (.long (own_F1 j95 j98)), .second, .val (.long (own_F3 j95 j98)), .second, .val (.ref b104), .val (.ref b119), .val (.int i142), .val .null] [(.int (own_F8s (own_F1 q0_0 q0_1) (own_F3 q0_0 q0_1)))])) st208 ?_
              by_cases hc210 : (own_F8s (own_F1 q0_0 q0_1) (own_F3 q0_0 q0_1)) = (0 : Int32)
              · skip
                refine own_by (T' := T208) (g' := (mkF m 179 #[.val (.long q0_0), .second, .val (.long q0_1), .second, .val (.long q0_2), .second, .val (.long q0_3), .second, .val (.int p0_4), .val (.long (own_F1 q0_0 q0_1)), .second, .val (.long (own_F3 q0_0 q0_1)), .second, .val (.long j95), .second, .val (.long j98), .second, .val (.long (own_F1 j95 j98)), .second, .val (.long (own_F3 j95 j98)), .second, .val (.ref b104), .val (.ref b119), .val (.int i142), .val .null] [(.int (0 : Int32))])) (fun t k => ?_) ?_
                · show Steps p.tables e below (T208.setTop (mkF m 161 #[.val (.long q0_0), .second, .val (.long q0_1), .second, .val (.long q0_2), .second, .val (.long q0_3), .second, .val (.int p0_4), .val (.long (own_F1 q0_0 q0_1)), .second, .val (.long (own_F3 q0_0 q0_1)), .second, .val (.long j95), .second, .val (.long j98), .second, .val (.long (own_F1 j95 j98)), .second, .val (.long (own_F3 j95 j98)), .second, .val (.ref b104), .val (.ref b119), .val (.int i142), .val .null] [(.int (own_F8s (own_F1 q0_0 q0_1) (own_F3 q0_0 q0_1)))])) t
                  refine XS.ifYes X208.here hx rfl (pc0 := 161) (pc' := 178) rfl (hb hby at_161) rfl ((if0 _ _).trans (teq hc210).1) (by decide) (by decide) ?_
                  show Steps p.tables e below (T208.setTop (mkF m 178 #[.val (.long q0_0), .second, .val (.long q0_1), .second, .val (.long q0_2), .second, .val (.long q0_3), .second, .val (.int p0_4), .val (.long (own_F1 q0_0 q0_1)), .second, .val (.long (own_F3 q0_0 q0_1)), .second, .val (.long j95), .second, .val (.long j98), .second, .val (.long (own_F1 j95 j98)), .second, .val (.long (own_F3 j95 j98)), .second, .val (.ref b104), .val (.ref b119), .val (.int i142), .val .null] [])) t
                  refine XS.iconst X208.here hx rfl (hb hby at_178) ?_
                  show Steps p.tables e below (T208.setTop (mkF m 179 #[.val (.long q0_0), .second, .val (.long q0_1), .second, .val (.long q0_2), .second, .val (.long q0_3), .second, .val (.int p0_4), .val (.long (own_F1 q0_0 q0_1)), .second, .val (.long (own_F3 q0_0 q0_1)), .second, .val (.long j95), .second, .val (.long j98), .second, .val (.long (own_F1 j95 j98)), .second, .val (.long (own_F3 j95 j98)), .second, .val (.ref b104), .val (.ref b119), .val (.int i142), .val .null] [(.int (0 : Int32))])) t
                  exact k
                rw [show own_F0_111_3 q0_0 q0_1 q0_2 q0_3 p0_4 j95 j98 i142 = (0 : Int32) from ((if_neg hc144).trans ((if_pos hc189).trans ((if_pos hc201).trans ((if_pos hc210).trans rfl))))]
                exact own_retN X208 hx (t := .boolean) Bd.returns (by simp) (hb hby at_179) hlk (by decide) (by decide) ⟨rfl, N209⟩
              · skip
                refine own_by (T' := T208) (g' := (mkF m 168 #[.val (.long q0_0), .second, .val (.long q0_1), .second, .val (.long q0_2), .second, .val (.long q0_3), .second, .val (.int p0_4), .val (.long (own_F1 q0_0 q0_1)), .second, .val (.long (own_F3 q0_0 q0_1)), .second, .val (.long j95), .second, .val (.long j98), .second, .val (.long (own_F1 j95 j98)), .second, .val (.long (own_F3 j95 j98)), .second, .val (.ref b104), .val (.ref b119), .val (.int i142), .val .null] [.null, (.ref b104)])) (fun t k => ?_) ?_
                · show Steps p.tables e below (T208.setTop (mkF m 161 #[.val (.long q0_0), .second, .val (.long q0_1), .second, .val (.long q0_2), .second, .val (.long q0_3), .second, .val (.int p0_4), .val (.long (own_F1 q0_0 q0_1)), .second, .val (.long (own_F3 q0_0 q0_1)), .second, .val (.long j95), .second, .val (.long j98), .second, .val (.long (own_F1 j95 j98)), .second, .val (.long (own_F3 j95 j98)), .second, .val (.ref b104), .val (.ref b119), .val (.int i142), .val .null] [(.int (own_F8s (own_F1 q0_0 q0_1) (own_F3 q0_0 q0_1)))])) t
                  refine XS.ifNo X208.here hx rfl (hb hby at_161) rfl ((if0 _ _).trans (feq hc210).1) ?_
                  show Steps p.tables e below (T208.setTop (mkF m 164 #[.val (.long q0_0), .second, .val (.long q0_1), .second, .val (.long q0_2), .second, .val (.long q0_3), .second, .val (.int p0_4), .val (.long (own_F1 q0_0 q0_1)), .second, .val (.long (own_F3 q0_0 q0_1)), .second, .val (.long j95), .second, .val (.long j98), .second, .val (.long (own_F1 j95 j98)), .second, .val (.long (own_F3 j95 j98)), .second, .val (.ref b104), .val (.ref b119), .val (.int i142), .val .null] [])) t
                  refine XS.aload X208.here hx rfl (hb hby at_164) rfl rfl ?_
                  show Steps p.tables e below (T208.setTop (mkF m 166 #[.val (.long q0_0), .second, .val (.long q0_1), .second, .val (.long q0_2), .second, .val (.long q0_3), .second, .val (.int p0_4), .val (.long (own_F1 q0_0 q0_1)), .second, .val (.long (own_F3 q0_0 q0_1)), .second, .val (.long j95), .second, .val (.long j98), .second, .val (.long (own_F1 j95 j98)), .second, .val (.long (own_F3 j95 j98)), .second, .val (.ref b104), .val (.ref b119), .val (.int i142), .val .null] [(.ref b104)])) t
                  refine XS.aload X208.here hx rfl (hb hby at_166) rfl rfl ?_
                  show Steps p.tables e below (T208.setTop (mkF m 168 #[.val (.long q0_0), .second, .val (.long q0_1), .second, .val (.long q0_2), .second, .val (.long q0_3), .second, .val (.int p0_4), .val (.long (own_F1 q0_0 q0_1)), .second, .val (.long (own_F3 q0_0 q0_1)), .second, .val (.long j95), .second, .val (.long j98), .second, .val (.long (own_F1 j95 j98)), .second, .val (.long (own_F3 j95 j98)), .second, .val (.ref b104), .val (.ref b119), .val (.int i142), .val .null] [.null, (.ref b104)])) t
                  exact k
                obtain ⟨cq214, kq214, q214a, q214b, q214c⟩ := isOf hZ e208 f132
                obtain ⟨v214, _, ⟨T214, L214, k214, n214⟩, -, X214, ⟨Lc214, hQ214, l214, y214, z214⟩, st214⟩ := X208.virtualBack hx (y := (⟨"com/example/vasto/vasto/cluster/TokenRange", "equals", "(Ljava/lang/Object;)Z"⟩ : MethodName)) (z := (⟨"com/example/vasto/vasto/cluster/TokenRange", "equals", "(Ljava/lang/Object;)Z"⟩ : MethodName)) hown (mvT hZ (hw _ (List.mem_of_getElem? (i := 35) rfl))) (mvT hZ (hw _ (List.mem_of_getElem? (i := 36) rfl))) (notFace_of_selects (args := #[]) (mvT hZ (hw _ (List.mem_of_getElem? (i := 38) rfl)))) (mvT hZ (hw _ (List.mem_of_getElem? (i := 38) rfl))) (mvT hZ (hw _ (List.mem_of_getElem? (i := 37) rfl))) (by decide) (backOf (W := 0) (own_rm8n l Z a0 hw [] b104 T128.heap n0 Z138) hZ (hw _ (List.mem_of_getElem? (i := 39) rfl)) (hw _ (List.mem_of_getElem? (i := 16) rfl)) (by decide) (by decide)) q214a q214c (g := (mkF m 168 #[.val (.long q0_0), .second, .val (.long q0_1), .second, .val (.long q0_2), .second, .val (.long q0_3), .second, .val (.int p0_4), .val (.long (own_F1 q0_0 q0_1)), .second, .val (.long (own_F3 q0_0 q0_1)), .second, .val (.long j95), .second, .val (.long j98), .second, .val (.long (own_F1 j95 j98)), .second, .val (.long (own_F3 j95 j98)), .second, .val (.ref b104), .val (.ref b119), .val (.int i142), .val .null] [.null, (.ref b104)])) rfl (by rw [hml]; rfl) (Steps.refl _) (argsL := [.null]) (rest := []) (lenOf pd__Ljava_lang_Object__Z rfl) rfl (by show 2 * 0 + _ ≤ _; exact Nat.le_of_eq rfl) (hb hby at_168) (fun _ _ => ⟨rfl, e208, (by decide : 2 + 0 ≤ _), (by decide : 4 + 0 ≤ _)⟩)
                dsimp only [Pt.U, Pt.locs, Pt.cells, Pt.slots] at X214 l214 y214 z214 st214 hQ214
                subst l214 y214 z214
                obtain ⟨rfl, M214, e214⟩ := hQ214
                have N215 := Fr.app N209 M214
                refine own_via (T' := T214) (g' := (mkF m 171 #[.val (.long q0_0), .second, .val (.long q0_1), .second, .val (.long q0_2), .second, .val (.long q0_3), .second, .val (.int p0_4), .val (.long (own_F1 q0_0 q0_1)), .second, .val (.long (own_F3 q0_0 q0_1)), .second, .val (.long j95), .second, .val (.long j98), .second, .val (.long (own_F1 j95 j98)), .second, .val (.long (own_F3 j95 j98)), .second, .val (.ref b104), .val (.ref b119), .val (.int i142), .val .null] [(.int (own_F8n))])) st214 ?_
                by_cases hc216 : (own_F8n) = (0 : Int32)
                · skip
                  refine own_by (T' := T214) (g' := (mkF m 179 #[.val (.long q0_0), .second, .val (.long q0_1), .second, .val (.long q0_2), .second, .val (.long q0_3), .second, .val (.int p0_4), .val (.long (own_F1 q0_0 q0_1)), .second, .val (.long (own_F3 q0_0 q0_1)), .second, .val (.long j95), .second, .val (.long j98), .second, .val (.long (own_F1 j95 j98)), .second, .val (.long (own_F3 j95 j98)), .second, .val (.ref b104), .val (.ref b119), .val (.int i142), .val .null] [(.int (1 : Int32))])) (fun t k => ?_) ?_
                  · show Steps p.tables e below (T214.setTop (mkF m 171 #[.val (.long q0_0), .second, .val (.long q0_1), .second, .val (.long q0_2), .second, .val (.long q0_3), .second, .val (.int p0_4), .val (.long (own_F1 q0_0 q0_1)), .second, .val (.long (own_F3 q0_0 q0_1)), .second, .val (.long j95), .second, .val (.long j98), .second, .val (.long (own_F1 j95 j98)), .second, .val (.long (own_F3 j95 j98)), .second, .val (.ref b104), .val (.ref b119), .val (.int i142), .val .null] [(.int (own_F8n))])) t
                    refine XS.ifNo X214.here hx rfl (hb hby at_171) rfl ((if0 _ _).trans (teq hc216).2) ?_
                    show Steps p.tables e below (T214.setTop (mkF m 174 #[.val (.long q0_0), .second, .val (.long q0_1), .second, .val (.long q0_2), .second, .val (.long q0_3), .second, .val (.int p0_4), .val (.long (own_F1 q0_0 q0_1)), .second, .val (.long (own_F3 q0_0 q0_1)), .second, .val (.long j95), .second, .val (.long j98), .second, .val (.long (own_F1 j95 j98)), .second, .val (.long (own_F3 j95 j98)), .second, .val (.ref b104), .val (.ref b119), .val (.int i142), .val .null] [])) t
                    refine XS.iconst X214.here hx rfl (hb hby at_174) ?_
                    show Steps p.tables e below (T214.setTop (mkF m 175 #[.val (.long q0_0), .second, .val (.long q0_1), .second, .val (.long q0_2), .second, .val (.long q0_3), .second, .val (.int p0_4), .val (.long (own_F1 q0_0 q0_1)), .second, .val (.long (own_F3 q0_0 q0_1)), .second, .val (.long j95), .second, .val (.long j98), .second, .val (.long (own_F1 j95 j98)), .second, .val (.long (own_F3 j95 j98)), .second, .val (.ref b104), .val (.ref b119), .val (.int i142), .val .null] [(.int (1 : Int32))])) t
                    refine XS.goto X214.here hx rfl (pc0 := 175) (pc' := 179) rfl (hb hby at_175) (by decide) (by decide) ?_
                    show Steps p.tables e below (T214.setTop (mkF m 179 #[.val (.long q0_0), .second, .val (.long q0_1), .second, .val (.long q0_2), .second, .val (.long q0_3), .second, .val (.int p0_4), .val (.long (own_F1 q0_0 q0_1)), .second, .val (.long (own_F3 q0_0 q0_1)), .second, .val (.long j95), .second, .val (.long j98), .second, .val (.long (own_F1 j95 j98)), .second, .val (.long (own_F3 j95 j98)), .second, .val (.ref b104), .val (.ref b119), .val (.int i142), .val .null] [(.int (1 : Int32))])) t
                    exact k
                  rw [show own_F0_111_3 q0_0 q0_1 q0_2 q0_3 p0_4 j95 j98 i142 = (1 : Int32) from ((if_neg hc144).trans ((if_pos hc189).trans ((if_pos hc201).trans ((if_neg hc210).trans ((if_pos hc216).trans rfl)))))]
                  exact own_retN X214 hx (t := .boolean) Bd.returns (by simp) (hb hby at_179) hlk (by decide) (by decide) ⟨rfl, N215⟩
                · skip
                  refine own_by (T' := T214) (g' := (mkF m 179 #[.val (.long q0_0), .second, .val (.long q0_1), .second, .val (.long q0_2), .second, .val (.long q0_3), .second, .val (.int p0_4), .val (.long (own_F1 q0_0 q0_1)), .second, .val (.long (own_F3 q0_0 q0_1)), .second, .val (.long j95), .second, .val (.long j98), .second, .val (.long (own_F1 j95 j98)), .second, .val (.long (own_F3 j95 j98)), .second, .val (.ref b104), .val (.ref b119), .val (.int i142), .val .null] [(.int (0 : Int32))])) (fun t k => ?_) ?_
                  · show Steps p.tables e below (T214.setTop (mkF m 171 #[.val (.long q0_0), .second, .val (.long q0_1), .second, .val (.long q0_2), .second, .val (.long q0_3), .second, .val (.int p0_4), .val (.long (own_F1 q0_0 q0_1)), .second, .val (.long (own_F3 q0_0 q0_1)), .second, .val (.long j95), .second, .val (.long j98), .second, .val (.long (own_F1 j95 j98)), .second, .val (.long (own_F3 j95 j98)), .second, .val (.ref b104), .val (.ref b119), .val (.int i142), .val .null] [(.int (own_F8n))])) t
                    refine XS.ifYes X214.here hx rfl (pc0 := 171) (pc' := 178) rfl (hb hby at_171) rfl ((if0 _ _).trans (feq hc216).2) (by decide) (by decide) ?_
                    show Steps p.tables e below (T214.setTop (mkF m 178 #[.val (.long q0_0), .second, .val (.long q0_1), .second, .val (.long q0_2), .second, .val (.long q0_3), .second, .val (.int p0_4), .val (.long (own_F1 q0_0 q0_1)), .second, .val (.long (own_F3 q0_0 q0_1)), .second, .val (.long j95), .second, .val (.long j98), .second, .val (.long (own_F1 j95 j98)), .second, .val (.long (own_F3 j95 j98)), .second, .val (.ref b104), .val (.ref b119), .val (.int i142), .val .null] [])) t
                    refine XS.iconst X214.here hx rfl (hb hby at_178) ?_
                    show Steps p.tables e below (T214.setTop (mkF m 179 #[.val (.long q0_0), .second, .val (.long q0_1), .second, .val (.long q0_2), .second, .val (.long q0_3), .second, .val (.int p0_4), .val (.long (own_F1 q0_0 q0_1)), .second, .val (.long (own_F3 q0_0 q0_1)), .second, .val (.long j95), .second, .val (.long j98), .second, .val (.long (own_F1 j95 j98)), .second, .val (.long (own_F3 j95 j98)), .second, .val (.ref b104), .val (.ref b119), .val (.int i142), .val .null] [(.int (0 : Int32))])) t
                    exact k
                  rw [show own_F0_111_3 q0_0 q0_1 q0_2 q0_3 p0_4 j95 j98 i142 = (0 : Int32) from ((if_neg hc144).trans ((if_pos hc189).trans ((if_pos hc201).trans ((if_neg hc210).trans ((if_neg hc216).trans rfl)))))]
                  exact own_retN X214 hx (t := .boolean) Bd.returns (by simp) (hb hby at_179) hlk (by decide) (by decide) ⟨rfl, N215⟩
            · skip
              refine own_by (T' := T199) (g' := (mkF m 179 #[.val (.long q0_0), .second, .val (.long q0_1), .second, .val (.long q0_2), .second, .val (.long q0_3), .second, .val (.int p0_4), .val (.long (own_F1 q0_0 q0_1)), .second, .val (.long (own_F3 q0_0 q0_1)), .second, .val (.long j95), .second, .val (.long j98), .second, .val (.long (own_F1 j95 j98)), .second, .val (.long (own_F3 j95 j98)), .second, .val (.ref b104), .val (.ref b119), .val (.int i142), .val .null] [(.int (0 : Int32))])) (fun t k => ?_) ?_
              · show Steps p.tables e below (T199.setTop (mkF m 151 #[.val (.long q0_0), .second, .val (.long q0_1), .second, .val (.long q0_2), .second, .val (.long q0_3), .second, .val (.int p0_4), .val (.long (own_F1 q0_0 q0_1)), .second, .val (.long (own_F3 q0_0 q0_1)), .second, .val (.long j95), .second, .val (.long j98), .second, .val (.long (own_F1 j95 j98)), .second, .val (.long (own_F3 j95 j98)), .second, .val (.ref b104), .val (.ref b119), .val (.int i142), .val .null] [(.int i142), (.int (own_F8t (own_F1 j95 j98) (own_F1 q0_0 q0_1) (own_F3 j95 j98) (own_F3 q0_0 q0_1)))])) t
                refine XS.icmpYes X199.here hx rfl (pc0 := 151) (pc' := 178) rfl (hb hby at_151) rfl (feq hc201).2 (by decide) (by decide) ?_
                show Steps p.tables e below (T199.setTop (mkF m 178 #[.val (.long q0_0), .second, .val (.long q0_1), .second, .val (.long q0_2), .second, .val (.long q0_3), .second, .val (.int p0_4), .val (.long (own_F1 q0_0 q0_1)), .second, .val (.long (own_F3 q0_0 q0_1)), .second, .val (.long j95), .second, .val (.long j98), .second, .val (.long (own_F1 j95 j98)), .second, .val (.long (own_F3 j95 j98)), .second, .val (.ref b104), .val (.ref b119), .val (.int i142), .val .null] [])) t
                refine XS.iconst X199.here hx rfl (hb hby at_178) ?_
                show Steps p.tables e below (T199.setTop (mkF m 179 #[.val (.long q0_0), .second, .val (.long q0_1), .second, .val (.long q0_2), .second, .val (.long q0_3), .second, .val (.int p0_4), .val (.long (own_F1 q0_0 q0_1)), .second, .val (.long (own_F3 q0_0 q0_1)), .second, .val (.long j95), .second, .val (.long j98), .second, .val (.long (own_F1 j95 j98)), .second, .val (.long (own_F3 j95 j98)), .second, .val (.ref b104), .val (.ref b119), .val (.int i142), .val .null] [(.int (0 : Int32))])) t
                exact k
              rw [show own_F0_111_3 q0_0 q0_1 q0_2 q0_3 p0_4 j95 j98 i142 = (0 : Int32) from ((if_neg hc144).trans ((if_pos hc189).trans ((if_neg hc201).trans rfl)))]
              exact own_retN X199 hx (t := .boolean) Bd.returns (by simp) (hb hby at_179) hlk (by decide) (by decide) ⟨rfl, N200⟩
          · skip
            refine own_by (T' := T187) (g' := (mkF m 179 #[.val (.long q0_0), .second, .val (.long q0_1), .second, .val (.long q0_2), .second, .val (.long q0_3), .second, .val (.int p0_4), .val (.long (own_F1 q0_0 q0_1)), .second, .val (.long (own_F3 q0_0 q0_1)), .second, .val (.long j95), .second, .val (.long j98), .second, .val (.long (own_F1 j95 j98)), .second, .val (.long (own_F3 j95 j98)), .second, .val (.ref b104), .val (.ref b119), .val (.int i142), .val .null] [(.int (0 : Int32))])) (fun t k => ?_) ?_
            · show Steps p.tables e below (T187.setTop (mkF m 139 #[.val (.long q0_0), .second, .val (.long q0_1), .second, .val (.long q0_2), .second, .val (.long q0_3), .second, .val (.int p0_4), .val (.long (own_F1 q0_0 q0_1)), .second, .val (.long (own_F3 q0_0 q0_1)), .second, .val (.long j95), .second, .val (.long j98), .second, .val (.long (own_F1 j95 j98)), .second, .val (.long (own_F3 j95 j98)), .second, .val (.ref b104), .val (.ref b119), .val (.int i142), .val .null] [(.int i142), (.int (own_F8t (own_F1 q0_0 q0_1) (own_F1 j95 j98) (own_F3 q0_0 q0_1) (own_F3 j95 j98)))])) t
              refine XS.icmpYes X187.here hx rfl (pc0 := 139) (pc' := 178) rfl (hb hby at_139) rfl (feq hc189).2 (by decide) (by decide) ?_
              show Steps p.tables e below (T187.setTop (mkF m 178 #[.val (.long q0_0), .second, .val (.long q0_1), .second, .val (.long q0_2), .second, .val (.long q0_3), .second, .val (.int p0_4), .val (.long (own_F1 q0_0 q0_1)), .second, .val (.long (own_F3 q0_0 q0_1)), .second, .val (.long j95), .second, .val (.long j98), .second, .val (.long (own_F1 j95 j98)), .second, .val (.long (own_F3 j95 j98)), .second, .val (.ref b104), .val (.ref b119), .val (.int i142), .val .null] [])) t
              refine XS.iconst X187.here hx rfl (hb hby at_178) ?_
              show Steps p.tables e below (T187.setTop (mkF m 179 #[.val (.long q0_0), .second, .val (.long q0_1), .second, .val (.long q0_2), .second, .val (.long q0_3), .second, .val (.int p0_4), .val (.long (own_F1 q0_0 q0_1)), .second, .val (.long (own_F3 q0_0 q0_1)), .second, .val (.long j95), .second, .val (.long j98), .second, .val (.long (own_F1 j95 j98)), .second, .val (.long (own_F3 j95 j98)), .second, .val (.ref b104), .val (.ref b119), .val (.int i142), .val .null] [(.int (0 : Int32))])) t
              exact k
            rw [show own_F0_111_3 q0_0 q0_1 q0_2 q0_3 p0_4 j95 j98 i142 = (0 : Int32) from ((if_neg hc144).trans ((if_neg hc189).trans rfl))]
            exact own_retN X187 hx (t := .boolean) Bd.returns (by simp) (hb hby at_179) hlk (by decide) (by decide) ⟨rfl, N188⟩
      by_cases hc140 : (own_F1 q0_0 q0_1) = (own_F1 j95 j98)
      · skip
        refine own_by (T' := T128) (g' := (mkF m 103 #[.val (.long q0_0), .second, .val (.long q0_1), .second, .val (.long q0_2), .second, .val (.long q0_3), .second, .val (.int p0_4), .val (.long (own_F1 q0_0 q0_1)), .second, .val (.long (own_F3 q0_0 q0_1)), .second, .val (.long j95), .second, .val (.long j98), .second, .val (.long (own_F1 j95 j98)), .second, .val (.long (own_F3 j95 j98)), .second, .val (.ref b104), .val (.ref b119), .unset, .unset] [(.int (lcmpW (own_F3 q0_0 q0_1) (own_F3 j95 j98)))])) (fun t k => ?_) ?_
        · show Steps p.tables e below (T128.setTop (mkF m 95 #[.val (.long q0_0), .second, .val (.long q0_1), .second, .val (.long q0_2), .second, .val (.long q0_3), .second, .val (.int p0_4), .val (.long (own_F1 q0_0 q0_1)), .second, .val (.long (own_F3 q0_0 q0_1)), .second, .val (.long j95), .second, .val (.long j98), .second, .val (.long (own_F1 j95 j98)), .second, .val (.long (own_F3 j95 j98)), .second, .val (.ref b104), .val (.ref b119), .unset, .unset] [(.int (lcmpW (own_F1 q0_0 q0_1) (own_F1 j95 j98)))])) t
          refine XS.ifNo X128.here hx rfl (hb hby at_95) rfl ((if0 _ _).trans (teq ((lw_eq _ _).mpr hc140)).2) ?_
          show Steps p.tables e below (T128.setTop (mkF m 98 #[.val (.long q0_0), .second, .val (.long q0_1), .second, .val (.long q0_2), .second, .val (.long q0_3), .second, .val (.int p0_4), .val (.long (own_F1 q0_0 q0_1)), .second, .val (.long (own_F3 q0_0 q0_1)), .second, .val (.long j95), .second, .val (.long j98), .second, .val (.long (own_F1 j95 j98)), .second, .val (.long (own_F3 j95 j98)), .second, .val (.ref b104), .val (.ref b119), .unset, .unset] [])) t
          refine XS.lload X128.here hx rfl (hb hby at_98) rfl ?_
          show Steps p.tables e below (T128.setTop (mkF m 100 #[.val (.long q0_0), .second, .val (.long q0_1), .second, .val (.long q0_2), .second, .val (.long q0_3), .second, .val (.int p0_4), .val (.long (own_F1 q0_0 q0_1)), .second, .val (.long (own_F3 q0_0 q0_1)), .second, .val (.long j95), .second, .val (.long j98), .second, .val (.long (own_F1 j95 j98)), .second, .val (.long (own_F3 j95 j98)), .second, .val (.ref b104), .val (.ref b119), .unset, .unset] [(.long (own_F3 q0_0 q0_1))])) t
          refine XS.lload X128.here hx rfl (hb hby at_100) rfl ?_
          show Steps p.tables e below (T128.setTop (mkF m 102 #[.val (.long q0_0), .second, .val (.long q0_1), .second, .val (.long q0_2), .second, .val (.long q0_3), .second, .val (.int p0_4), .val (.long (own_F1 q0_0 q0_1)), .second, .val (.long (own_F3 q0_0 q0_1)), .second, .val (.long j95), .second, .val (.long j98), .second, .val (.long (own_F1 j95 j98)), .second, .val (.long (own_F3 j95 j98)), .second, .val (.ref b104), .val (.ref b119), .unset, .unset] [(.long (own_F3 j95 j98)), (.long (own_F3 q0_0 q0_1))])) t
          refine XS.lcmp X128.here hx rfl (hb hby at_102) rfl ?_
          show Steps p.tables e below (T128.setTop (mkF m 103 #[.val (.long q0_0), .second, .val (.long q0_1), .second, .val (.long q0_2), .second, .val (.long q0_3), .second, .val (.int p0_4), .val (.long (own_F1 q0_0 q0_1)), .second, .val (.long (own_F3 q0_0 q0_1)), .second, .val (.long j95), .second, .val (.long j98), .second, .val (.long (own_F1 j95 j98)), .second, .val (.long (own_F3 j95 j98)), .second, .val (.ref b104), .val (.ref b119), .unset, .unset] [(.int (lcmpW (own_F3 q0_0 q0_1) (own_F3 j95 j98)))])) t
          exact k
        by_cases hc217 : (own_F3 q0_0 q0_1) = (own_F3 j95 j98)
        · skip
          refine own_by (T' := T128) (g' := (mkF m 111 #[.val (.long q0_0), .second, .val (.long q0_1), .second, .val (.long q0_2), .second, .val (.long q0_3), .second, .val (.int p0_4), .val (.long (own_F1 q0_0 q0_1)), .second, .val (.long (own_F3 q0_0 q0_1)), .second, .val (.long j95), .second, .val (.long j98), .second, .val (.long (own_F1 j95 j98)), .second, .val (.long (own_F3 j95 j98)), .second, .val (.ref b104), .val (.ref b119), .unset, .unset] [(.int (1 : Int32))])) (fun t k => ?_) ?_
          · show Steps p.tables e below (T128.setTop (mkF m 103 #[.val (.long q0_0), .second, .val (.long q0_1), .second, .val (.long q0_2), .second, .val (.long q0_3), .second, .val (.int p0_4), .val (.long (own_F1 q0_0 q0_1)), .second, .val (.long (own_F3 q0_0 q0_1)), .second, .val (.long j95), .second, .val (.long j98), .second, .val (.long (own_F1 j95 j98)), .second, .val (.long (own_F3 j95 j98)), .second, .val (.ref b104), .val (.ref b119), .unset, .unset] [(.int (lcmpW (own_F3 q0_0 q0_1) (own_F3 j95 j98)))])) t
            refine XS.ifNo X128.here hx rfl (hb hby at_103) rfl ((if0 _ _).trans (teq ((lw_eq _ _).mpr hc217)).2) ?_
            show Steps p.tables e below (T128.setTop (mkF m 106 #[.val (.long q0_0), .second, .val (.long q0_1), .second, .val (.long q0_2), .second, .val (.long q0_3), .second, .val (.int p0_4), .val (.long (own_F1 q0_0 q0_1)), .second, .val (.long (own_F3 q0_0 q0_1)), .second, .val (.long j95), .second, .val (.long j98), .second, .val (.long (own_F1 j95 j98)), .second, .val (.long (own_F3 j95 j98)), .second, .val (.ref b104), .val (.ref b119), .unset, .unset] [])) t
            refine XS.iconst X128.here hx rfl (hb hby at_106) ?_
            show Steps p.tables e below (T128.setTop (mkF m 107 #[.val (.long q0_0), .second, .val (.long q0_1), .second, .val (.long q0_2), .second, .val (.long q0_3), .second, .val (.int p0_4), .val (.long (own_F1 q0_0 q0_1)), .second, .val (.long (own_F3 q0_0 q0_1)), .second, .val (.long j95), .second, .val (.long j98), .second, .val (.long (own_F1 j95 j98)), .second, .val (.long (own_F3 j95 j98)), .second, .val (.ref b104), .val (.ref b119), .unset, .unset] [(.int (1 : Int32))])) t
            refine XS.goto X128.here hx rfl (pc0 := 107) (pc' := 111) rfl (hb hby at_107) (by decide) (by decide) ?_
            show Steps p.tables e below (T128.setTop (mkF m 111 #[.val (.long q0_0), .second, .val (.long q0_1), .second, .val (.long q0_2), .second, .val (.long q0_3), .second, .val (.int p0_4), .val (.long (own_F1 q0_0 q0_1)), .second, .val (.long (own_F3 q0_0 q0_1)), .second, .val (.long j95), .second, .val (.long j98), .second, .val (.long (own_F1 j95 j98)), .second, .val (.long (own_F3 j95 j98)), .second, .val (.ref b104), .val (.ref b119), .unset, .unset] [(.int (1 : Int32))])) t
            exact k
          rw [show own_F0_44_2 q0_0 q0_1 q0_2 q0_3 p0_4 j95 j98 = (own_F0_111_3 q0_0 q0_1 q0_2 q0_3 p0_4 j95 j98 (1 : Int32)) from ((if_pos hc140).trans ((if_pos hc217).trans rfl))]
          exact J0_3 _ _ (1 : Int32) X128 rfl N139
        · skip
          refine own_by (T' := T128) (g' := (mkF m 111 #[.val (.long q0_0), .second, .val (.long q0_1), .second, .val (.long q0_2), .second, .val (.long q0_3), .second, .val (.int p0_4), .val (.long (own_F1 q0_0 q0_1)), .second, .val (.long (own_F3 q0_0 q0_1)), .second, .val (.long j95), .second, .val (.long j98), .second, .val (.long (own_F1 j95 j98)), .second, .val (.long (own_F3 j95 j98)), .second, .val (.ref b104), .val (.ref b119), .unset, .unset] [(.int (0 : Int32))])) (fun t k => ?_) ?_
          · show Steps p.tables e below (T128.setTop (mkF m 103 #[.val (.long q0_0), .second, .val (.long q0_1), .second, .val (.long q0_2), .second, .val (.long q0_3), .second, .val (.int p0_4), .val (.long (own_F1 q0_0 q0_1)), .second, .val (.long (own_F3 q0_0 q0_1)), .second, .val (.long j95), .second, .val (.long j98), .second, .val (.long (own_F1 j95 j98)), .second, .val (.long (own_F3 j95 j98)), .second, .val (.ref b104), .val (.ref b119), .unset, .unset] [(.int (lcmpW (own_F3 q0_0 q0_1) (own_F3 j95 j98)))])) t
            refine XS.ifYes X128.here hx rfl (pc0 := 103) (pc' := 110) rfl (hb hby at_103) rfl ((if0 _ _).trans (feq (fun q => hc217 ((lw_eq _ _).mp q))).2) (by decide) (by decide) ?_
            show Steps p.tables e below (T128.setTop (mkF m 110 #[.val (.long q0_0), .second, .val (.long q0_1), .second, .val (.long q0_2), .second, .val (.long q0_3), .second, .val (.int p0_4), .val (.long (own_F1 q0_0 q0_1)), .second, .val (.long (own_F3 q0_0 q0_1)), .second, .val (.long j95), .second, .val (.long j98), .second, .val (.long (own_F1 j95 j98)), .second, .val (.long (own_F3 j95 j98)), .second, .val (.ref b104), .val (.ref b119), .unset, .unset] [])) t
            refine XS.iconst X128.here hx rfl (hb hby at_110) ?_
            show Steps p.tables e below (T128.setTop (mkF m 111 #[.val (.long q0_0), .second, .val (.long q0_1), .second, .val (.long q0_2), .second, .val (.long q0_3), .second, .val (.int p0_4), .val (.long (own_F1 q0_0 q0_1)), .second, .val (.long (own_F3 q0_0 q0_1)), .second, .val (.long j95), .second, .val (.long j98), .second, .val (.long (own_F1 j95 j98)), .second, .val (.long (own_F3 j95 j98)), .second, .val (.ref b104), .val (.ref b119), .unset, .unset] [(.int (0 : Int32))])) t
            exact k
          rw [show own_F0_44_2 q0_0 q0_1 q0_2 q0_3 p0_4 j95 j98 = (own_F0_111_3 q0_0 q0_1 q0_2 q0_3 p0_4 j95 j98 (0 : Int32)) from ((if_pos hc140).trans ((if_neg hc217).trans rfl))]
          exact J0_3 _ _ (0 : Int32) X128 rfl N139
      · skip
        refine own_by (T' := T128) (g' := (mkF m 111 #[.val (.long q0_0), .second, .val (.long q0_1), .second, .val (.long q0_2), .second, .val (.long q0_3), .second, .val (.int p0_4), .val (.long (own_F1 q0_0 q0_1)), .second, .val (.long (own_F3 q0_0 q0_1)), .second, .val (.long j95), .second, .val (.long j98), .second, .val (.long (own_F1 j95 j98)), .second, .val (.long (own_F3 j95 j98)), .second, .val (.ref b104), .val (.ref b119), .unset, .unset] [(.int (0 : Int32))])) (fun t k => ?_) ?_
        · show Steps p.tables e below (T128.setTop (mkF m 95 #[.val (.long q0_0), .second, .val (.long q0_1), .second, .val (.long q0_2), .second, .val (.long q0_3), .second, .val (.int p0_4), .val (.long (own_F1 q0_0 q0_1)), .second, .val (.long (own_F3 q0_0 q0_1)), .second, .val (.long j95), .second, .val (.long j98), .second, .val (.long (own_F1 j95 j98)), .second, .val (.long (own_F3 j95 j98)), .second, .val (.ref b104), .val (.ref b119), .unset, .unset] [(.int (lcmpW (own_F1 q0_0 q0_1) (own_F1 j95 j98)))])) t
          refine XS.ifYes X128.here hx rfl (pc0 := 95) (pc' := 110) rfl (hb hby at_95) rfl ((if0 _ _).trans (feq (fun q => hc140 ((lw_eq _ _).mp q))).2) (by decide) (by decide) ?_
          show Steps p.tables e below (T128.setTop (mkF m 110 #[.val (.long q0_0), .second, .val (.long q0_1), .second, .val (.long q0_2), .second, .val (.long q0_3), .second, .val (.int p0_4), .val (.long (own_F1 q0_0 q0_1)), .second, .val (.long (own_F3 q0_0 q0_1)), .second, .val (.long j95), .second, .val (.long j98), .second, .val (.long (own_F1 j95 j98)), .second, .val (.long (own_F3 j95 j98)), .second, .val (.ref b104), .val (.ref b119), .unset, .unset] [])) t
          refine XS.iconst X128.here hx rfl (hb hby at_110) ?_
          show Steps p.tables e below (T128.setTop (mkF m 111 #[.val (.long q0_0), .second, .val (.long q0_1), .second, .val (.long q0_2), .second, .val (.long q0_3), .second, .val (.int p0_4), .val (.long (own_F1 q0_0 q0_1)), .second, .val (.long (own_F3 q0_0 q0_1)), .second, .val (.long j95), .second, .val (.long j98), .second, .val (.long (own_F1 j95 j98)), .second, .val (.long (own_F3 j95 j98)), .second, .val (.ref b104), .val (.ref b119), .unset, .unset] [(.int (0 : Int32))])) t
          exact k
        rw [show own_F0_44_2 q0_0 q0_1 q0_2 q0_3 p0_4 j95 j98 = (own_F0_111_3 q0_0 q0_1 q0_2 q0_3 p0_4 j95 j98 (0 : Int32)) from ((if_neg hc140).trans rfl)]
        exact J0_3 _ _ (0 : Int32) X128 rfl N139
    by_cases hc97 : (p0_4 &&& (2 : Int32)) = (0 : Int32)
    · skip
      refine own_by (T' := T96) (g' := (mkF m 44 #[.val (.long q0_0), .second, .val (.long q0_1), .second, .val (.long q0_2), .second, .val (.long q0_3), .second, .val (.int p0_4), .val (.long (own_F1 q0_0 q0_1)), .second, .val (.long (own_F3 q0_0 q0_1)), .second, .val (.long j95), .second, .unset, .unset, .unset, .unset, .unset, .unset, .unset, .unset, .unset, .unset] [(.long q0_3)])) (fun t k => ?_) ?_
      · show Steps p.tables e below (T96.setTop (mkF m 34 #[.val (.long q0_0), .second, .val (.long q0_1), .second, .val (.long q0_2), .second, .val (.long q0_3), .second, .val (.int p0_4), .val (.long (own_F1 q0_0 q0_1)), .second, .val (.long (own_F3 q0_0 q0_1)), .second, .val (.long j95), .second, .unset, .unset, .unset, .unset, .unset, .unset, .unset, .unset, .unset, .unset] [(.int (p0_4 &&& (2 : Int32)))])) t
        refine XS.ifYes X96.here hx rfl (pc0 := 34) (pc' := 42) rfl (hb hby at_34) rfl ((if0 _ _).trans (teq hc97).1) (by decide) (by decide) ?_
        show Steps p.tables e below (T96.setTop (mkF m 42 #[.val (.long q0_0), .second, .val (.long q0_1), .second, .val (.long q0_2), .second, .val (.long q0_3), .second, .val (.int p0_4), .val (.long (own_F1 q0_0 q0_1)), .second, .val (.long (own_F3 q0_0 q0_1)), .second, .val (.long j95), .second, .unset, .unset, .unset, .unset, .unset, .unset, .unset, .unset, .unset, .unset] [])) t
        refine XS.lload X96.here hx rfl (hb hby at_42) rfl ?_
        show Steps p.tables e below (T96.setTop (mkF m 44 #[.val (.long q0_0), .second, .val (.long q0_1), .second, .val (.long q0_2), .second, .val (.long q0_3), .second, .val (.int p0_4), .val (.long (own_F1 q0_0 q0_1)), .second, .val (.long (own_F3 q0_0 q0_1)), .second, .val (.long j95), .second, .unset, .unset, .unset, .unset, .unset, .unset, .unset, .unset, .unset, .unset] [(.long q0_3)])) t
        exact k
      rw [show own_F0_28_1 q0_0 q0_1 q0_2 q0_3 p0_4 j95 = (own_F0_44_2 q0_0 q0_1 q0_2 q0_3 p0_4 j95 q0_3) from ((if_pos hc97).trans rfl)]
      exact J0_2 _ _ q0_3 X96 e96 N96
    · skip
      refine own_by (T' := T96) (g' := (mkF m 44 #[.val (.long q0_0), .second, .val (.long q0_1), .second, .val (.long q0_2), .second, .val (.long q0_3), .second, .val (.int p0_4), .val (.long (own_F1 q0_0 q0_1)), .second, .val (.long (own_F3 q0_0 q0_1)), .second, .val (.long j95), .second, .unset, .unset, .unset, .unset, .unset, .unset, .unset, .unset, .unset, .unset] [(.long (own_F3 q0_0 q0_1))])) (fun t k => ?_) ?_
      · show Steps p.tables e below (T96.setTop (mkF m 34 #[.val (.long q0_0), .second, .val (.long q0_1), .second, .val (.long q0_2), .second, .val (.long q0_3), .second, .val (.int p0_4), .val (.long (own_F1 q0_0 q0_1)), .second, .val (.long (own_F3 q0_0 q0_1)), .second, .val (.long j95), .second, .unset, .unset, .unset, .unset, .unset, .unset, .unset, .unset, .unset, .unset] [(.int (p0_4 &&& (2 : Int32)))])) t
        refine XS.ifNo X96.here hx rfl (hb hby at_34) rfl ((if0 _ _).trans (feq hc97).1) ?_
        show Steps p.tables e below (T96.setTop (mkF m 37 #[.val (.long q0_0), .second, .val (.long q0_1), .second, .val (.long q0_2), .second, .val (.long q0_3), .second, .val (.int p0_4), .val (.long (own_F1 q0_0 q0_1)), .second, .val (.long (own_F3 q0_0 q0_1)), .second, .val (.long j95), .second, .unset, .unset, .unset, .unset, .unset, .unset, .unset, .unset, .unset, .unset] [])) t
        refine XS.lload X96.here hx rfl (hb hby at_37) rfl ?_
        show Steps p.tables e below (T96.setTop (mkF m 39 #[.val (.long q0_0), .second, .val (.long q0_1), .second, .val (.long q0_2), .second, .val (.long q0_3), .second, .val (.int p0_4), .val (.long (own_F1 q0_0 q0_1)), .second, .val (.long (own_F3 q0_0 q0_1)), .second, .val (.long j95), .second, .unset, .unset, .unset, .unset, .unset, .unset, .unset, .unset, .unset, .unset] [(.long (own_F3 q0_0 q0_1))])) t
        refine XS.goto X96.here hx rfl (pc0 := 39) (pc' := 44) rfl (hb hby at_39) (by decide) (by decide) ?_
        show Steps p.tables e below (T96.setTop (mkF m 44 #[.val (.long q0_0), .second, .val (.long q0_1), .second, .val (.long q0_2), .second, .val (.long q0_3), .second, .val (.int p0_4), .val (.long (own_F1 q0_0 q0_1)), .second, .val (.long (own_F3 q0_0 q0_1)), .second, .val (.long j95), .second, .unset, .unset, .unset, .unset, .unset, .unset, .unset, .unset, .unset, .unset] [(.long (own_F3 q0_0 q0_1))])) t
        exact k
      rw [show own_F0_28_1 q0_0 q0_1 q0_2 q0_3 p0_4 j95 = (own_F0_44_2 q0_0 q0_1 q0_2 q0_3 p0_4 j95 (own_F3 q0_0 q0_1)) from ((if_neg hc97).trans rfl)]
      exact J0_2 _ _ (own_F3 q0_0 q0_1) X96 e96 N96
  by_cases hc94 : (p0_4 &&& (1 : Int32)) = (0 : Int32)
  · skip
    refine own_by (T' := T92) (g' := (mkF m 28 #[.val (.long q0_0), .second, .val (.long q0_1), .second, .val (.long q0_2), .second, .val (.long q0_3), .second, .val (.int p0_4), .val (.long (own_F1 q0_0 q0_1)), .second, .val (.long (own_F3 q0_0 q0_1)), .second, .unset, .unset, .unset, .unset, .unset, .unset, .unset, .unset, .unset, .unset, .unset, .unset] [(.long q0_2)])) (fun t k => ?_) ?_
    · show Steps p.tables e below (T92.setTop (mkF m 18 #[.val (.long q0_0), .second, .val (.long q0_1), .second, .val (.long q0_2), .second, .val (.long q0_3), .second, .val (.int p0_4), .val (.long (own_F1 q0_0 q0_1)), .second, .val (.long (own_F3 q0_0 q0_1)), .second, .unset, .unset, .unset, .unset, .unset, .unset, .unset, .unset, .unset, .unset, .unset, .unset] [(.int (p0_4 &&& (1 : Int32)))])) t
      refine XS.ifYes X92.here hx rfl (pc0 := 18) (pc' := 26) rfl (hb hby at_18) rfl ((if0 _ _).trans (teq hc94).1) (by decide) (by decide) ?_
      show Steps p.tables e below (T92.setTop (mkF m 26 #[.val (.long q0_0), .second, .val (.long q0_1), .second, .val (.long q0_2), .second, .val (.long q0_3), .second, .val (.int p0_4), .val (.long (own_F1 q0_0 q0_1)), .second, .val (.long (own_F3 q0_0 q0_1)), .second, .unset, .unset, .unset, .unset, .unset, .unset, .unset, .unset, .unset, .unset, .unset, .unset] [])) t
      refine XS.lload X92.here hx rfl (hb hby at_26) rfl ?_
      show Steps p.tables e below (T92.setTop (mkF m 28 #[.val (.long q0_0), .second, .val (.long q0_1), .second, .val (.long q0_2), .second, .val (.long q0_3), .second, .val (.int p0_4), .val (.long (own_F1 q0_0 q0_1)), .second, .val (.long (own_F3 q0_0 q0_1)), .second, .unset, .unset, .unset, .unset, .unset, .unset, .unset, .unset, .unset, .unset, .unset, .unset] [(.long q0_2)])) t
      exact k
    rw [show own_F0 q0_0 q0_1 q0_2 q0_3 p0_4 = (own_F0_28_1 q0_0 q0_1 q0_2 q0_3 p0_4 q0_2) from ((if_pos hc94).trans rfl)]
    exact J0_1 _ _ q0_2 X92 e92 N93
  · skip
    refine own_by (T' := T92) (g' := (mkF m 28 #[.val (.long q0_0), .second, .val (.long q0_1), .second, .val (.long q0_2), .second, .val (.long q0_3), .second, .val (.int p0_4), .val (.long (own_F1 q0_0 q0_1)), .second, .val (.long (own_F3 q0_0 q0_1)), .second, .unset, .unset, .unset, .unset, .unset, .unset, .unset, .unset, .unset, .unset, .unset, .unset] [(.long (own_F1 q0_0 q0_1))])) (fun t k => ?_) ?_
    · show Steps p.tables e below (T92.setTop (mkF m 18 #[.val (.long q0_0), .second, .val (.long q0_1), .second, .val (.long q0_2), .second, .val (.long q0_3), .second, .val (.int p0_4), .val (.long (own_F1 q0_0 q0_1)), .second, .val (.long (own_F3 q0_0 q0_1)), .second, .unset, .unset, .unset, .unset, .unset, .unset, .unset, .unset, .unset, .unset, .unset, .unset] [(.int (p0_4 &&& (1 : Int32)))])) t
      refine XS.ifNo X92.here hx rfl (hb hby at_18) rfl ((if0 _ _).trans (feq hc94).1) ?_
      show Steps p.tables e below (T92.setTop (mkF m 21 #[.val (.long q0_0), .second, .val (.long q0_1), .second, .val (.long q0_2), .second, .val (.long q0_3), .second, .val (.int p0_4), .val (.long (own_F1 q0_0 q0_1)), .second, .val (.long (own_F3 q0_0 q0_1)), .second, .unset, .unset, .unset, .unset, .unset, .unset, .unset, .unset, .unset, .unset, .unset, .unset] [])) t
      refine XS.lload X92.here hx rfl (hb hby at_21) rfl ?_
      show Steps p.tables e below (T92.setTop (mkF m 23 #[.val (.long q0_0), .second, .val (.long q0_1), .second, .val (.long q0_2), .second, .val (.long q0_3), .second, .val (.int p0_4), .val (.long (own_F1 q0_0 q0_1)), .second, .val (.long (own_F3 q0_0 q0_1)), .second, .unset, .unset, .unset, .unset, .unset, .unset, .unset, .unset, .unset, .unset, .unset, .unset] [(.long (own_F1 q0_0 q0_1))])) t
      refine XS.goto X92.here hx rfl (pc0 := 23) (pc' := 28) rfl (hb hby at_23) (by decide) (by decide) ?_
      show Steps p.tables e below (T92.setTop (mkF m 28 #[.val (.long q0_0), .second, .val (.long q0_1), .second, .val (.long q0_2), .second, .val (.long q0_3), .second, .val (.int p0_4), .val (.long (own_F1 q0_0 q0_1)), .second, .val (.long (own_F3 q0_0 q0_1)), .second, .unset, .unset, .unset, .unset, .unset, .unset, .unset, .unset, .unset, .unset, .unset, .unset] [(.long (own_F1 q0_0 q0_1))])) t
      exact k
    rw [show own_F0 q0_0 q0_1 q0_2 q0_3 p0_4 = (own_F0_28_1 q0_0 q0_1 q0_2 q0_3 p0_4 (own_F1 q0_0 q0_1)) from ((if_neg hc94).trans rfl)]
    exact J0_1 _ _ (own_F1 q0_0 q0_1) X92 e92 N93
theorem own_t (a b c d : Int64) : own_F8t a b c d = if a = b ∧ c = d then 1 else 0 := by
  unfold own_F8t
  by_cases h1 : a = b <;> by_cases h2 : c = d <;> simp [h1, h2]
theorem own_key (a b c d : Int64) (f : Int32) (x y : Int64) (i : Int32) (h : i = own_F8t (own_F1 a b) (own_F1 x y) (own_F3 a b) (own_F3 x y)) : own_F0_111_3 a b c d f x y i = 1 := by
  have h2 : i = own_F8t (own_F1 x y) (own_F1 a b) (own_F3 x y) (own_F3 a b) := by
    rw [h, own_t, own_t]
    by_cases q1 : own_F1 a b = own_F1 x y <;> by_cases q2 : own_F3 a b = own_F3 x y <;> simp [q1, q2, eq_comm]
  have e1 : ¬ own_F8s (own_F1 a b) (own_F3 a b) = 0 := show ¬ (1 : Int32) = 0 by decide
  have e2 : own_F8l = 0 := rfl
  have e3 : own_F8n = 0 := rfl
  unfold own_F0_111_3
  simp only [if_pos h.symm, if_pos h2.symm, if_neg e1, if_pos e2, if_pos e3, ite_self]
theorem own_law (a b c d : Int64) (f : Int32) : own_F0 a b c d f = 1 := by
  have k : ∀ x y, own_F0_44_2 a b c d f x y = 1 := by
    intro x y
    unfold own_F0_44_2
    split
    · next q1 =>
      split
      · next q2 => exact own_key _ _ _ _ _ _ _ _ (by rw [own_t, if_pos ⟨q1, q2⟩])
      · next q2 => exact own_key _ _ _ _ _ _ _ _ (by rw [own_t, if_neg (fun q => q2 q.2)])
    · next q1 => exact own_key _ _ _ _ _ _ _ _ (by rw [own_t, if_neg (fun q => q1 q.1)])
  unfold own_F0 own_F0_28_1
  repeat' split
  all_goals exact k _ _

set_option maxRecDepth 65536 in
set_option maxHeartbeats 40000000 in
theorem own_comes {Post : Tables → Env → Array Value → State → Outcome → State → Prop} (hpost : ∀ tb e args s v u, (limb_1_1.after args s (.returned v) u = true ∧ limb_1_2.after args s (.returned v) u = true ∧ True) → FrameEnd s (.returned v) u (Jvm.fieldLocs frame_1_writes args s ++ Jvm.arrayLocs frame_1_arrays args s ++ Jvm.staticLocs frame_1_statics s) 16 128 → Post tb e args s (.returned v) u) :
    ArmFor flags0 classFile x code maxLocals ret World_1 tables_1 room_1 Calls_1 rest_1 Pre_1 Post := by
  intro l hfl _ _ p e ha hc hk s m args below hf hA hF happ hP
  obtain ⟨hcalls, hrest, hpre⟩ := hP
  obtain ⟨-, -, -, hnamed, -, -, -, hat⟩ := (Spec.applies_iff hf).mp happ
  obtain ⟨hg, hn⟩ := and_e (Cond.before_iff.mp (show (Jvm.Cond.and given_1 narrow_1).before args s = true from hpre))
  obtain ⟨hg1, hg2⟩ := and_e hg
  obtain ⟨hg3, hg4⟩ := and_e hg2
  obtain ⟨hg5, hg6⟩ := and_e hg4
  obtain ⟨hg7, hg8⟩ := and_e hg6
  obtain ⟨hg9, hg10⟩ := and_e hg8
  obtain ⟨w0, w1, w2, w3, w4, rfl⟩ : ∃ w0 w1 w2 w3 w4 : Value, args = #[w0, w1, w2, w3, w4] := by
    have hs : args.size = 5 := by simpa [Cond.value, given_1] using hg1
    obtain ⟨L⟩ := args
    match L, hs with
    | [w0, w1, w2, w3, w4], _ => exact ⟨w0, w1, w2, w3, w4, rfl⟩
  have hw := fun d (hd : d ∈ tables_1) => atoms_spec (ws := Jvm.Cond.code x code maxLocals ret :: tables_1) hat d (List.mem_cons_of_mem _ hd)
  have hfit : Fit s := fun {y c} hc i hi => by
    obtain ⟨ha, rfl⟩ := Array.getElem?_eq_some_iff.mp hc
    have q := List.all_eq_true.mp ((Array.all_eq_true_iff_forall_mem.mp hF) _ (Array.getElem_mem ha)) i (List.mem_range.mpr hi)
    simpa [Array.getElem?_eq_getElem hi] using q
  obtain ⟨hsets, hown0⟩ := atoms_of _ (rest_1_c_eq ▸ (show rest_1_c.before _ s = true from hrest))
  have hr0 := Cond.before_iff.mp hown0
  obtain ⟨i0, ei0⟩ := isL_v hg3
  obtain rfl : w0 = (.long i0) := Option.some.inj ei0
  obtain ⟨i1, ei1⟩ := isL_v hg5
  obtain rfl : w1 = (.long i1) := Option.some.inj ei1
  obtain ⟨i2, ei2⟩ := isL_v hg7
  obtain rfl : w2 = (.long i2) := Option.some.inj ei2
  obtain ⟨i3, ei3⟩ := isL_v hg9
  obtain rfl : w3 = (.long i3) := Option.some.inj ei3
  obtain ⟨i4, ei4⟩ := is_v hg10
  obtain rfl : w4 = (.int i4) := Option.some.inj ei4
  obtain ⟨wLC, evLC⟩ := exa_v (Cond.before_iff.mp (hsets _ (List.mem_of_getElem? (i := 3) rfl)))
  have SLC : Sta s s.heap "java/lang/Long$LongCache" "cache" "[Ljava/lang/Long;" (.ref wLC) := Sta.start evLC (Or.inl (hsets _ (List.mem_of_getElem? (i := 1) rfl)))
  obtain ⟨cLC, ALC⟩ := Arr.start evLC (Cond.before_iff.mp (hsets _ (List.mem_of_getElem? (i := 2) rfl)))
  obtain ⟨l1LC, l2LC⟩ := own_len evLC ALC (eqv_i (Term.int_eval (256)) (Cond.before_iff.mp (hsets _ (List.mem_of_getElem? (i := 4) rfl))))
  have BLC : Bxs s wLC cLC "java/lang/Long" "J" (256 : Int32) (fun j => .long (j - 128).toInt64) := Bxs.start (fun _ => evLC) ALC l1LC l2LC (by decide) (Cond.before_iff.mp (hsets _ (List.mem_of_getElem? (i := 5) rfl))) (fun X j nn h => eqv_l (i2l_at (Term.sub_int (idx_at nn) (Term.int_eval (128)))) h)
  obtain ⟨n, o, h1, h2, h3, _, L, rfl, ⟨rfl, N⟩, hq⟩ := own_rm0 l s _ hw tables_1 i0 i1 i2 i3 i4 wLC cLC s.heap s.heap.size (Nat.le_refl _) (Old.start s) SLC BLC p e ha hc hk s m _ below hf ((Spec.applies_iff_loose hf).mp happ).1 ⟨rfl, State.Warmed39.refl s, rfl⟩ trivial
  refine ⟨n, _, h1, h2, h3, hpost _ _ _ _ _ _ ⟨Cond.after_iff.mpr rfl, Cond.after_iff.mpr (eq_i res_at (Term.int_eval (1)) (congrArg Value.int (own_law i0 i1 i2 i3 i4))), trivial⟩ ⟨hq.1, hq.2.1, (hq.2.2.sift fun y hy => Or.inr (N y hy)).mono (by decide) (by decide)⟩⟩
theorem main_1_1 : Claimed_1_1 := own_comes fun _ _ _ _ _ _ h hF => ⟨h.1, hF⟩
theorem main_1_2 : Claimed_1_2 := own_comes fun _ _ _ _ _ _ h hF => ⟨h.2.1, hF⟩
end Jvm.Pilot.@@N@@
namespace Jvm.Pilot.@@N@@
open Jvm Jvm.ClassFile Sem Op Lib Jvm.Free Jvm.Stand Jvm.Pilot.@@N@@.Jvm.D
/-! MADE BY PROGRAM (witnessworld.py) out of the Statement's table words and the real class files: 17 classes; the members and pool entries that the words name. The judged class is class 1, her method 3. -/
namespace start1
open Jvm.ClassFile
def u (s : String) : CpInfo := .utf8 (stringToUtf16 s)
/-- a pool by its gaps: so many unusable entries, then the entry; so many at the end -/
def gap : Nat → List CpInfo → List CpInfo
  | 0, r => r
  | n + 1, r => .unusable :: gap n r
def poolList (es : List (Nat × CpInfo)) (last : Nat) : List CpInfo := es.foldr (fun e r => gap e.1 (e.2 :: r)) (gap last [])
def pool (es : List (Nat × CpInfo)) (last : Nat) : Array CpInfo := ⟨poolList es last⟩
def fileOf (pool : Array CpInfo) (this : Nat) (attrs : Array Attribute := #[]) (ms : Array MethodInfo := #[]) (fl : Nat := 33) (sup : Nat := 0) (ifs : Array Nat := #[]) (fds : Array FieldInfo := #[]) : ClassFile where
  minorVersion := 0
  majorVersion := 65
  constantPool := pool
  accessFlags := fl
  thisClass := this
  superClass := sup
  interfaces := ifs
  fields := fds
  methods := ms
  attributes := attrs
def plain (name : String) (sup : Option ClassId) : Class where
  name := name
  kind := .ordinary
  loader := none
  accessFlags := 33
  super := sup
  interfaces := #[]
  cf := none
  fields := #[]
  methods := #[]
  instanceTypes := #[]
  staticTypes := #[]
  resolved := #[]
  callSites := []
  init := .initialized
  statics := none
  mirror := none

def pool0 : Array CpInfo := pool [(5, u "<init>"), (0, u "()V"), (1, .class_ 10), (1, u "java/lang/Object")] 113

def k0c0 : Code := { maxStack := 0, maxLocals := 1, code := object_method_1_code, exceptionTable := #[], attributes := #[] }
def k0m0 : Method := { name := "<init>", desc := "()V", sig := { parameters := [], returnType := none }, accessFlags := 1, code := some k0c0 }
/-- java/lang/Object -/
def k0 : Class := { plain "java/lang/Object" none with
  accessFlags := 33
  interfaces := #[]
  cf := some (fileOf pool0 8 #[] #[{ accessFlags := 1, nameIndex := 5, descriptorIndex := 6, attributes := #[] }] 33 0 #[] #[])
  fields := #[]
  methods := #[k0m0]
  instanceTypes := #[]
  staticTypes := #[]
  resolved := Array.replicate 124 none
  statics := none }

def pool1 : Array CpInfo := pool [(2, .class_ 4), (1, u "java/lang/Object"), (0, u "<init>"), (0, u "()V"), (0, .methodref 8 9), (0, .class_ 10), (0, .nameAndType 11 12), (0, u "java/lang/Math"), (0, u "min"), (0, u "(JJ)J"), (0, .class_ 14), (0, u "java/lang/Long"), (0, .long 9223372036854775807), (1, .methodref 8 18), (0, .nameAndType 19 12), (0, u "max"), (0, .methodref 21 22), (0, .class_ 23), (0, .nameAndType 24 12), (0, u "com/example/vasto/vasto/cluster/TokenRangeEqualsPinLaw"), (0, u "loOf"), (0, .methodref 21 26), (0, .nameAndType 27 12), (0, u "hiOf"), (0, .class_ 29), (0, u "com/example/vasto/vasto/cluster/TokenRange"), (0, .methodref 28 31), (0, .nameAndType 5 32), (0, u "(JJ)V"), (0, .methodref 13 34), (0, .nameAndType 35 36), (0, u "valueOf"), (0, u "(J)Ljava/lang/Long;"), (0, .methodref 28 38), (0, .nameAndType 39 40), (0, u "equals"), (0, u "(Ljava/lang/Object;)Z"), (3, u "law"), (0, u "(JJJJI)Z")] 2

def k1m0 : Method := { name := "<init>", desc := "()V", sig := { parameters := [], returnType := none }, accessFlags := 1, code := none }
def k1c1 : Code := { maxStack := 4, maxLocals := 6, code := method_2_code, exceptionTable := #[], attributes := #[] }
def k1m1 : Method := { name := "loOf", desc := "(JJ)J", sig := { parameters := [.long, .long], returnType := some .long }, accessFlags := 10, code := some k1c1 }
def k1c2 : Code := { maxStack := 4, maxLocals := 6, code := method_3_code, exceptionTable := #[], attributes := #[] }
def k1m2 : Method := { name := "hiOf", desc := "(JJ)J", sig := { parameters := [.long, .long], returnType := some .long }, accessFlags := 10, code := some k1c2 }
def k1c3 : Code := { maxStack := 6, maxLocals := 25, code := code, exceptionTable := #[], attributes := #[] }
def k1m3 : Method := { name := "law", desc := "(JJJJI)Z", sig := { parameters := [.long, .long, .long, .long, .int], returnType := some .boolean }, accessFlags := 9, code := some k1c3 }
/-- com/example/vasto/vasto/cluster/TokenRangeEqualsPinLaw -/
def k1 : Class := { plain "com/example/vasto/vasto/cluster/TokenRangeEqualsPinLaw" (some 0) with
  accessFlags := 49
  interfaces := #[]
  cf := some (fileOf pool1 21 #[] #[{ accessFlags := 1, nameIndex := 5, descriptorIndex := 6, attributes := #[] }, { accessFlags := 10, nameIndex := 24, descriptorIndex := 12, attributes := #[] }, { accessFlags := 10, nameIndex := 27, descriptorIndex := 12, attributes := #[] }, { accessFlags := 9, nameIndex := 44, descriptorIndex := 45, attributes := #[] }] 49 2 #[] #[])
  fields := #[]
  methods := #[k1m0, k1m1, k1m2, k1m3]
  instanceTypes := #[]
  staticTypes := #[]
  resolved := Array.replicate 48 none
  statics := none }

def pool2 : Array CpInfo := pool [(1, .class_ 2), (0, u "java/lang/Math"), (1, .class_ 6), (1, u "java/lang/Object"), (0, u "<init>"), (0, u "()V"), (89, .class_ 100), (1, u "java/lang/Math$RandomNumberGeneratorHolder"), (20, u "(JJ)J"), (50, u "negativeZeroFloatBits"), (0, u "J"), (2, u "negativeZeroDoubleBits"), (21, u "max"), (2, u "min"), (43, u "$assertionsDisabled"), (0, u "Z"), (91, u "twoToTheDoubleScaleDown"), (0, u "D"), (4, u "twoToTheDoubleScaleUp"), (9, u "E"), (3, u "PI"), (2, u "TAU"), (2, u "DEGREES_TO_RADIANS"), (0, u "RADIANS_TO_DEGREES")] 94

def k2m0 : Method := { name := "<init>", desc := "()V", sig := { parameters := [], returnType := none }, accessFlags := 2, code := none }
def k2c1 : Code := { maxStack := 4, maxLocals := 4, code := jdk_29_method_66_code, exceptionTable := #[], attributes := #[] }
def k2m1 : Method := { name := "max", desc := "(JJ)J", sig := { parameters := [.long, .long], returnType := some .long }, accessFlags := 9, code := some k2c1 }
def k2c2 : Code := { maxStack := 4, maxLocals := 4, code := jdk_29_method_70_code, exceptionTable := #[], attributes := #[] }
def k2m2 : Method := { name := "min", desc := "(JJ)J", sig := { parameters := [.long, .long], returnType := some .long }, accessFlags := 9, code := some k2c2 }
/-- java/lang/Math -/
def k2 : Class := { plain "java/lang/Math" (some 0) with
  accessFlags := 49
  interfaces := #[]
  cf := some (fileOf pool2 1 #[.nestMembers #[98]] #[{ accessFlags := 2, nameIndex := 7, descriptorIndex := 8, attributes := #[] }, { accessFlags := 9, nameIndex := 198, descriptorIndex := 121, attributes := #[] }, { accessFlags := 9, nameIndex := 201, descriptorIndex := 121, attributes := #[] }] 49 4 #[] #[{ accessFlags := 25, nameIndex := 354, descriptorIndex := 339, attributes := #[] }, { accessFlags := 25, nameIndex := 358, descriptorIndex := 339, attributes := #[] }, { accessFlags := 25, nameIndex := 361, descriptorIndex := 339, attributes := #[] }, { accessFlags := 26, nameIndex := 364, descriptorIndex := 339, attributes := #[] }, { accessFlags := 26, nameIndex := 365, descriptorIndex := 339, attributes := #[] }, { accessFlags := 26, nameIndex := 172, descriptorIndex := 173, attributes := #[] }, { accessFlags := 26, nameIndex := 176, descriptorIndex := 173, attributes := #[] }, { accessFlags := 8, nameIndex := 344, descriptorIndex := 339, attributes := #[] }, { accessFlags := 8, nameIndex := 338, descriptorIndex := 339, attributes := #[] }, { accessFlags := 4120, nameIndex := 245, descriptorIndex := 246, attributes := #[] }])
  fields := #[{ name := "E", type := .double, accessFlags := 25, slot := 0, constantValue := 0 }, { name := "PI", type := .double, accessFlags := 25, slot := 1, constantValue := 0 }, { name := "TAU", type := .double, accessFlags := 25, slot := 2, constantValue := 0 }, { name := "DEGREES_TO_RADIANS", type := .double, accessFlags := 26, slot := 3, constantValue := 0 }, { name := "RADIANS_TO_DEGREES", type := .double, accessFlags := 26, slot := 4, constantValue := 0 }, { name := "negativeZeroFloatBits", type := .long, accessFlags := 26, slot := 5, constantValue := 0 }, { name := "negativeZeroDoubleBits", type := .long, accessFlags := 26, slot := 6, constantValue := 0 }, { name := "twoToTheDoubleScaleUp", type := .double, accessFlags := 8, slot := 7, constantValue := 0 }, { name := "twoToTheDoubleScaleDown", type := .double, accessFlags := 8, slot := 8, constantValue := 0 }, { name := "$assertionsDisabled", type := .boolean, accessFlags := 4120, slot := 9, constantValue := 0 }]
  methods := #[k2m0, k2m1, k2m2]
  instanceTypes := #[]
  staticTypes := #[.double, .double, .double, .double, .double, .long, .long, .double, .double, .boolean]
  resolved := Array.replicate 460 none
  statics := none }

def pool3 : Array CpInfo := pool [(1, .methodref 2 3), (0, .class_ 4), (0, .nameAndType 5 6), (0, u "java/lang/Object"), (0, u "<init>"), (0, u "()V"), (9, .fieldref 17 18), (0, .class_ 19), (0, .nameAndType 20 21), (0, u "com/example/vasto/vasto/cluster/TokenRange"), (0, u "left"), (0, u "J"), (0, .fieldref 17 23), (0, .nameAndType 24 21), (0, u "right"), (19, u "(JJ)V"), (2, u "FULL"), (0, u "Lcom/example/vasto/vasto/cluster/TokenRange;"), (8, u "equals"), (0, u "(Ljava/lang/Object;)Z")] 23

def k3c0 : Code := { maxStack := 6, maxLocals := 5, code := prog_7_method_1_code, exceptionTable := #[], attributes := #[] }
def k3m0 : Method := { name := "<init>", desc := "(JJ)V", sig := { parameters := [.long, .long], returnType := none }, accessFlags := 1, code := some k3c0 }
def k3c1 : Code := { maxStack := 4, maxLocals := 3, code := prog_7_method_6_code, exceptionTable := #[], attributes := #[] }
def k3m1 : Method := { name := "equals", desc := "(Ljava/lang/Object;)Z", sig := { parameters := [(.object "java/lang/Object")], returnType := some .boolean }, accessFlags := 1, code := some k3c1 }
/-- com/example/vasto/vasto/cluster/TokenRange -/
def k3 : Class := { plain "com/example/vasto/vasto/cluster/TokenRange" (some 0) with
  accessFlags := 33
  interfaces := #[]
  cf := some (fileOf pool3 17 #[] #[{ accessFlags := 1, nameIndex := 5, descriptorIndex := 44, attributes := #[] }, { accessFlags := 1, nameIndex := 57, descriptorIndex := 58, attributes := #[] }] 33 2 #[] #[{ accessFlags := 25, nameIndex := 47, descriptorIndex := 48, attributes := #[] }, { accessFlags := 18, nameIndex := 20, descriptorIndex := 21, attributes := #[] }, { accessFlags := 18, nameIndex := 24, descriptorIndex := 21, attributes := #[] }])
  fields := #[{ name := "FULL", type := (.object "com/example/vasto/vasto/cluster/TokenRange"), accessFlags := 25, slot := 0, constantValue := 0 }, { name := "left", type := .long, accessFlags := 18, slot := 0, constantValue := 0 }, { name := "right", type := .long, accessFlags := 18, slot := 1, constantValue := 0 }]
  methods := #[k3m0, k3m1]
  instanceTypes := #[.long, .long]
  staticTypes := #[(.object "com/example/vasto/vasto/cluster/TokenRange")]
  resolved := Array.replicate 82 none
  statics := none }

def pool4 : Array CpInfo := pool [(1, .class_ 2), (0, u "java/io/Serializable"), (0, .class_ 4), (0, u "java/lang/Object")] 2

/-- java/io/Serializable -/
def k4 : Class := { plain "java/io/Serializable" (some 0) with
  accessFlags := 1537
  interfaces := #[]
  cf := some (fileOf pool4 1 #[] #[] 1537 3 #[] #[])
  fields := #[]
  methods := #[]
  instanceTypes := #[]
  staticTypes := #[]
  resolved := Array.replicate 7 none
  statics := none }

def pool5 : Array CpInfo := pool [(1, .methodref 2 3), (0, .class_ 4), (0, .nameAndType 5 6), (0, u "java/lang/Object"), (0, u "<init>"), (0, u "()V"), (1, .class_ 10), (1, u "java/lang/Number"), (2, .class_ 14), (0, u "java/io/Serializable"), (0, u "serialVersionUID"), (0, u "J")] 20

def k5c0 : Code := { maxStack := 1, maxLocals := 1, code := jdk_18_method_1_code, exceptionTable := #[], attributes := #[] }
def k5m0 : Method := { name := "<init>", desc := "()V", sig := { parameters := [], returnType := none }, accessFlags := 1, code := some k5c0 }
/-- java/lang/Number -/
def k5 : Class := { plain "java/lang/Number" (some 0) with
  accessFlags := 1057
  interfaces := #[4]
  cf := some (fileOf pool5 8 #[] #[{ accessFlags := 1, nameIndex := 5, descriptorIndex := 6, attributes := #[] }] 1057 2 #[13] #[{ accessFlags := 26, nameIndex := 15, descriptorIndex := 16, attributes := #[] }])
  fields := #[{ name := "serialVersionUID", type := .long, accessFlags := 26, slot := 0, constantValue := 0 }]
  methods := #[k5m0]
  instanceTypes := #[]
  staticTypes := #[.long]
  resolved := Array.replicate 37 none
  statics := none }

def pool6 : Array CpInfo := pool [(1, .class_ 2), (0, u "java/lang/Comparable"), (0, .class_ 4), (0, u "java/lang/Object")] 7

/-- java/lang/Comparable -/
def k6 : Class := { plain "java/lang/Comparable" (some 0) with
  accessFlags := 1537
  interfaces := #[]
  cf := some (fileOf pool6 1 #[] #[] 1537 3 #[] #[])
  fields := #[]
  methods := #[]
  instanceTypes := #[]
  staticTypes := #[]
  resolved := Array.replicate 12 none
  statics := none }

def pool7 : Array CpInfo := pool [(1, .class_ 2), (0, u "java/lang/constant/Constable"), (0, .class_ 4), (0, u "java/lang/Object")] 6

/-- java/lang/constant/Constable -/
def k7 : Class := { plain "java/lang/constant/Constable" (some 0) with
  accessFlags := 1537
  interfaces := #[]
  cf := some (fileOf pool7 1 #[] #[] 1537 3 #[] #[])
  fields := #[]
  methods := #[]
  instanceTypes := #[]
  staticTypes := #[]
  resolved := Array.replicate 11 none
  statics := none }

def pool8 : Array CpInfo := pool [(1, .class_ 2), (0, u "java/lang/constant/ConstantDesc"), (0, .class_ 4), (0, u "java/lang/Object")] 32

/-- java/lang/constant/ConstantDesc -/
def k8 : Class := { plain "java/lang/constant/ConstantDesc" (some 0) with
  accessFlags := 1537
  interfaces := #[]
  cf := some (fileOf pool8 1 #[] #[] 1537 3 #[] #[])
  fields := #[]
  methods := #[]
  instanceTypes := #[]
  staticTypes := #[]
  resolved := Array.replicate 37 none
  statics := none }

def pool9 : Array CpInfo := pool [(1, .class_ 2), (0, u "java/lang/Long"), (55, .nameAndType 59 60), (0, u "<init>"), (0, u "()V"), (24, u "valueOf"), (143, u "(J)Ljava/lang/Long;"), (0, .long 18446744073709551488), (1, .long 127), (1, .fieldref 235 236), (0, .class_ 237), (0, .nameAndType 238 239), (0, u "java/lang/Long$LongCache"), (0, u "cache"), (0, u "[Ljava/lang/Long;"), (0, .methodref 1 241), (0, .nameAndType 59 242), (0, u "(J)V"), (27, .methodref 271 58), (0, .class_ 272), (0, u "java/lang/Number"), (0, .fieldref 1 274), (0, .nameAndType 275 276), (0, u "value"), (0, u "J"), (84, u "TYPE"), (0, u "Ljava/lang/Class;"), (0, .class_ 364), (0, u "java/lang/Comparable"), (0, .class_ 366), (0, u "java/lang/constant/Constable"), (0, .class_ 368), (0, u "java/lang/constant/ConstantDesc"), (0, u "MIN_VALUE"), (1, u "MAX_VALUE"), (4, u "SIZE"), (0, u "I"), (1, u "BYTES"), (1, u "serialVersionUID")] 142

def k9c0 : Code := { maxStack := 4, maxLocals := 3, code := jdk_35_method_24_code, exceptionTable := #[], attributes := #[] }
def k9m0 : Method := { name := "valueOf", desc := "(J)Ljava/lang/Long;", sig := { parameters := [.long], returnType := some (.object "java/lang/Long") }, accessFlags := 9, code := some k9c0 }
def k9c1 : Code := { maxStack := 3, maxLocals := 3, code := jdk_35_method_26_code, exceptionTable := #[], attributes := #[] }
def k9m1 : Method := { name := "<init>", desc := "(J)V", sig := { parameters := [.long], returnType := none }, accessFlags := 1, code := some k9c1 }
/-- java/lang/Long -/
def k9 : Class := { plain "java/lang/Long" (some 5) with
  accessFlags := 49
  interfaces := #[6, 7, 8]
  cf := some (fileOf pool9 1 #[.nestMembers #[235]] #[{ accessFlags := 9, nameIndex := 85, descriptorIndex := 229, attributes := #[] }, { accessFlags := 1, nameIndex := 59, descriptorIndex := 242, attributes := #[] }] 49 271 #[363, 365, 367] #[{ accessFlags := 25, nameIndex := 369, descriptorIndex := 276, attributes := #[] }, { accessFlags := 25, nameIndex := 371, descriptorIndex := 276, attributes := #[] }, { accessFlags := 25, nameIndex := 361, descriptorIndex := 362, attributes := #[] }, { accessFlags := 18, nameIndex := 275, descriptorIndex := 276, attributes := #[] }, { accessFlags := 25, nameIndex := 376, descriptorIndex := 377, attributes := #[] }, { accessFlags := 25, nameIndex := 379, descriptorIndex := 377, attributes := #[] }, { accessFlags := 26, nameIndex := 381, descriptorIndex := 276, attributes := #[] }])
  fields := #[{ name := "MIN_VALUE", type := .long, accessFlags := 25, slot := 0, constantValue := 0 }, { name := "MAX_VALUE", type := .long, accessFlags := 25, slot := 1, constantValue := 0 }, { name := "TYPE", type := (.object "java/lang/Class"), accessFlags := 25, slot := 2, constantValue := 0 }, { name := "value", type := .long, accessFlags := 18, slot := 0, constantValue := 0 }, { name := "SIZE", type := .int, accessFlags := 25, slot := 3, constantValue := 0 }, { name := "BYTES", type := .int, accessFlags := 25, slot := 4, constantValue := 0 }, { name := "serialVersionUID", type := .long, accessFlags := 26, slot := 5, constantValue := 0 }]
  methods := #[k9m0, k9m1]
  instanceTypes := #[.long]
  staticTypes := #[.long, .long, (.object "java/lang/Class"), .int, .int, .long]
  resolved := Array.replicate 524 none
  statics := none }

def pool10 : Array CpInfo := pool [(2, .class_ 4), (1, u "java/lang/Object"), (0, u "<init>"), (0, u "()V"), (0, .class_ 8), (0, u "java/lang/Long"), (7, .class_ 18), (1, u "java/lang/Long$LongCache"), (0, u "$assertionsDisabled"), (0, u "Z"), (8, u "archivedCache"), (0, u "[Ljava/lang/Long;"), (7, u "cache")] 24

def k10m0 : Method := { name := "<init>", desc := "()V", sig := { parameters := [], returnType := none }, accessFlags := 2, code := none }
/-- java/lang/Long$LongCache -/
def k10 : Class := { plain "java/lang/Long$LongCache" (some 0) with
  accessFlags := 48
  interfaces := #[]
  cf := some (fileOf pool10 16 #[.nestHost 7] #[{ accessFlags := 2, nameIndex := 5, descriptorIndex := 6, attributes := #[] }] 48 2 #[] #[{ accessFlags := 24, nameIndex := 38, descriptorIndex := 30, attributes := #[] }, { accessFlags := 8, nameIndex := 29, descriptorIndex := 30, attributes := #[] }, { accessFlags := 4120, nameIndex := 19, descriptorIndex := 20, attributes := #[] }])
  fields := #[{ name := "cache", type := (.array (.object "java/lang/Long")), accessFlags := 24, slot := 0, constantValue := 0 }, { name := "archivedCache", type := (.array (.object "java/lang/Long")), accessFlags := 8, slot := 1, constantValue := 0 }, { name := "$assertionsDisabled", type := .boolean, accessFlags := 4120, slot := 2, constantValue := 0 }]
  methods := #[k10m0]
  instanceTypes := #[]
  staticTypes := #[(.array (.object "java/lang/Long")), (.array (.object "java/lang/Long")), .boolean]
  resolved := Array.replicate 63 none
  statics := some 0 }

def pool11 : Array CpInfo := pool [(1, u "java/lang/Cloneable"), (0, .class_ 1), (0, u "java/lang/Object"), (0, .class_ 3)] 3

/-- java/lang/Cloneable -/
def k11 : Class := { plain "java/lang/Cloneable" (some 0) with
  accessFlags := 1537
  interfaces := #[]
  cf := some (fileOf pool11 2 #[] #[] 1537 4 #[] #[])
  fields := #[]
  methods := #[]
  instanceTypes := #[]
  staticTypes := #[]
  resolved := Array.replicate 8 none
  statics := none }

/-- the primitive byte -/
def k12 : Class := { plain "byte" none with kind := .primitive 'B', accessFlags := 0x411 }
/-- [B -/
def k13 : Class := { plain "[B" (some 0) with kind := .array 12 .byte, interfaces := #[11, 4], accessFlags := 1041 }

/-- the primitive int -/
def k14 : Class := { plain "int" none with kind := .primitive 'I', accessFlags := 0x411 }
/-- [I -/
def k15 : Class := { plain "[I" (some 0) with kind := .array 14 .int, interfaces := #[11, 4], accessFlags := 1041 }

/-- [Ljava/lang/Long; -/
def k16 : Class := { plain "[Ljava/lang/Long;" (some 0) with kind := .array 9 (.object "java/lang/Long"), interfaces := #[11, 4], accessFlags := 1041 }

def heap : Heap := #[{ cls := 10, slots := #[.ref 1, .null, .int 0], vm := .statics 10 },
  { cls := 16, slots := #[.ref 2, .ref 3, .ref 4, .ref 5, .ref 6, .ref 7, .ref 8, .ref 9, .ref 10, .ref 11, .ref 12, .ref 13, .ref 14, .ref 15, .ref 16, .ref 17, .ref 18, .ref 19, .ref 20, .ref 21, .ref 22, .ref 23, .ref 24, .ref 25, .ref 26, .ref 27, .ref 28, .ref 29, .ref 30, .ref 31, .ref 32, .ref 33, .ref 34, .ref 35, .ref 36, .ref 37, .ref 38, .ref 39, .ref 40, .ref 41, .ref 42, .ref 43, .ref 44, .ref 45, .ref 46, .ref 47, .ref 48, .ref 49, .ref 50, .ref 51, .ref 52, .ref 53, .ref 54, .ref 55, .ref 56, .ref 57, .ref 58, .ref 59, .ref 60, .ref 61, .ref 62, .ref 63, .ref 64, .ref 65, .ref 66, .ref 67, .ref 68, .ref 69, .ref 70, .ref 71, .ref 72, .ref 73, .ref 74, .ref 75, .ref 76, .ref 77, .ref 78, .ref 79, .ref 80, .ref 81, .ref 82, .ref 83, .ref 84, .ref 85, .ref 86, .ref 87, .ref 88, .ref 89, .ref 90, .ref 91, .ref 92, .ref 93, .ref 94, .ref 95, .ref 96, .ref 97, .ref 98, .ref 99, .ref 100, .ref 101, .ref 102, .ref 103, .ref 104, .ref 105, .ref 106, .ref 107, .ref 108, .ref 109, .ref 110, .ref 111, .ref 112, .ref 113, .ref 114, .ref 115, .ref 116, .ref 117, .ref 118, .ref 119, .ref 120, .ref 121, .ref 122, .ref 123, .ref 124, .ref 125, .ref 126, .ref 127, .ref 128, .ref 129, .ref 130, .ref 131, .ref 132, .ref 133, .ref 134, .ref 135, .ref 136, .ref 137, .ref 138, .ref 139, .ref 140, .ref 141, .ref 142, .ref 143, .ref 144, .ref 145, .ref 146, .ref 147, .ref 148, .ref 149, .ref 150, .ref 151, .ref 152, .ref 153, .ref 154, .ref 155, .ref 156, .ref 157, .ref 158, .ref 159, .ref 160, .ref 161, .ref 162, .ref 163, .ref 164, .ref 165, .ref 166, .ref 167, .ref 168, .ref 169, .ref 170, .ref 171, .ref 172, .ref 173, .ref 174, .ref 175, .ref 176, .ref 177, .ref 178, .ref 179, .ref 180, .ref 181, .ref 182, .ref 183, .ref 184, .ref 185, .ref 186, .ref 187, .ref 188, .ref 189, .ref 190, .ref 191, .ref 192, .ref 193, .ref 194, .ref 195, .ref 196, .ref 197, .ref 198, .ref 199, .ref 200, .ref 201, .ref 202, .ref 203, .ref 204, .ref 205, .ref 206, .ref 207, .ref 208, .ref 209, .ref 210, .ref 211, .ref 212, .ref 213, .ref 214, .ref 215, .ref 216, .ref 217, .ref 218, .ref 219, .ref 220, .ref 221, .ref 222, .ref 223, .ref 224, .ref 225, .ref 226, .ref 227, .ref 228, .ref 229, .ref 230, .ref 231, .ref 232, .ref 233, .ref 234, .ref 235, .ref 236, .ref 237, .ref 238, .ref 239, .ref 240, .ref 241, .ref 242, .ref 243, .ref 244, .ref 245, .ref 246, .ref 247, .ref 248, .ref 249, .ref 250, .ref 251, .ref 252, .ref 253, .ref 254, .ref 255, .ref 256, .ref 257], vm := .none },
  { cls := 9, slots := #[.long (-128)], vm := .none },
  { cls := 9, slots := #[.long (-127)], vm := .none },
  { cls := 9, slots := #[.long (-126)], vm := .none },
  { cls := 9, slots := #[.long (-125)], vm := .none },
  { cls := 9, slots := #[.long (-124)], vm := .none },
  { cls := 9, slots := #[.long (-123)], vm := .none },
  { cls := 9, slots := #[.long (-122)], vm := .none },
  { cls := 9, slots := #[.long (-121)], vm := .none },
  { cls := 9, slots := #[.long (-120)], vm := .none },
  { cls := 9, slots := #[.long (-119)], vm := .none },
  { cls := 9, slots := #[.long (-118)], vm := .none },
  { cls := 9, slots := #[.long (-117)], vm := .none },
  { cls := 9, slots := #[.long (-116)], vm := .none },
  { cls := 9, slots := #[.long (-115)], vm := .none },
  { cls := 9, slots := #[.long (-114)], vm := .none },
  { cls := 9, slots := #[.long (-113)], vm := .none },
  { cls := 9, slots := #[.long (-112)], vm := .none },
  { cls := 9, slots := #[.long (-111)], vm := .none },
  { cls := 9, slots := #[.long (-110)], vm := .none },
  { cls := 9, slots := #[.long (-109)], vm := .none },
  { cls := 9, slots := #[.long (-108)], vm := .none },
  { cls := 9, slots := #[.long (-107)], vm := .none },
  { cls := 9, slots := #[.long (-106)], vm := .none },
  { cls := 9, slots := #[.long (-105)], vm := .none },
  { cls := 9, slots := #[.long (-104)], vm := .none },
  { cls := 9, slots := #[.long (-103)], vm := .none },
  { cls := 9, slots := #[.long (-102)], vm := .none },
  { cls := 9, slots := #[.long (-101)], vm := .none },
  { cls := 9, slots := #[.long (-100)], vm := .none },
  { cls := 9, slots := #[.long (-99)], vm := .none },
  { cls := 9, slots := #[.long (-98)], vm := .none },
  { cls := 9, slots := #[.long (-97)], vm := .none },
  { cls := 9, slots := #[.long (-96)], vm := .none },
  { cls := 9, slots := #[.long (-95)], vm := .none },
  { cls := 9, slots := #[.long (-94)], vm := .none },
  { cls := 9, slots := #[.long (-93)], vm := .none },
  { cls := 9, slots := #[.long (-92)], vm := .none },
  { cls := 9, slots := #[.long (-91)], vm := .none },
  { cls := 9, slots := #[.long (-90)], vm := .none },
  { cls := 9, slots := #[.long (-89)], vm := .none },
  { cls := 9, slots := #[.long (-88)], vm := .none },
  { cls := 9, slots := #[.long (-87)], vm := .none },
  { cls := 9, slots := #[.long (-86)], vm := .none },
  { cls := 9, slots := #[.long (-85)], vm := .none },
  { cls := 9, slots := #[.long (-84)], vm := .none },
  { cls := 9, slots := #[.long (-83)], vm := .none },
  { cls := 9, slots := #[.long (-82)], vm := .none },
  { cls := 9, slots := #[.long (-81)], vm := .none },
  { cls := 9, slots := #[.long (-80)], vm := .none },
  { cls := 9, slots := #[.long (-79)], vm := .none },
  { cls := 9, slots := #[.long (-78)], vm := .none },
  { cls := 9, slots := #[.long (-77)], vm := .none },
  { cls := 9, slots := #[.long (-76)], vm := .none },
  { cls := 9, slots := #[.long (-75)], vm := .none },
  { cls := 9, slots := #[.long (-74)], vm := .none },
  { cls := 9, slots := #[.long (-73)], vm := .none },
  { cls := 9, slots := #[.long (-72)], vm := .none },
  { cls := 9, slots := #[.long (-71)], vm := .none },
  { cls := 9, slots := #[.long (-70)], vm := .none },
  { cls := 9, slots := #[.long (-69)], vm := .none },
  { cls := 9, slots := #[.long (-68)], vm := .none },
  { cls := 9, slots := #[.long (-67)], vm := .none },
  { cls := 9, slots := #[.long (-66)], vm := .none },
  { cls := 9, slots := #[.long (-65)], vm := .none },
  { cls := 9, slots := #[.long (-64)], vm := .none },
  { cls := 9, slots := #[.long (-63)], vm := .none },
  { cls := 9, slots := #[.long (-62)], vm := .none },
  { cls := 9, slots := #[.long (-61)], vm := .none },
  { cls := 9, slots := #[.long (-60)], vm := .none },
  { cls := 9, slots := #[.long (-59)], vm := .none },
  { cls := 9, slots := #[.long (-58)], vm := .none },
  { cls := 9, slots := #[.long (-57)], vm := .none },
  { cls := 9, slots := #[.long (-56)], vm := .none },
  { cls := 9, slots := #[.long (-55)], vm := .none },
  { cls := 9, slots := #[.long (-54)], vm := .none },
  { cls := 9, slots := #[.long (-53)], vm := .none },
  { cls := 9, slots := #[.long (-52)], vm := .none },
  { cls := 9, slots := #[.long (-51)], vm := .none },
  { cls := 9, slots := #[.long (-50)], vm := .none },
  { cls := 9, slots := #[.long (-49)], vm := .none },
  { cls := 9, slots := #[.long (-48)], vm := .none },
  { cls := 9, slots := #[.long (-47)], vm := .none },
  { cls := 9, slots := #[.long (-46)], vm := .none },
  { cls := 9, slots := #[.long (-45)], vm := .none },
  { cls := 9, slots := #[.long (-44)], vm := .none },
  { cls := 9, slots := #[.long (-43)], vm := .none },
  { cls := 9, slots := #[.long (-42)], vm := .none },
  { cls := 9, slots := #[.long (-41)], vm := .none },
  { cls := 9, slots := #[.long (-40)], vm := .none },
  { cls := 9, slots := #[.long (-39)], vm := .none },
  { cls := 9, slots := #[.long (-38)], vm := .none },
  { cls := 9, slots := #[.long (-37)], vm := .none },
  { cls := 9, slots := #[.long (-36)], vm := .none },
  { cls := 9, slots := #[.long (-35)], vm := .none },
  { cls := 9, slots := #[.long (-34)], vm := .none },
  { cls := 9, slots := #[.long (-33)], vm := .none },
  { cls := 9, slots := #[.long (-32)], vm := .none },
  { cls := 9, slots := #[.long (-31)], vm := .none },
  { cls := 9, slots := #[.long (-30)], vm := .none },
  { cls := 9, slots := #[.long (-29)], vm := .none },
  { cls := 9, slots := #[.long (-28)], vm := .none },
  { cls := 9, slots := #[.long (-27)], vm := .none },
  { cls := 9, slots := #[.long (-26)], vm := .none },
  { cls := 9, slots := #[.long (-25)], vm := .none },
  { cls := 9, slots := #[.long (-24)], vm := .none },
  { cls := 9, slots := #[.long (-23)], vm := .none },
  { cls := 9, slots := #[.long (-22)], vm := .none },
  { cls := 9, slots := #[.long (-21)], vm := .none },
  { cls := 9, slots := #[.long (-20)], vm := .none },
  { cls := 9, slots := #[.long (-19)], vm := .none },
  { cls := 9, slots := #[.long (-18)], vm := .none },
  { cls := 9, slots := #[.long (-17)], vm := .none },
  { cls := 9, slots := #[.long (-16)], vm := .none },
  { cls := 9, slots := #[.long (-15)], vm := .none },
  { cls := 9, slots := #[.long (-14)], vm := .none },
  { cls := 9, slots := #[.long (-13)], vm := .none },
  { cls := 9, slots := #[.long (-12)], vm := .none },
  { cls := 9, slots := #[.long (-11)], vm := .none },
  { cls := 9, slots := #[.long (-10)], vm := .none },
  { cls := 9, slots := #[.long (-9)], vm := .none },
  { cls := 9, slots := #[.long (-8)], vm := .none },
  { cls := 9, slots := #[.long (-7)], vm := .none },
  { cls := 9, slots := #[.long (-6)], vm := .none },
  { cls := 9, slots := #[.long (-5)], vm := .none },
  { cls := 9, slots := #[.long (-4)], vm := .none },
  { cls := 9, slots := #[.long (-3)], vm := .none },
  { cls := 9, slots := #[.long (-2)], vm := .none },
  { cls := 9, slots := #[.long (-1)], vm := .none },
  { cls := 9, slots := #[.long 0], vm := .none },
  { cls := 9, slots := #[.long 1], vm := .none },
  { cls := 9, slots := #[.long 2], vm := .none },
  { cls := 9, slots := #[.long 3], vm := .none },
  { cls := 9, slots := #[.long 4], vm := .none },
  { cls := 9, slots := #[.long 5], vm := .none },
  { cls := 9, slots := #[.long 6], vm := .none },
  { cls := 9, slots := #[.long 7], vm := .none },
  { cls := 9, slots := #[.long 8], vm := .none },
  { cls := 9, slots := #[.long 9], vm := .none },
  { cls := 9, slots := #[.long 10], vm := .none },
  { cls := 9, slots := #[.long 11], vm := .none },
  { cls := 9, slots := #[.long 12], vm := .none },
  { cls := 9, slots := #[.long 13], vm := .none },
  { cls := 9, slots := #[.long 14], vm := .none },
  { cls := 9, slots := #[.long 15], vm := .none },
  { cls := 9, slots := #[.long 16], vm := .none },
  { cls := 9, slots := #[.long 17], vm := .none },
  { cls := 9, slots := #[.long 18], vm := .none },
  { cls := 9, slots := #[.long 19], vm := .none },
  { cls := 9, slots := #[.long 20], vm := .none },
  { cls := 9, slots := #[.long 21], vm := .none },
  { cls := 9, slots := #[.long 22], vm := .none },
  { cls := 9, slots := #[.long 23], vm := .none },
  { cls := 9, slots := #[.long 24], vm := .none },
  { cls := 9, slots := #[.long 25], vm := .none },
  { cls := 9, slots := #[.long 26], vm := .none },
  { cls := 9, slots := #[.long 27], vm := .none },
  { cls := 9, slots := #[.long 28], vm := .none },
  { cls := 9, slots := #[.long 29], vm := .none },
  { cls := 9, slots := #[.long 30], vm := .none },
  { cls := 9, slots := #[.long 31], vm := .none },
  { cls := 9, slots := #[.long 32], vm := .none },
  { cls := 9, slots := #[.long 33], vm := .none },
  { cls := 9, slots := #[.long 34], vm := .none },
  { cls := 9, slots := #[.long 35], vm := .none },
  { cls := 9, slots := #[.long 36], vm := .none },
  { cls := 9, slots := #[.long 37], vm := .none },
  { cls := 9, slots := #[.long 38], vm := .none },
  { cls := 9, slots := #[.long 39], vm := .none },
  { cls := 9, slots := #[.long 40], vm := .none },
  { cls := 9, slots := #[.long 41], vm := .none },
  { cls := 9, slots := #[.long 42], vm := .none },
  { cls := 9, slots := #[.long 43], vm := .none },
  { cls := 9, slots := #[.long 44], vm := .none },
  { cls := 9, slots := #[.long 45], vm := .none },
  { cls := 9, slots := #[.long 46], vm := .none },
  { cls := 9, slots := #[.long 47], vm := .none },
  { cls := 9, slots := #[.long 48], vm := .none },
  { cls := 9, slots := #[.long 49], vm := .none },
  { cls := 9, slots := #[.long 50], vm := .none },
  { cls := 9, slots := #[.long 51], vm := .none },
  { cls := 9, slots := #[.long 52], vm := .none },
  { cls := 9, slots := #[.long 53], vm := .none },
  { cls := 9, slots := #[.long 54], vm := .none },
  { cls := 9, slots := #[.long 55], vm := .none },
  { cls := 9, slots := #[.long 56], vm := .none },
  { cls := 9, slots := #[.long 57], vm := .none },
  { cls := 9, slots := #[.long 58], vm := .none },
  { cls := 9, slots := #[.long 59], vm := .none },
  { cls := 9, slots := #[.long 60], vm := .none },
  { cls := 9, slots := #[.long 61], vm := .none },
  { cls := 9, slots := #[.long 62], vm := .none },
  { cls := 9, slots := #[.long 63], vm := .none },
  { cls := 9, slots := #[.long 64], vm := .none },
  { cls := 9, slots := #[.long 65], vm := .none },
  { cls := 9, slots := #[.long 66], vm := .none },
  { cls := 9, slots := #[.long 67], vm := .none },
  { cls := 9, slots := #[.long 68], vm := .none },
  { cls := 9, slots := #[.long 69], vm := .none },
  { cls := 9, slots := #[.long 70], vm := .none },
  { cls := 9, slots := #[.long 71], vm := .none },
  { cls := 9, slots := #[.long 72], vm := .none },
  { cls := 9, slots := #[.long 73], vm := .none },
  { cls := 9, slots := #[.long 74], vm := .none },
  { cls := 9, slots := #[.long 75], vm := .none },
  { cls := 9, slots := #[.long 76], vm := .none },
  { cls := 9, slots := #[.long 77], vm := .none },
  { cls := 9, slots := #[.long 78], vm := .none },
  { cls := 9, slots := #[.long 79], vm := .none },
  { cls := 9, slots := #[.long 80], vm := .none },
  { cls := 9, slots := #[.long 81], vm := .none },
  { cls := 9, slots := #[.long 82], vm := .none },
  { cls := 9, slots := #[.long 83], vm := .none },
  { cls := 9, slots := #[.long 84], vm := .none },
  { cls := 9, slots := #[.long 85], vm := .none },
  { cls := 9, slots := #[.long 86], vm := .none },
  { cls := 9, slots := #[.long 87], vm := .none },
  { cls := 9, slots := #[.long 88], vm := .none },
  { cls := 9, slots := #[.long 89], vm := .none },
  { cls := 9, slots := #[.long 90], vm := .none },
  { cls := 9, slots := #[.long 91], vm := .none },
  { cls := 9, slots := #[.long 92], vm := .none },
  { cls := 9, slots := #[.long 93], vm := .none },
  { cls := 9, slots := #[.long 94], vm := .none },
  { cls := 9, slots := #[.long 95], vm := .none },
  { cls := 9, slots := #[.long 96], vm := .none },
  { cls := 9, slots := #[.long 97], vm := .none },
  { cls := 9, slots := #[.long 98], vm := .none },
  { cls := 9, slots := #[.long 99], vm := .none },
  { cls := 9, slots := #[.long 100], vm := .none },
  { cls := 9, slots := #[.long 101], vm := .none },
  { cls := 9, slots := #[.long 102], vm := .none },
  { cls := 9, slots := #[.long 103], vm := .none },
  { cls := 9, slots := #[.long 104], vm := .none },
  { cls := 9, slots := #[.long 105], vm := .none },
  { cls := 9, slots := #[.long 106], vm := .none },
  { cls := 9, slots := #[.long 107], vm := .none },
  { cls := 9, slots := #[.long 108], vm := .none },
  { cls := 9, slots := #[.long 109], vm := .none },
  { cls := 9, slots := #[.long 110], vm := .none },
  { cls := 9, slots := #[.long 111], vm := .none },
  { cls := 9, slots := #[.long 112], vm := .none },
  { cls := 9, slots := #[.long 113], vm := .none },
  { cls := 9, slots := #[.long 114], vm := .none },
  { cls := 9, slots := #[.long 115], vm := .none },
  { cls := 9, slots := #[.long 116], vm := .none },
  { cls := 9, slots := #[.long 117], vm := .none },
  { cls := 9, slots := #[.long 118], vm := .none },
  { cls := 9, slots := #[.long 119], vm := .none },
  { cls := 9, slots := #[.long 120], vm := .none },
  { cls := 9, slots := #[.long 121], vm := .none },
  { cls := 9, slots := #[.long 122], vm := .none },
  { cls := 9, slots := #[.long 123], vm := .none },
  { cls := 9, slots := #[.long 124], vm := .none },
  { cls := 9, slots := #[.long 125], vm := .none },
  { cls := 9, slots := #[.long 126], vm := .none },
  { cls := 9, slots := #[.long 127], vm := .none }]
def classes : Array Class := #[k0, k1, k2, k3, k4, k5, k6, k7, k8, k9, k10, k11, k12, k13, k14, k15, k16]
def interned : List (Array UInt16 × Addr) := []
def slotsUsed : Nat := 515
def theMethod : MethodId := ⟨1, 3⟩
def args0 : Array Value := #[.long 500, .long 6, .long 7, .long 8, .int 1]
def aboutOver (below : List Frame) : State where
  vm := { classes := classes, interned := interned.toArray }
  heap := heap
  slotsUsed := slotsUsed
  threads := #[{ frames := .invoking theMethod args0 :: below }]
def below0 : List Frame := [.native { method := ⟨0, 0⟩, args := #[] }]
def about1 : State := aboutOver below0
def p0 : Program := .bare "" "" ""
def e0 : Env := launch0.env 0 0 0
theorem w_frames : about1.frames = Frame.invoking theMethod args0 :: below0 := rfl
set_option maxRecDepth 65536 in
theorem w_args : argsFit about1.vm theMethod args0 = true := by decide +kernel
set_option maxRecDepth 65536 in
theorem w_heap : heapFits about1 = true := by decide +kernel
set_option maxRecDepth 65536 in
theorem w_runnable : about1.curStatus? = some .runnable := by decide +kernel
set_option maxRecDepth 65536 in
theorem w_alone : about1.alone = true := by decide +kernel
set_option maxRecDepth 65536 in
theorem w_named : about1.methodNamed? x = some theMethod := by decide +kernel
set_option maxRecDepth 65536 in
theorem w_hears : about1.hears theMethod below0 = true := by decide +kernel
set_option maxRecDepth 65536 in
theorem w_ripe : about1.ripe theMethod args0 below0 = true := by decide +kernel
theorem w_running : about1.status = .running := rfl
set_option maxRecDepth 65536 in
theorem w_room : about1.hasRoom e0.platform room_1 = true :=
  launch0.hasRoom_least _ room_1 (by decide +kernel) (by decide +kernel) (by decide +kernel) (by decide +kernel) (by decide +kernel) (by decide +kernel)
theorem allAtoms_all (ts : List Jvm.Cond) (a : Array Jvm.Value) (st : Jvm.State) : (allAtoms ts).before a st = ts.all (fun c => c.before a st) := by
  induction ts with
  | nil => rfl
  | cons c t ih =>
    show (Jvm.Cond.and c (allAtoms t)).before a st = _
    rw [Jvm.Cond.before_and, ih, List.all_cons]
def words1 : List Jvm.Cond := Jvm.Cond.code x code maxLocals ret :: tables_1
/-- a 'code' word, met by the world's own term for the bytes: nothing is compared byte by byte -/
theorem code_word {y : MethodName} {bytes : ByteArray} {mx : Nat} {rt : Option FieldType} {a : Array Value} {s : State} {m : MethodId} {meth : Method} {c : Code} (h1 : s.methodNamed? y = some m) (h2 : s.vm.method? m = some meth) (h3 : meth.code = some c) (h4 : c.code = bytes)
    (h5 : (c.maxLocals == mx && c.exceptionTable.isEmpty && decide (c.maxStack ≤ mostOperands) && decide (meth.sig.returnType = rt) && !meth.locks && decide (parseMethodDescriptor y.desc = some meth.sig)) = true) : (Jvm.Cond.code y bytes mx rt).before a s = true := by
  simp only [Bool.and_eq_true, beq_iff_eq, Bool.not_eq_true', decide_eq_true_eq] at h5
  obtain ⟨⟨⟨⟨⟨g1, g2⟩, g3⟩, g4⟩, g5⟩, g6⟩ := h5
  simp [Cond.before, Cond.holds, Cond.value, h1, h2, h3, h4, g1, g2, g3, g4, g5, g6]
def isCode : Jvm.Cond → Bool
  | .code _ _ _ _ => true
  | _ => false
theorem all_split {L : List Jvm.Cond} {P : Jvm.Cond → Bool} (h1 : L.all (fun c => isCode c || P c) = true) (h2 : ∀ c ∈ L.filter isCode, P c = true) : L.all P = true := by
  refine List.all_eq_true.mpr fun c hc => ?_
  have h := List.all_eq_true.mp h1 c hc
  rcases Bool.eq_false_or_eq_true (isCode c) with hi | hi
  · exact h2 c (List.mem_filter.mpr ⟨hc, hi⟩)
  · simpa [hi] using h
set_option maxRecDepth 65536 in
theorem w_c0 : (Jvm.Cond.code x code maxLocals ret).before args0 about1 = true := code_word (m := ⟨1, 3⟩) (meth := k1m3) (c := k1c3) (by decide +kernel) rfl rfl rfl (by decide +kernel)
set_option maxRecDepth 65536 in
theorem w_c1 : (Jvm.Cond.code ({ cls := "com/example/vasto/vasto/cluster/TokenRangeEqualsPinLaw", name := "loOf", desc := "(JJ)J" } : Jvm.MethodName) method_2_code (6 : Nat) (Option.some Jvm.ClassFile.FieldType.long)).before args0 about1 = true := code_word (m := ⟨1, 1⟩) (meth := k1m1) (c := k1c1) (by decide +kernel) rfl rfl rfl (by decide +kernel)
set_option maxRecDepth 65536 in
theorem w_c2 : (Jvm.Cond.code ({ cls := "java/lang/Math", name := "min", desc := "(JJ)J" } : Jvm.MethodName) jdk_29_method_70_code (4 : Nat) (Option.some Jvm.ClassFile.FieldType.long)).before args0 about1 = true := code_word (m := ⟨2, 2⟩) (meth := k2m2) (c := k2c2) (by decide +kernel) rfl rfl rfl (by decide +kernel)
set_option maxRecDepth 65536 in
theorem w_c3 : (Jvm.Cond.code ({ cls := "com/example/vasto/vasto/cluster/TokenRangeEqualsPinLaw", name := "hiOf", desc := "(JJ)J" } : Jvm.MethodName) method_3_code (6 : Nat) (Option.some Jvm.ClassFile.FieldType.long)).before args0 about1 = true := code_word (m := ⟨1, 2⟩) (meth := k1m2) (c := k1c2) (by decide +kernel) rfl rfl rfl (by decide +kernel)
set_option maxRecDepth 65536 in
theorem w_c4 : (Jvm.Cond.code ({ cls := "java/lang/Math", name := "max", desc := "(JJ)J" } : Jvm.MethodName) jdk_29_method_66_code (4 : Nat) (Option.some Jvm.ClassFile.FieldType.long)).before args0 about1 = true := code_word (m := ⟨2, 1⟩) (meth := k2m1) (c := k2c1) (by decide +kernel) rfl rfl rfl (by decide +kernel)
set_option maxRecDepth 65536 in
theorem w_c5 : (Jvm.Cond.code ({ cls := "com/example/vasto/vasto/cluster/TokenRange", name := "<init>", desc := "(JJ)V" } : Jvm.MethodName) prog_7_method_1_code (5 : Nat) (Option.none : Option Jvm.ClassFile.FieldType)).before args0 about1 = true := code_word (m := ⟨3, 0⟩) (meth := k3m0) (c := k3c0) (by decide +kernel) rfl rfl rfl (by decide +kernel)
set_option maxRecDepth 65536 in
theorem w_c6 : (Jvm.Cond.code ({ cls := "java/lang/Object", name := "<init>", desc := "()V" } : Jvm.MethodName) object_method_1_code (1 : Nat) (Option.none : Option Jvm.ClassFile.FieldType)).before args0 about1 = true := code_word (m := ⟨0, 0⟩) (meth := k0m0) (c := k0c0) (by decide +kernel) rfl rfl rfl (by decide +kernel)
set_option maxRecDepth 65536 in
theorem w_c7 : (Jvm.Cond.code ({ cls := "java/lang/Long", name := "valueOf", desc := "(J)Ljava/lang/Long;" } : Jvm.MethodName) jdk_35_method_24_code (3 : Nat) (Option.some (Jvm.ClassFile.FieldType.object "java/lang/Long"))).before args0 about1 = true := code_word (m := ⟨9, 0⟩) (meth := k9m0) (c := k9c0) (by decide +kernel) rfl rfl rfl (by decide +kernel)
set_option maxRecDepth 65536 in
theorem w_c8 : (Jvm.Cond.code ({ cls := "com/example/vasto/vasto/cluster/TokenRange", name := "equals", desc := "(Ljava/lang/Object;)Z" } : Jvm.MethodName) prog_7_method_6_code (3 : Nat) (Option.some Jvm.ClassFile.FieldType.boolean)).before args0 about1 = true := code_word (m := ⟨3, 1⟩) (meth := k3m1) (c := k3c1) (by decide +kernel) rfl rfl rfl (by decide +kernel)
set_option maxRecDepth 65536 in
theorem w_c9 : (Jvm.Cond.code ({ cls := "java/lang/Long", name := "<init>", desc := "(J)V" } : Jvm.MethodName) jdk_35_method_26_code (3 : Nat) (Option.none : Option Jvm.ClassFile.FieldType)).before args0 about1 = true := code_word (m := ⟨9, 1⟩) (meth := k9m1) (c := k9c1) (by decide +kernel) rfl rfl rfl (by decide +kernel)
set_option maxRecDepth 65536 in
theorem w_c10 : (Jvm.Cond.code ({ cls := "java/lang/Number", name := "<init>", desc := "()V" } : Jvm.MethodName) jdk_18_method_1_code (1 : Nat) (Option.none : Option Jvm.ClassFile.FieldType)).before args0 about1 = true := code_word (m := ⟨5, 0⟩) (meth := k5m0) (c := k5c0) (by decide +kernel) rfl rfl rfl (by decide +kernel)
def codes1 : List Jvm.Cond := [Jvm.Cond.code x code maxLocals ret, Jvm.Cond.code ({ cls := "com/example/vasto/vasto/cluster/TokenRangeEqualsPinLaw", name := "loOf", desc := "(JJ)J" } : Jvm.MethodName) method_2_code (6 : Nat) (Option.some Jvm.ClassFile.FieldType.long), Jvm.Cond.code ({ cls := "java/lang/Math", name := "min", desc := "(JJ)J" } : Jvm.MethodName) jdk_29_method_70_code (4 : Nat) (Option.some Jvm.ClassFile.FieldType.long), Jvm.Cond.code ({ cls := "com/example/vasto/vasto/cluster/TokenRangeEqualsPinLaw", name := "hiOf", desc := "(JJ)J" } : Jvm.MethodName) method_3_code (6 : Nat) (Option.some Jvm.ClassFile.FieldType.long), Jvm.Cond.code ({ cls := "java/lang/Math", name := "max", desc := "(JJ)J" } : Jvm.MethodName) jdk_29_method_66_code (4 : Nat) (Option.some Jvm.ClassFile.FieldType.long), Jvm.Cond.code ({ cls := "com/example/vasto/vasto/cluster/TokenRange", name := "<init>", desc := "(JJ)V" } : Jvm.MethodName) prog_7_method_1_code (5 : Nat) (Option.none : Option Jvm.ClassFile.FieldType), Jvm.Cond.code ({ cls := "java/lang/Object", name := "<init>", desc := "()V" } : Jvm.MethodName) object_method_1_code (1 : Nat) (Option.none : Option Jvm.ClassFile.FieldType), Jvm.Cond.code ({ cls := "java/lang/Long", name := "valueOf", desc := "(J)Ljava/lang/Long;" } : Jvm.MethodName) jdk_35_method_24_code (3 : Nat) (Option.some (Jvm.ClassFile.FieldType.object "java/lang/Long")), Jvm.Cond.code ({ cls := "com/example/vasto/vasto/cluster/TokenRange", name := "equals", desc := "(Ljava/lang/Object;)Z" } : Jvm.MethodName) prog_7_method_6_code (3 : Nat) (Option.some Jvm.ClassFile.FieldType.boolean), Jvm.Cond.code ({ cls := "java/lang/Long", name := "<init>", desc := "(J)V" } : Jvm.MethodName) jdk_35_method_26_code (3 : Nat) (Option.none : Option Jvm.ClassFile.FieldType), Jvm.Cond.code ({ cls := "java/lang/Number", name := "<init>", desc := "()V" } : Jvm.MethodName) jdk_18_method_1_code (1 : Nat) (Option.none : Option Jvm.ClassFile.FieldType)]
set_option maxRecDepth 65536 in
theorem codes_eq : words1.filter isCode = codes1 := rfl
theorem w_codes : ∀ c ∈ words1.filter isCode, c.before args0 about1 = true := by
  rw [codes_eq]
  intro c hc
  simp only [codes1, List.mem_cons, List.not_mem_nil, or_false] at hc
  rcases hc with rfl | rfl | rfl | rfl | rfl | rfl | rfl | rfl | rfl | rfl | rfl
  · exact w_c0
  · exact w_c1
  · exact w_c2
  · exact w_c3
  · exact w_c4
  · exact w_c5
  · exact w_c6
  · exact w_c7
  · exact w_c8
  · exact w_c9
  · exact w_c10
set_option maxRecDepth 65536 in
theorem w_t1 : (words1.take 24).all (fun c => isCode c || c.before args0 about1) = true := by decide +kernel
set_option maxRecDepth 65536 in
theorem w_t2 : ((words1.drop 24).take 24).all (fun c => isCode c || c.before args0 about1) = true := by decide +kernel
set_option maxRecDepth 65536 in
theorem w_t3 : ((words1.drop 24).drop 24).all (fun c => isCode c || c.before args0 about1) = true := by decide +kernel
theorem w_tables : (allAtoms (Jvm.Cond.code x code maxLocals ret :: tables_1)).before args0 about1 = true := by
  rw [allAtoms_all]
  show words1.all (fun c => c.before args0 about1) = true
  refine all_split ?_ w_codes
  rw [← List.take_append_drop 24 words1, List.all_append, w_t1, ← List.take_append_drop 24 (words1.drop 24), List.all_append, w_t2, w_t3]
  rfl
set_option maxRecDepth 65536 in
theorem w_rest : rest_1_c.before args0 about1 = true := by decide +kernel
set_option maxRecDepth 65536 in
theorem w_case : (Jvm.Cond.and given_1 narrow_1).before args0 about1 = true := by decide +kernel
theorem w_applies : (headSpec (Jvm.Cond.code x code maxLocals ret :: tables_1) room_1).applies x e0.platform about1 = true :=
  (Spec.applies_iff w_frames).mpr ⟨w_running, w_runnable, w_alone, w_named, w_hears, w_ripe, w_room, w_tables⟩
theorem atStart : AtStart classFile x code maxLocals ret World_1 tables_1 room_1 Calls_1 rest_1 Pre_1 launch0 p0 e0 about1 theMethod args0 below0 :=
  ⟨lists_1, trivial, launch0.admits_env _ _ _, launch0.least_env, fairChoices_fair.cas, fairChoices_fair.clock, w_frames, w_args, w_heap, w_applies, trivial, w_rest, w_case⟩
end start1
theorem witness_1 : WitnessClaimed_1 := ⟨start1.p0, start1.e0, start1.about1, start1.theMethod, start1.args0, start1.below0, start1.atStart⟩
end Jvm.Pilot.@@N@@
