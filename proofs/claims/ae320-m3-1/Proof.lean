import JvmDerived
import JvmDerived.Pilot.@@N@@Statement
import JvmDerived.Pilot.@@N@@Code
set_option linter.unusedVariables false
set_option linter.unusedSimpArgs false
namespace Jvm.Pilot.@@N@@
open Jvm Jvm.ClassFile Sem Op Lib Jvm.Free Jvm.Stand Jvm.LawKit Jvm.RoadKit Bundle Jvm.Pilot.@@N@@.Jvm.D
/-- from the frame g at T the run reaches a state of which P holds -/
def own_Go (p : Program) (e : Env) (below : List Frame) (P : State → Outcome → Prop) (T : State) (g : JFrame) : Prop := ∃ t o, Steps p.tables e below (T.setTop g) t ∧ P t o
/-- the run has left the method: what it returned, the heap and the places written are as Q says -/
def own_P (s : State) (below : List Frame) (R : Room) (Q : Option Value → Heap → List Loc → Prop) (t : State) (o : Outcome) : Prop := t.status = .running ∧ Ended t below o ∧ ∃ v L, o = .returned v ∧ Q v t.heap L ∧ FrameEnd s o t L R.cells R.slots
section OwnKit
variable {p : Program} {l : Launch} {e : Env} {R : Room} {s : State} {m : MethodId} {args : Array Value} {below : List Frame} {meth : Method} {c : Code} {T T' : State} {locs : List Loc} {cells slots : Nat} {P : State → Outcome → Prop} {g g' : JFrame}
theorem own_by (k : ∀ t, Steps p.tables e below (T'.setTop g') t → Steps p.tables e below (T.setTop g) t) (h : own_Go p e below P T' g') : own_Go p e below P T g := by
  obtain ⟨t, o, st, q⟩ := h
  exact ⟨t, o, k t st, q⟩
theorem own_via (k : Steps p.tables e below (T.setTop g) (T'.setTop g')) (h : own_Go p e below P T' g') : own_Go p e below P T g := own_by (fun _ st => k.trans st) h
theorem own_in (q : g = g') (h : own_Go p e below P T g') : own_Go p e below P T g := q ▸ h
theorem own_out {v : Option Value} {Q : Option Value → Heap → List Loc → Prop} (X : Stand p l e R s m args below meth c T locs cells slots) (hv : meth.sig.returnType = none → v = none) (hlk : meth.locks = false) (hc : cells ≤ R.cells) (hs : slots ≤ R.slots) (q : Q v T.heap locs)
    (k : ∀ fs, (∀ (f : JFrame) (acts : List Action), f.method = m → f.locked = none → f.entered = [] → (doReturn e (T.setTop f) acts v).1 = T.setFrames fs) → Steps p.tables e below (T.setTop g) (T.setFrames fs)) : own_Go p e below (own_P s below R Q) T g := by
  obtain ⟨fs, hr, hrun, hended, hW, hsame⟩ := X.leave (v := v) hv hlk
  exact ⟨_, _, k fs hr, hrun, hended, _, _, rfl, q, ⟨_, rfl⟩, hW, hsame.mono hc hs⟩
theorem own_some {t : FieldType} {w : Value} (h : meth.sig.returnType = some t) : meth.sig.returnType = none → some w = none := fun q => by rw [h] at q; cases q
theorem own_retN {pc : Nat} {Ls : Array Slot} {z : Int32} {t : FieldType} {rest : List Value} {Q : Option Value → Heap → List Loc → Prop} (X : Stand p l e R s m args below meth c T locs cells slots) (hx : p.tables.exec = Jvm.exec) (hret : meth.sig.returnType = some t) (ht : t = .boolean ∨ t = .byte ∨ t = .char ∨ t = .short)
    (hd : decode c.code pc = .ok (.ireturn, 1)) (hlk : meth.locks = false) (hc : cells ≤ R.cells) (hs : slots ≤ R.slots) (q : Q (some (.int (nar t z))) T.heap locs) : own_Go p e below (own_P s below R Q) T (mkF m pc Ls (.int z :: rest)) :=
  own_out X (own_some hret) hlk hc hs q fun _ hr => retN X hx hret ht hd hr
theorem own_retI {pc : Nat} {Ls : Array Slot} {z : Int32} {rest : List Value} {Q : Option Value → Heap → List Loc → Prop} (X : Stand p l e R s m args below meth c T locs cells slots) (hx : p.tables.exec = Jvm.exec) (hret : meth.sig.returnType = some .int)
    (hd : decode c.code pc = .ok (.ireturn, 1)) (hlk : meth.locks = false) (hc : cells ≤ R.cells) (hs : slots ≤ R.slots) (q : Q (some (.int z)) T.heap locs) : own_Go p e below (own_P s below R Q) T (mkF m pc Ls (.int z :: rest)) :=
  own_out X (own_some hret) hlk hc hs q fun _ hr => retOut X hx hret rfl (Or.inl ⟨rfl, Or.inl rfl, _, rfl⟩) hd hr
theorem own_retJ {pc : Nat} {Ls : Array Slot} {z : Int64} {rest : List Value} {Q : Option Value → Heap → List Loc → Prop} (X : Stand p l e R s m args below meth c T locs cells slots) (hx : p.tables.exec = Jvm.exec) (hret : meth.sig.returnType = some .long)
    (hd : decode c.code pc = .ok (.lreturn, 1)) (hlk : meth.locks = false) (hc : cells ≤ R.cells) (hs : slots ≤ R.slots) (q : Q (some (.long z)) T.heap locs) : own_Go p e below (own_P s below R Q) T (mkF m pc Ls (.long z :: rest)) :=
  own_out X (own_some hret) hlk hc hs q fun _ hr => retOut X hx hret rfl (Or.inr (Or.inl ⟨rfl, rfl, _, rfl⟩)) hd hr
theorem own_retR {pc : Nat} {Ls : Array Slot} {w : Value} {t : FieldType} {rest : List Value} {Q : Option Value → Heap → List Loc → Prop} (X : Stand p l e R s m args below meth c T locs cells slots) (hx : p.tables.exec = Jvm.exec) (hret : meth.sig.returnType = some t) (ht : t.isReference = true) (hw : w.isRef = true) (hn : narrow t w = w)
    (hd : decode c.code pc = .ok (.areturn, 1)) (hlk : meth.locks = false) (hc : cells ≤ R.cells) (hs : slots ≤ R.slots) (q : Q (some w) T.heap locs) : own_Go p e below (own_P s below R Q) T (mkF m pc Ls (w :: rest)) :=
  own_out X (own_some hret) hlk hc hs q fun _ hr => retOut X hx hret hn (Or.inr (Or.inr (Or.inr (Or.inr ⟨rfl, ht, hw⟩)))) hd hr
theorem own_ret0 {pc : Nat} {Ls : Array Slot} {Q : Option Value → Heap → List Loc → Prop} (X : Stand p l e R s m args below meth c T locs cells slots) (hx : p.tables.exec = Jvm.exec) (hret : meth.sig.returnType = none)
    (hd : decode c.code pc = .ok (.return_, 1)) (hlk : meth.locks = false) (hc : cells ≤ R.cells) (hs : slots ≤ R.slots) (q : Q none T.heap locs) : own_Go p e below (own_P s below R Q) T (mkF m pc Ls []) :=
  own_out X (fun _ => rfl) hlk hc hs q fun _ hr => X.returnOut hx hret hd hr
theorem own_fitsR {C : String} {v : Value} (h : v.isRef = true) : fits (.object C) v = true := by
  cases v <;> first | rfl | (simp [Value.isRef] at h)
theorem own_tab (xs : List Int32) (d : Int32) (k : Nat) : (xs.map Value.int).getD k (.int d) = .int (xs.getD k d) := by
  simp only [List.getD_eq_getElem?_getD, List.getElem?_map]
  cases xs[k]? <;> rfl
end OwnKit
theorem own_len {s : State} {args : Array Value} {t : Term} {a : Addr} {cl : Cell} {ty : FieldType} {z : Int32} (ht : t.eval args s none [] s = some (.ref a)) (A : Arr s s.heap a cl ty) (h : (Term.length t).eval args s none [] s = some (.int z)) : cl.slots.size < 2 ^ 31 ∧ cl.slots.size.toInt32 = z := by
  have hl : cl.slots.size < 2 ^ 31 := Jvm.Free.SBG.length_lt ht (A.fin (Vm.Alike.refl _)) h
  exact ⟨hl, Value.int.inj (Option.some.inj ((len_f ht (A.fin (Vm.Alike.refl _)) hl).symm.trans h))⟩
theorem own_elem {s : State} {args : Array Value} {t u : Term} {a w : Addr} {cl : Cell} {ty : FieldType} {j : Int32} (ht : t.eval args s none [] s = some (.ref a)) (hu : u.eval args s none [] s = some (.ref w)) (A : Arr s s.heap a cl ty) (h : (Cond.eq (.elem t (.int j)) u).value args s none s [] = some true) : cl.slots[j.toNatClampNeg]? = some (.ref w) := by
  obtain ⟨x, y, e1, e2, k1, k2⟩ := cmp_v (Or.inl h)
  cases hu.symm.trans e2
  have hx : x.isRef = true := k2.2
  have e := gotT (eq_R e1 e2 hx rfl) h
  rw [e] at e1
  exact (elem_in e1 ht (Term.int_eval j) A.1).2
def own_EN1 (Z : State) (w_VALUES : Addr) (wGOSSIP : Addr) (wSCHEMA_PUSH : Addr) (wSCHEMA_PULL : Addr) (wMUTATION : Addr) (wREAD : Addr) (wRANGE_READ : Addr) (kw_VALUES : ClassId) : Prop := Arv Z Z.heap w_VALUES kw_VALUES (.object "com/example/vasto/vasto/messaging/Verb") (6 : Int32) [(.ref wGOSSIP), (.ref wSCHEMA_PUSH), (.ref wSCHEMA_PULL), (.ref wMUTATION), (.ref wREAD), (.ref wRANGE_READ)] .null ∧ Sta Z Z.heap "com/example/vasto/vasto/messaging/Verb" "$VALUES" "[Lcom/example/vasto/vasto/messaging/Verb;" (.ref w_VALUES) ∧ Exa Z Z.heap w_VALUES "[Lcom/example/vasto/vasto/messaging/Verb;"
def own_EN2 (Z : State) (wGOSSIP : Addr) : Prop := Sta Z Z.heap "com/example/vasto/vasto/messaging/Verb" "GOSSIP" "Lcom/example/vasto/vasto/messaging/Verb;" (.ref wGOSSIP) ∧ Exa Z Z.heap wGOSSIP "com/example/vasto/vasto/messaging/Verb" ∧ Fld Z Z.heap wGOSSIP "com/example/vasto/vasto/messaging/Verb" "code" "I" (.int (1 : Int32))
def own_EN3 (Z : State) (wSCHEMA_PUSH : Addr) : Prop := Sta Z Z.heap "com/example/vasto/vasto/messaging/Verb" "SCHEMA_PUSH" "Lcom/example/vasto/vasto/messaging/Verb;" (.ref wSCHEMA_PUSH) ∧ Exa Z Z.heap wSCHEMA_PUSH "com/example/vasto/vasto/messaging/Verb" ∧ Fld Z Z.heap wSCHEMA_PUSH "com/example/vasto/vasto/messaging/Verb" "code" "I" (.int (2 : Int32))
def own_EN4 (Z : State) (wSCHEMA_PULL : Addr) : Prop := Sta Z Z.heap "com/example/vasto/vasto/messaging/Verb" "SCHEMA_PULL" "Lcom/example/vasto/vasto/messaging/Verb;" (.ref wSCHEMA_PULL) ∧ Exa Z Z.heap wSCHEMA_PULL "com/example/vasto/vasto/messaging/Verb" ∧ Fld Z Z.heap wSCHEMA_PULL "com/example/vasto/vasto/messaging/Verb" "code" "I" (.int (3 : Int32))
def own_EN5 (Z : State) (wMUTATION : Addr) : Prop := Sta Z Z.heap "com/example/vasto/vasto/messaging/Verb" "MUTATION" "Lcom/example/vasto/vasto/messaging/Verb;" (.ref wMUTATION) ∧ Exa Z Z.heap wMUTATION "com/example/vasto/vasto/messaging/Verb" ∧ Fld Z Z.heap wMUTATION "com/example/vasto/vasto/messaging/Verb" "code" "I" (.int (4 : Int32))
def own_EN6 (Z : State) (wREAD : Addr) : Prop := Sta Z Z.heap "com/example/vasto/vasto/messaging/Verb" "READ" "Lcom/example/vasto/vasto/messaging/Verb;" (.ref wREAD) ∧ Exa Z Z.heap wREAD "com/example/vasto/vasto/messaging/Verb" ∧ Fld Z Z.heap wREAD "com/example/vasto/vasto/messaging/Verb" "code" "I" (.int (5 : Int32))
def own_EN7 (Z : State) (wRANGE_READ : Addr) : Prop := Sta Z Z.heap "com/example/vasto/vasto/messaging/Verb" "RANGE_READ" "Lcom/example/vasto/vasto/messaging/Verb;" (.ref wRANGE_READ) ∧ Exa Z Z.heap wRANGE_READ "com/example/vasto/vasto/messaging/Verb" ∧ Fld Z Z.heap wRANGE_READ "com/example/vasto/vasto/messaging/Verb" "code" "I" (.int (6 : Int32))
def own_EN (Z : State) (w_VALUES : Addr) (wGOSSIP : Addr) (wSCHEMA_PUSH : Addr) (wSCHEMA_PULL : Addr) (wMUTATION : Addr) (wREAD : Addr) (wRANGE_READ : Addr) (kw_VALUES : ClassId) : Prop := own_EN1 Z w_VALUES wGOSSIP wSCHEMA_PUSH wSCHEMA_PULL wMUTATION wREAD wRANGE_READ kw_VALUES ∧ own_EN2 Z wGOSSIP ∧ own_EN3 Z wSCHEMA_PUSH ∧ own_EN4 Z wSCHEMA_PULL ∧ own_EN5 Z wMUTATION ∧ own_EN6 Z wREAD ∧ own_EN7 Z wRANGE_READ
theorem d1_0 : decode method_3_code 0 = .ok (.iload_n 0, 1) := by decide +kernel
theorem d1_1 : decode method_3_code 1 = .ok (.iconst 1, 1) := by decide +kernel
theorem d1_2 : decode method_3_code 2 = .ok (.if_icmp .ne 7, 3) := by decide +kernel
theorem d1_5 : decode method_3_code 5 = .ok (.getstatic 22, 3) := by decide +kernel
theorem d1_8 : decode method_3_code 8 = .ok (.areturn, 1) := by decide +kernel
theorem d1_9 : decode method_3_code 9 = .ok (.iload_n 0, 1) := by decide +kernel
theorem d1_10 : decode method_3_code 10 = .ok (.iconst 2, 1) := by decide +kernel
theorem d1_11 : decode method_3_code 11 = .ok (.if_icmp .ne 7, 3) := by decide +kernel
theorem d1_14 : decode method_3_code 14 = .ok (.getstatic 26, 3) := by decide +kernel
theorem d1_17 : decode method_3_code 17 = .ok (.areturn, 1) := by decide +kernel
theorem d1_18 : decode method_3_code 18 = .ok (.iload_n 0, 1) := by decide +kernel
theorem d1_19 : decode method_3_code 19 = .ok (.iconst 3, 1) := by decide +kernel
theorem d1_20 : decode method_3_code 20 = .ok (.if_icmp .ne 7, 3) := by decide +kernel
theorem d1_23 : decode method_3_code 23 = .ok (.getstatic 29, 3) := by decide +kernel
theorem d1_26 : decode method_3_code 26 = .ok (.areturn, 1) := by decide +kernel
theorem d1_27 : decode method_3_code 27 = .ok (.iload_n 0, 1) := by decide +kernel
theorem d1_28 : decode method_3_code 28 = .ok (.iconst 4, 1) := by decide +kernel
theorem d1_29 : decode method_3_code 29 = .ok (.if_icmp .ne 7, 3) := by decide +kernel
theorem d1_32 : decode method_3_code 32 = .ok (.getstatic 32, 3) := by decide +kernel
theorem d1_35 : decode method_3_code 35 = .ok (.areturn, 1) := by decide +kernel
theorem d1_36 : decode method_3_code 36 = .ok (.iload_n 0, 1) := by decide +kernel
theorem d1_37 : decode method_3_code 37 = .ok (.iconst 5, 1) := by decide +kernel
theorem d1_38 : decode method_3_code 38 = .ok (.if_icmp .ne 7, 3) := by decide +kernel
theorem d1_41 : decode method_3_code 41 = .ok (.getstatic 35, 3) := by decide +kernel
theorem d1_44 : decode method_3_code 44 = .ok (.areturn, 1) := by decide +kernel
theorem d1_45 : decode method_3_code 45 = .ok (.iload_n 0, 1) := by decide +kernel
theorem d1_46 : decode method_3_code 46 = .ok (.bipush 6, 2) := by decide +kernel
theorem d1_48 : decode method_3_code 48 = .ok (.if_icmp .ne 7, 3) := by decide +kernel
theorem d1_51 : decode method_3_code 51 = .ok (.getstatic 38, 3) := by decide +kernel
theorem d1_54 : decode method_3_code 54 = .ok (.areturn, 1) := by decide +kernel
theorem d1_55 : decode method_3_code 55 = .ok (.aconst_null, 1) := by decide +kernel
theorem d1_56 : decode method_3_code 56 = .ok (.areturn, 1) := by decide +kernel
theorem pn_com_example_vasto_vasto_messaging_VerbOfPinLaw : plainName "com/example/vasto/vasto/messaging/VerbOfPinLaw" = true := by first | (simp [plainName, overriddenIn]; done) | decide +kernel
def own_F1 (p1_0 : Int32) (w_VALUES : Addr) (wGOSSIP : Addr) (wSCHEMA_PUSH : Addr) (wSCHEMA_PULL : Addr) (wMUTATION : Addr) (wREAD : Addr) (wRANGE_READ : Addr) (kw_VALUES : ClassId) : Value := (if p1_0 = (1 : Int32) then (.ref wGOSSIP) else (if p1_0 = (2 : Int32) then (.ref wSCHEMA_PUSH) else (if p1_0 = (3 : Int32) then (.ref wSCHEMA_PULL) else (if p1_0 = (4 : Int32) then (.ref wMUTATION) else (if p1_0 = (5 : Int32) then (.ref wREAD) else (if p1_0 = (6 : Int32) then (.ref wRANGE_READ) else .null))))))
theorem own_ef1 (m : MethodId) (x0 : Int32) : entryFrame m #[(.int x0)] 1 = mkF m 0 #[.val (.int x0)] [] := by first | (simp [entryFrame, mkF, argsToLocals, Value.category]; done) | rfl
def own_Q1 (r : Value) (h0 : Heap) (n0 : Nat) (v : Option Value) (h : Heap) (L : List Loc) : Prop := v = some r ∧ Fr n0 L ∧ h = h0
set_option maxRecDepth 65536 in
set_option maxHeartbeats 40000000 in
theorem own_rm1 (l : Launch) (Z : State) (a0 : Array Value) (hw : ∀ d ∈ tables_1, d.before a0 Z = true) (ws : List Jvm.Cond) (p1_0 : Int32) (w_VALUES : Addr) (wGOSSIP : Addr) (wSCHEMA_PUSH : Addr) (wSCHEMA_PULL : Addr) (wMUTATION : Addr) (wREAD : Addr) (wRANGE_READ : Addr) (kw_VALUES : ClassId) (h0 : Heap) (n0 : Nat) (Z0 : n0 ≤ h0.size) (O0 : Old Z n0 h0) (EN : own_EN Z w_VALUES wGOSSIP wSCHEMA_PUSH wSCHEMA_PULL wMUTATION wREAD wRANGE_READ kw_VALUES) :
    MetFree l (⟨"com/example/vasto/vasto/messaging/VerbOfPinLaw", "expectedOf", "(I)Lcom/example/vasto/vasto/messaging/Verb;"⟩ : MethodName) (head1 (Jvm.Cond.code (⟨"com/example/vasto/vasto/messaging/VerbOfPinLaw", "expectedOf", "(I)Lcom/example/vasto/vasto/messaging/Verb;"⟩ : MethodName) method_3_code 1 (some (.object "com/example/vasto/vasto/messaging/Verb")) :: ws) ({ frames := 0, cells := 0, slots := 0, locals := 0 } : Room)) (fun a U => a = #[(.int p1_0)] ∧ Z.Warmed39 U.vm ∧ U.heap = h0) (fun _ _ _ _ _ => True) (fun _ U o U' => ∃ v L, o = .returned v ∧ own_Q1 (own_F1 p1_0 w_VALUES wGOSSIP wSCHEMA_PUSH wSCHEMA_PULL wMUTATION wREAD wRANGE_READ kw_VALUES) h0 n0 v U'.heap L ∧ FrameEnd U o U' L ({ frames := 0, cells := 0, slots := 0, locals := 0 } : Room).cells ({ frames := 0, cells := 0, slots := 0, locals := 0 } : Room).slots) := by
  refine MetFree.of_bodySF (plainFor_of_name pn_com_example_vasto_vasto_messaging_VerbOfPinLaw) hisR ?_
  intro p e s m args below meth c s₁ Bd hml0 hP hK
  obtain ⟨rfl, hZ, hh⟩ := hP
  have hx := Bd.exec
  have hby := Bd.bytes
  have hlk : meth.locks = false := BodyLoose.notSynchronized Bd
  have hml : c.maxLocals = 1 := hml0
  have hown : s.vm.findClass "com/example/vasto/vasto/messaging/VerbOfPinLaw" = some m.cls := findClass_of_methodNamed Bd.named
  have hnm := (name_of_methodNamed Bd.named Bd.method).1
  have X0 : Stand p l e ({ frames := 0, cells := 0, slots := 0, locals := 0 } : Room) s m #[(.int p1_0)] below meth c s₁ [] 0 0 := Stand.of_body Bd
  have e0 : s₁.heap = h0 := by rw [← hh, Bd.state]; rfl
  have N0 := Fr.nil n0
  show own_Go p e below (own_P s below ({ frames := 0, cells := 0, slots := 0, locals := 0 } : Room) (own_Q1 (own_F1 p1_0 w_VALUES wGOSSIP wSCHEMA_PUSH wSCHEMA_PULL wMUTATION wREAD wRANGE_READ kw_VALUES) h0 n0)) s₁ (entryFrame m #[(.int p1_0)] 1)
  refine own_in (own_ef1 m p1_0) ?_
  refine own_by (T' := s₁) (g' := (mkF m 2 #[.val (.int p1_0)] [(.int (1 : Int32)), (.int p1_0)])) (fun t k => ?_) ?_
  · show Steps p.tables e below (s₁.setTop (mkF m 0 #[.val (.int p1_0)] [])) t
    refine XS.iloadN X0.here hx rfl (hb hby d1_0) rfl ?_
    show Steps p.tables e below (s₁.setTop (mkF m 1 #[.val (.int p1_0)] [(.int p1_0)])) t
    refine XS.iconst X0.here hx rfl (hb hby d1_1) ?_
    show Steps p.tables e below (s₁.setTop (mkF m 2 #[.val (.int p1_0)] [(.int (1 : Int32)), (.int p1_0)])) t
    exact k
  by_cases hc1 : p1_0 = (1 : Int32)
  · skip
    refine own_by (T' := s₁) (g' := (mkF m 5 #[.val (.int p1_0)] [])) (fun t k => ?_) ?_
    · show Steps p.tables e below (s₁.setTop (mkF m 2 #[.val (.int p1_0)] [(.int (1 : Int32)), (.int p1_0)])) t
      refine XS.icmpNo X0.here hx rfl (hb hby d1_2) rfl (teq hc1).2 ?_
      show Steps p.tables e below (s₁.setTop (mkF m 5 #[.val (.int p1_0)] [])) t
      exact k
    obtain ⟨T2, X2, e2, st2⟩ := getS2 X0 hx hZ hown (host := "") (Or.inl (hw _ (List.mem_of_getElem? (i := 40) rfl))) Via.refl e0 (EN.2.1.1.ext O0.2) (g := (mkF m 5 #[.val (.int p1_0)] [])) rfl (hb hby d1_5)
    refine own_by (T' := T2) (g' := (mkF m 8 #[.val (.int p1_0)] [(.ref wGOSSIP)])) st2 ?_
    rw [show own_F1 p1_0 w_VALUES wGOSSIP wSCHEMA_PUSH wSCHEMA_PULL wMUTATION wREAD wRANGE_READ kw_VALUES = (.ref wGOSSIP) from ((if_pos hc1).trans rfl)]
    exact own_retR X2 hx Bd.returns rfl rfl rfl (hb hby d1_8) hlk (by decide) (by decide) ⟨rfl, N0, e2⟩
  · skip
    refine own_by (T' := s₁) (g' := (mkF m 11 #[.val (.int p1_0)] [(.int (2 : Int32)), (.int p1_0)])) (fun t k => ?_) ?_
    · show Steps p.tables e below (s₁.setTop (mkF m 2 #[.val (.int p1_0)] [(.int (1 : Int32)), (.int p1_0)])) t
      refine XS.icmpYes X0.here hx rfl (pc0 := 2) (pc' := 9) rfl (hb hby d1_2) rfl (feq hc1).2 (by decide) (by decide) ?_
      show Steps p.tables e below (s₁.setTop (mkF m 9 #[.val (.int p1_0)] [])) t
      refine XS.iloadN X0.here hx rfl (hb hby d1_9) rfl ?_
      show Steps p.tables e below (s₁.setTop (mkF m 10 #[.val (.int p1_0)] [(.int p1_0)])) t
      refine XS.iconst X0.here hx rfl (hb hby d1_10) ?_
      show Steps p.tables e below (s₁.setTop (mkF m 11 #[.val (.int p1_0)] [(.int (2 : Int32)), (.int p1_0)])) t
      exact k
    by_cases hc3 : p1_0 = (2 : Int32)
    · skip
      refine own_by (T' := s₁) (g' := (mkF m 14 #[.val (.int p1_0)] [])) (fun t k => ?_) ?_
      · show Steps p.tables e below (s₁.setTop (mkF m 11 #[.val (.int p1_0)] [(.int (2 : Int32)), (.int p1_0)])) t
        refine XS.icmpNo X0.here hx rfl (hb hby d1_11) rfl (teq hc3).2 ?_
        show Steps p.tables e below (s₁.setTop (mkF m 14 #[.val (.int p1_0)] [])) t
        exact k
      obtain ⟨T4, X4, e4, st4⟩ := getS2 X0 hx hZ hown (host := "") (Or.inl (hw _ (List.mem_of_getElem? (i := 41) rfl))) Via.refl e0 (EN.2.2.1.1.ext O0.2) (g := (mkF m 14 #[.val (.int p1_0)] [])) rfl (hb hby d1_14)
      refine own_by (T' := T4) (g' := (mkF m 17 #[.val (.int p1_0)] [(.ref wSCHEMA_PUSH)])) st4 ?_
      rw [show own_F1 p1_0 w_VALUES wGOSSIP wSCHEMA_PUSH wSCHEMA_PULL wMUTATION wREAD wRANGE_READ kw_VALUES = (.ref wSCHEMA_PUSH) from ((if_neg hc1).trans ((if_pos hc3).trans rfl))]
      exact own_retR X4 hx Bd.returns rfl rfl rfl (hb hby d1_17) hlk (by decide) (by decide) ⟨rfl, N0, e4⟩
    · skip
      refine own_by (T' := s₁) (g' := (mkF m 20 #[.val (.int p1_0)] [(.int (3 : Int32)), (.int p1_0)])) (fun t k => ?_) ?_
      · show Steps p.tables e below (s₁.setTop (mkF m 11 #[.val (.int p1_0)] [(.int (2 : Int32)), (.int p1_0)])) t
        refine XS.icmpYes X0.here hx rfl (pc0 := 11) (pc' := 18) rfl (hb hby d1_11) rfl (feq hc3).2 (by decide) (by decide) ?_
        show Steps p.tables e below (s₁.setTop (mkF m 18 #[.val (.int p1_0)] [])) t
        refine XS.iloadN X0.here hx rfl (hb hby d1_18) rfl ?_
        show Steps p.tables e below (s₁.setTop (mkF m 19 #[.val (.int p1_0)] [(.int p1_0)])) t
        refine XS.iconst X0.here hx rfl (hb hby d1_19) ?_
        show Steps p.tables e below (s₁.setTop (mkF m 20 #[.val (.int p1_0)] [(.int (3 : Int32)), (.int p1_0)])) t
        exact k
      by_cases hc5 : p1_0 = (3 : Int32)
      · skip
        refine own_by (T' := s₁) (g' := (mkF m 23 #[.val (.int p1_0)] [])) (fun t k => ?_) ?_
        · show Steps p.tables e below (s₁.setTop (mkF m 20 #[.val (.int p1_0)] [(.int (3 : Int32)), (.int p1_0)])) t
          refine XS.icmpNo X0.here hx rfl (hb hby d1_20) rfl (teq hc5).2 ?_
          show Steps p.tables e below (s₁.setTop (mkF m 23 #[.val (.int p1_0)] [])) t
          exact k
        obtain ⟨T6, X6, e6, st6⟩ := getS2 X0 hx hZ hown (host := "") (Or.inl (hw _ (List.mem_of_getElem? (i := 39) rfl))) Via.refl e0 (EN.2.2.2.1.1.ext O0.2) (g := (mkF m 23 #[.val (.int p1_0)] [])) rfl (hb hby d1_23)
        refine own_by (T' := T6) (g' := (mkF m 26 #[.val (.int p1_0)] [(.ref wSCHEMA_PULL)])) st6 ?_
        rw [show own_F1 p1_0 w_VALUES wGOSSIP wSCHEMA_PUSH wSCHEMA_PULL wMUTATION wREAD wRANGE_READ kw_VALUES = (.ref wSCHEMA_PULL) from ((if_neg hc1).trans ((if_neg hc3).trans ((if_pos hc5).trans rfl)))]
        exact own_retR X6 hx Bd.returns rfl rfl rfl (hb hby d1_26) hlk (by decide) (by decide) ⟨rfl, N0, e6⟩
      · skip
        refine own_by (T' := s₁) (g' := (mkF m 29 #[.val (.int p1_0)] [(.int (4 : Int32)), (.int p1_0)])) (fun t k => ?_) ?_
        · show Steps p.tables e below (s₁.setTop (mkF m 20 #[.val (.int p1_0)] [(.int (3 : Int32)), (.int p1_0)])) t
          refine XS.icmpYes X0.here hx rfl (pc0 := 20) (pc' := 27) rfl (hb hby d1_20) rfl (feq hc5).2 (by decide) (by decide) ?_
          show Steps p.tables e below (s₁.setTop (mkF m 27 #[.val (.int p1_0)] [])) t
          refine XS.iloadN X0.here hx rfl (hb hby d1_27) rfl ?_
          show Steps p.tables e below (s₁.setTop (mkF m 28 #[.val (.int p1_0)] [(.int p1_0)])) t
          refine XS.iconst X0.here hx rfl (hb hby d1_28) ?_
          show Steps p.tables e below (s₁.setTop (mkF m 29 #[.val (.int p1_0)] [(.int (4 : Int32)), (.int p1_0)])) t
          exact k
        by_cases hc7 : p1_0 = (4 : Int32)
        · skip
          refine own_by (T' := s₁) (g' := (mkF m 32 #[.val (.int p1_0)] [])) (fun t k => ?_) ?_
          · show Steps p.tables e below (s₁.setTop (mkF m 29 #[.val (.int p1_0)] [(.int (4 : Int32)), (.int p1_0)])) t
            refine XS.icmpNo X0.here hx rfl (hb hby d1_29) rfl (teq hc7).2 ?_
            show Steps p.tables e below (s₁.setTop (mkF m 32 #[.val (.int p1_0)] [])) t
            exact k
          obtain ⟨T8, X8, e8, st8⟩ := getS2 X0 hx hZ hown (host := "") (Or.inl (hw _ (List.mem_of_getElem? (i := 37) rfl))) Via.refl e0 (EN.2.2.2.2.1.1.ext O0.2) (g := (mkF m 32 #[.val (.int p1_0)] [])) rfl (hb hby d1_32)
          refine own_by (T' := T8) (g' := (mkF m 35 #[.val (.int p1_0)] [(.ref wMUTATION)])) st8 ?_
          rw [show own_F1 p1_0 w_VALUES wGOSSIP wSCHEMA_PUSH wSCHEMA_PULL wMUTATION wREAD wRANGE_READ kw_VALUES = (.ref wMUTATION) from ((if_neg hc1).trans ((if_neg hc3).trans ((if_neg hc5).trans ((if_pos hc7).trans rfl))))]
          exact own_retR X8 hx Bd.returns rfl rfl rfl (hb hby d1_35) hlk (by decide) (by decide) ⟨rfl, N0, e8⟩
        · skip
          refine own_by (T' := s₁) (g' := (mkF m 38 #[.val (.int p1_0)] [(.int (5 : Int32)), (.int p1_0)])) (fun t k => ?_) ?_
          · show Steps p.tables e below (s₁.setTop (mkF m 29 #[.val (.int p1_0)] [(.int (4 : Int32)), (.int p1_0)])) t
            refine XS.icmpYes X0.here hx rfl (pc0 := 29) (pc' := 36) rfl (hb hby d1_29) rfl (feq hc7).2 (by decide) (by decide) ?_
            show Steps p.tables e below (s₁.setTop (mkF m 36 #[.val (.int p1_0)] [])) t
            refine XS.iloadN X0.here hx rfl (hb hby d1_36) rfl ?_
            show Steps p.tables e below (s₁.setTop (mkF m 37 #[.val (.int p1_0)] [(.int p1_0)])) t
            refine XS.iconst X0.here hx rfl (hb hby d1_37) ?_
            show Steps p.tables e below (s₁.setTop (mkF m 38 #[.val (.int p1_0)] [(.int (5 : Int32)), (.int p1_0)])) t
            exact k
          by_cases hc9 : p1_0 = (5 : Int32)
          · skip
            refine own_by (T' := s₁) (g' := (mkF m 41 #[.val (.int p1_0)] [])) (fun t k => ?_) ?_
            · show Steps p.tables e below (s₁.setTop (mkF m 38 #[.val (.int p1_0)] [(.int (5 : Int32)), (.int p1_0)])) t
              refine XS.icmpNo X0.here hx rfl (hb hby d1_38) rfl (teq hc9).2 ?_
              show Steps p.tables e below (s₁.setTop (mkF m 41 #[.val (.int p1_0)] [])) t
              exact k
            obtain ⟨T10, X10, e10, st10⟩ := getS2 X0 hx hZ hown (host := "") (Or.inl (hw _ (List.mem_of_getElem? (i := 38) rfl))) Via.refl e0 (EN.2.2.2.2.2.1.1.ext O0.2) (g := (mkF m 41 #[.val (.int p1_0)] [])) rfl (hb hby d1_41)
            refine own_by (T' := T10) (g' := (mkF m 44 #[.val (.int p1_0)] [(.ref wREAD)])) st10 ?_
            rw [show own_F1 p1_0 w_VALUES wGOSSIP wSCHEMA_PUSH wSCHEMA_PULL wMUTATION wREAD wRANGE_READ kw_VALUES = (.ref wREAD) from ((if_neg hc1).trans ((if_neg hc3).trans ((if_neg hc5).trans ((if_neg hc7).trans ((if_pos hc9).trans rfl)))))]
            exact own_retR X10 hx Bd.returns rfl rfl rfl (hb hby d1_44) hlk (by decide) (by decide) ⟨rfl, N0, e10⟩
          · skip
            refine own_by (T' := s₁) (g' := (mkF m 48 #[.val (.int p1_0)] [(.int (6 : Int32)), (.int p1_0)])) (fun t k => ?_) ?_
            · show Steps p.tables e below (s₁.setTop (mkF m 38 #[.val (.int p1_0)] [(.int (5 : Int32)), (.int p1_0)])) t
              refine XS.icmpYes X0.here hx rfl (pc0 := 38) (pc' := 45) rfl (hb hby d1_38) rfl (feq hc9).2 (by decide) (by decide) ?_
              show Steps p.tables e below (s₁.setTop (mkF m 45 #[.val (.int p1_0)] [])) t
              refine XS.iloadN X0.here hx rfl (hb hby d1_45) rfl ?_
              show Steps p.tables e below (s₁.setTop (mkF m 46 #[.val (.int p1_0)] [(.int p1_0)])) t
              refine XS.bipush X0.here hx rfl (hb hby d1_46) ?_
              show Steps p.tables e below (s₁.setTop (mkF m 48 #[.val (.int p1_0)] [(.int (6 : Int32)), (.int p1_0)])) t
              exact k
            by_cases hc11 : p1_0 = (6 : Int32)
            · skip
              refine own_by (T' := s₁) (g' := (mkF m 51 #[.val (.int p1_0)] [])) (fun t k => ?_) ?_
              · show Steps p.tables e below (s₁.setTop (mkF m 48 #[.val (.int p1_0)] [(.int (6 : Int32)), (.int p1_0)])) t
                refine XS.icmpNo X0.here hx rfl (hb hby d1_48) rfl (teq hc11).2 ?_
                show Steps p.tables e below (s₁.setTop (mkF m 51 #[.val (.int p1_0)] [])) t
                exact k
              obtain ⟨T12, X12, e12, st12⟩ := getS2 X0 hx hZ hown (host := "") (Or.inl (hw _ (List.mem_of_getElem? (i := 31) rfl))) Via.refl e0 (EN.2.2.2.2.2.2.1.ext O0.2) (g := (mkF m 51 #[.val (.int p1_0)] [])) rfl (hb hby d1_51)
              refine own_by (T' := T12) (g' := (mkF m 54 #[.val (.int p1_0)] [(.ref wRANGE_READ)])) st12 ?_
              rw [show own_F1 p1_0 w_VALUES wGOSSIP wSCHEMA_PUSH wSCHEMA_PULL wMUTATION wREAD wRANGE_READ kw_VALUES = (.ref wRANGE_READ) from ((if_neg hc1).trans ((if_neg hc3).trans ((if_neg hc5).trans ((if_neg hc7).trans ((if_neg hc9).trans ((if_pos hc11).trans rfl))))))]
              exact own_retR X12 hx Bd.returns rfl rfl rfl (hb hby d1_54) hlk (by decide) (by decide) ⟨rfl, N0, e12⟩
            · skip
              refine own_by (T' := s₁) (g' := (mkF m 56 #[.val (.int p1_0)] [.null])) (fun t k => ?_) ?_
              · show Steps p.tables e below (s₁.setTop (mkF m 48 #[.val (.int p1_0)] [(.int (6 : Int32)), (.int p1_0)])) t
                refine XS.icmpYes X0.here hx rfl (pc0 := 48) (pc' := 55) rfl (hb hby d1_48) rfl (feq hc11).2 (by decide) (by decide) ?_
                show Steps p.tables e below (s₁.setTop (mkF m 55 #[.val (.int p1_0)] [])) t
                refine XS.aconstNull X0.here hx rfl (hb hby d1_55) ?_
                show Steps p.tables e below (s₁.setTop (mkF m 56 #[.val (.int p1_0)] [.null])) t
                exact k
              rw [show own_F1 p1_0 w_VALUES wGOSSIP wSCHEMA_PUSH wSCHEMA_PULL wMUTATION wREAD wRANGE_READ kw_VALUES = .null from ((if_neg hc1).trans ((if_neg hc3).trans ((if_neg hc5).trans ((if_neg hc7).trans ((if_neg hc9).trans ((if_neg hc11).trans rfl))))))]
              exact own_retR X0 hx Bd.returns rfl rfl rfl (hb hby d1_56) hlk (by decide) (by decide) ⟨rfl, N0, e0⟩
theorem d3_0 : decode prog_20_method_1_code 0 = .ok (.getstatic 22, 3) := by decide +kernel
theorem d3_3 : decode prog_20_method_1_code 3 = .ok (.invokevirtual 26, 3) := by decide +kernel
theorem d3_6 : decode prog_20_method_1_code 6 = .ok (.checkcast 27, 3) := by decide +kernel
theorem d3_9 : decode prog_20_method_1_code 9 = .ok (.areturn, 1) := by decide +kernel
theorem pn_com_example_vasto_vasto_messaging_Verb : plainName "com/example/vasto/vasto/messaging/Verb" = true := by first | (simp [plainName, overriddenIn]; done) | decide +kernel
theorem own_ef3 (m : MethodId)  : entryFrame m #[] 0 = mkF m 0 #[] [] := by first | (simp [entryFrame, mkF, argsToLocals, Value.category]; done) | rfl
def own_Q3 (Z : State) (w_VALUES : Addr) (wGOSSIP : Addr) (wSCHEMA_PUSH : Addr) (wSCHEMA_PULL : Addr) (wMUTATION : Addr) (wREAD : Addr) (wRANGE_READ : Addr) (kw_VALUES : ClassId) (h0 : Heap) (n0 : Nat) (v : Option Value) (h : Heap) (L : List Loc) : Prop := ∃ b : Addr, v = some (.ref b) ∧ Fr n0 L ∧ Keep h0 h [] ∧ h0.size ≤ b ∧ n0 ≤ b ∧ Arv Z h b kw_VALUES (.object "com/example/vasto/vasto/messaging/Verb") (6 : Int32) [(.ref wGOSSIP), (.ref wSCHEMA_PUSH), (.ref wSCHEMA_PULL), (.ref wMUTATION), (.ref wREAD), (.ref wRANGE_READ)] .null ∧ Exa Z h b "[Lcom/example/vasto/vasto/messaging/Verb;"
set_option maxRecDepth 65536 in
set_option maxHeartbeats 40000000 in
theorem own_rm3 (l : Launch) (Z : State) (a0 : Array Value) (hw : ∀ d ∈ tables_1, d.before a0 Z = true) (ws : List Jvm.Cond) (w_VALUES : Addr) (wGOSSIP : Addr) (wSCHEMA_PUSH : Addr) (wSCHEMA_PULL : Addr) (wMUTATION : Addr) (wREAD : Addr) (wRANGE_READ : Addr) (kw_VALUES : ClassId) (h0 : Heap) (n0 : Nat) (Z0 : n0 ≤ h0.size) (O0 : Old Z n0 h0) (EN : own_EN Z w_VALUES wGOSSIP wSCHEMA_PUSH wSCHEMA_PULL wMUTATION wREAD wRANGE_READ kw_VALUES) :
    MetFree l (⟨"com/example/vasto/vasto/messaging/Verb", "values", "()[Lcom/example/vasto/vasto/messaging/Verb;"⟩ : MethodName) (head1 (Jvm.Cond.code (⟨"com/example/vasto/vasto/messaging/Verb", "values", "()[Lcom/example/vasto/vasto/messaging/Verb;"⟩ : MethodName) prog_20_method_1_code 0 (some (.array (.object "com/example/vasto/vasto/messaging/Verb"))) :: ws) ({ frames := 1, cells := 1, slots := 6, locals := 14 } : Room)) (fun a U => a = #[] ∧ Z.Warmed39 U.vm ∧ U.heap = h0) (fun _ _ _ _ _ => True) (fun _ U o U' => ∃ v L, o = .returned v ∧ own_Q3 Z w_VALUES wGOSSIP wSCHEMA_PUSH wSCHEMA_PULL wMUTATION wREAD wRANGE_READ kw_VALUES h0 n0 v U'.heap L ∧ FrameEnd U o U' L ({ frames := 1, cells := 1, slots := 6, locals := 14 } : Room).cells ({ frames := 1, cells := 1, slots := 6, locals := 14 } : Room).slots) := by
  refine MetFree.of_bodySF (plainFor_of_name pn_com_example_vasto_vasto_messaging_Verb) hisR ?_
  intro p e s m args below meth c s₁ Bd hml0 hP hK
  obtain ⟨rfl, hZ, hh⟩ := hP
  have hx := Bd.exec
  have hby := Bd.bytes
  have hlk : meth.locks = false := BodyLoose.notSynchronized Bd
  have hml : c.maxLocals = 0 := hml0
  have hown : s.vm.findClass "com/example/vasto/vasto/messaging/Verb" = some m.cls := findClass_of_methodNamed Bd.named
  have hnm := (name_of_methodNamed Bd.named Bd.method).1
  have X0 : Stand p l e ({ frames := 1, cells := 1, slots := 6, locals := 14 } : Room) s m #[] below meth c s₁ [] 0 0 := Stand.of_body Bd
  have e0 : s₁.heap = h0 := by rw [← hh, Bd.state]; rfl
  have N0 := Fr.nil n0
  show own_Go p e below (own_P s below ({ frames := 1, cells := 1, slots := 6, locals := 14 } : Room) (own_Q3 Z w_VALUES wGOSSIP wSCHEMA_PUSH wSCHEMA_PULL wMUTATION wREAD wRANGE_READ kw_VALUES h0 n0)) s₁ (entryFrame m #[] 0)
  refine own_in (own_ef3 m) ?_
  obtain ⟨T13, X13, e13, st13⟩ := getS2 X0 hx hZ hown (host := "") (Or.inl (hw _ (List.mem_of_getElem? (i := 11) rfl))) Via.refl e0 (EN.1.2.1.ext O0.2) (g := (mkF m 0 #[] [])) rfl (hb hby d3_0)
  refine own_by (T' := T13) (g' := (mkF m 3 #[] [(.ref w_VALUES)])) st13 ?_
  obtain ⟨T14, h14, X14, e14, E14, A14, B14, st14⟩ := cloneH X13 hx hZ hown (hw _ (List.mem_of_getElem? (i := 13) rfl)) (hw _ (List.mem_of_getElem? (i := 14) rfl)) (hw _ (List.mem_of_getElem? (i := 18) rfl)) (hw _ (List.mem_of_getElem? (i := 16) rfl)) (hw _ (List.mem_of_getElem? (i := 17) rfl)) (hw _ (List.mem_of_getElem? (i := 19) rfl)) e13 (Arv.arh (EN.1.1.ext O0.2)) (EN.1.2.2.ext O0.2) (g := (mkF m 3 #[] [(.ref w_VALUES)])) rfl (by rw [hml]; rfl) rfl (hb hby d3_3) (by decide) (W := 0) (cap := 6) (by show 2 * 0 + _ ≤ _; exact Nat.le_of_eq rfl) (by decide) (by decide) (by decide) (by decide)
  obtain ⟨b14, g14⟩ : ∃ z, z = h0.size := ⟨_, rfl⟩
  rw [← g14] at A14 B14 st14
  have gn_b14 : n0 ≤ b14 := Nat.le_trans Z0 (Nat.le_of_eq g14.symm)
  have sz_b14 : h0.size ≤ b14 := Nat.le_trans (Keep.refl h0 []).1 (Nat.le_of_eq g14.symm)
  have K15 : Keep h0 h14 [] := (Keep.refl h0 []).ext E14
  have O16 := O0.ext E14
  have Z17 := Nat.le_trans Z0 E14.1
  have f18 : Arv Z h14 b14 kw_VALUES (.object "com/example/vasto/vasto/messaging/Verb") (6 : Int32) [(.ref wGOSSIP), (.ref wSCHEMA_PUSH), (.ref wSCHEMA_PULL), (.ref wMUTATION), (.ref wREAD), (.ref wRANGE_READ)] .null := A14
  refine own_by (T' := T14) (g' := (mkF m 6 #[] [(.ref b14)])) st14 ?_
  obtain ⟨T19, X19, e19, st19⟩ := castY X14 hx hZ hown (hw _ (List.mem_of_getElem? (i := 27) rfl)) e14 (Ins.self B14) (g := (mkF m 6 #[] [(.ref b14)])) rfl rfl (hb hby d3_6)
  refine own_by (T' := T19) (g' := (mkF m 9 #[] [(.ref b14)])) st19 ?_
  exact own_retR X19 hx Bd.returns rfl rfl rfl (hb hby d3_9) hlk (by decide) (by decide) (by rw [e19]; exact ⟨b14, rfl, N0, K15, sz_b14, gn_b14, f18, B14⟩)
theorem d4_0 : decode prog_20_method_4_code 0 = .ok (.aload_n 0, 1) := by decide +kernel
theorem d4_1 : decode prog_20_method_4_code 1 = .ok (.getfield 41, 3) := by decide +kernel
theorem d4_4 : decode prog_20_method_4_code 4 = .ok (.ireturn, 1) := by decide +kernel
def own_F4 (w_code_a4_0 : Int32) : Int32 := w_code_a4_0
theorem own_ef4 (m : MethodId) (x0 : Addr) : entryFrame m #[(.ref x0)] 1 = mkF m 0 #[.val (.ref x0)] [] := by first | (simp [entryFrame, mkF, argsToLocals, Value.category]; done) | rfl
def own_Q4 (r : Int32) (h0 : Heap) (n0 : Nat) (v : Option Value) (h : Heap) (L : List Loc) : Prop := v = some (.int r) ∧ Fr n0 L ∧ h = h0
set_option maxRecDepth 65536 in
set_option maxHeartbeats 40000000 in
theorem own_rm4 (l : Launch) (Z : State) (a0 : Array Value) (hw : ∀ d ∈ tables_1, d.before a0 Z = true) (ws : List Jvm.Cond) (a4_0 : Addr) (w_code_a4_0 : Int32) (h0 : Heap) (n0 : Nat) (Z0 : n0 ≤ h0.size) (F_code_a4_0 : Fld Z h0 a4_0 "com/example/vasto/vasto/messaging/Verb" "code" "I" (.int w_code_a4_0)) :
    MetFree l (⟨"com/example/vasto/vasto/messaging/Verb", "code", "()I"⟩ : MethodName) (head1 (Jvm.Cond.code (⟨"com/example/vasto/vasto/messaging/Verb", "code", "()I"⟩ : MethodName) prog_20_method_4_code 1 (some .int) :: ws) ({ frames := 0, cells := 0, slots := 0, locals := 0 } : Room)) (fun a U => a = #[(.ref a4_0)] ∧ Z.Warmed39 U.vm ∧ U.heap = h0) (fun _ _ _ _ _ => True) (fun _ U o U' => ∃ v L, o = .returned v ∧ own_Q4 (own_F4 w_code_a4_0) h0 n0 v U'.heap L ∧ FrameEnd U o U' L ({ frames := 0, cells := 0, slots := 0, locals := 0 } : Room).cells ({ frames := 0, cells := 0, slots := 0, locals := 0 } : Room).slots) := by
  refine MetFree.of_bodySF (plainFor_of_name pn_com_example_vasto_vasto_messaging_Verb) hisR ?_
  intro p e s m args below meth c s₁ Bd hml0 hP hK
  obtain ⟨rfl, hZ, hh⟩ := hP
  have hx := Bd.exec
  have hby := Bd.bytes
  have hlk : meth.locks = false := BodyLoose.notSynchronized Bd
  have hml : c.maxLocals = 1 := hml0
  have hown : s.vm.findClass "com/example/vasto/vasto/messaging/Verb" = some m.cls := findClass_of_methodNamed Bd.named
  have hnm := (name_of_methodNamed Bd.named Bd.method).1
  have X0 : Stand p l e ({ frames := 0, cells := 0, slots := 0, locals := 0 } : Room) s m #[(.ref a4_0)] below meth c s₁ [] 0 0 := Stand.of_body Bd
  have e0 : s₁.heap = h0 := by rw [← hh, Bd.state]; rfl
  have N0 := Fr.nil n0
  show own_Go p e below (own_P s below ({ frames := 0, cells := 0, slots := 0, locals := 0 } : Room) (own_Q4 (own_F4 w_code_a4_0) h0 n0)) s₁ (entryFrame m #[(.ref a4_0)] 1)
  refine own_in (own_ef4 m a4_0) ?_
  refine own_by (T' := s₁) (g' := (mkF m 1 #[.val (.ref a4_0)] [(.ref a4_0)])) (fun t k => ?_) ?_
  · show Steps p.tables e below (s₁.setTop (mkF m 0 #[.val (.ref a4_0)] [])) t
    refine XS.aloadN X0.here hx rfl (hb hby d4_0) rfl rfl ?_
    show Steps p.tables e below (s₁.setTop (mkF m 1 #[.val (.ref a4_0)] [(.ref a4_0)])) t
    exact k
  obtain ⟨T20, X20, e20, st20⟩ := getF X0 hx hZ hown (host := "") (Or.inl (hw _ (List.mem_of_getElem? (i := 29) rfl))) Via.refl e0 F_code_a4_0 (g := (mkF m 1 #[.val (.ref a4_0)] [(.ref a4_0)])) rfl rfl (hb hby d4_1)
  refine own_by (T' := T20) (g' := (mkF m 4 #[.val (.ref a4_0)] [(.int w_code_a4_0)])) st20 ?_
  rw [show own_F4 w_code_a4_0 = w_code_a4_0 from rfl]
  exact own_retI X20 hx Bd.returns (hb hby d4_4) hlk (by decide) (by decide) ⟨rfl, N0, e20⟩
theorem d2_0 : decode prog_20_method_5_code 0 = .ok (.invokestatic 45, 3) := by decide +kernel
theorem pd____Lcom_example_vasto_vasto_messaging_Verb_ : parseMethodDescriptor "()[Lcom/example/vasto/vasto/messaging/Verb;" = some ⟨[], some (.array (.object "com/example/vasto/vasto/messaging/Verb"))⟩ := by decide +kernel
theorem d2_3 : decode prog_20_method_5_code 3 = .ok (.astore_n 1, 1) := by decide +kernel
theorem d2_4 : decode prog_20_method_5_code 4 = .ok (.aload_n 1, 1) := by decide +kernel
theorem d2_5 : decode prog_20_method_5_code 5 = .ok (.arraylength, 1) := by decide +kernel
theorem d2_6 : decode prog_20_method_5_code 6 = .ok (.istore_n 2, 1) := by decide +kernel
theorem d2_7 : decode prog_20_method_5_code 7 = .ok (.iconst 0, 1) := by decide +kernel
theorem d2_8 : decode prog_20_method_5_code 8 = .ok (.istore_n 3, 1) := by decide +kernel
theorem d2_9 : decode prog_20_method_5_code 9 = .ok (.iload_n 3, 1) := by decide +kernel
theorem d2_10 : decode prog_20_method_5_code 10 = .ok (.iload_n 2, 1) := by decide +kernel
theorem d2_11 : decode prog_20_method_5_code 11 = .ok (.if_icmp .ge 26, 3) := by decide +kernel
theorem d2_14 : decode prog_20_method_5_code 14 = .ok (.aload_n 1, 1) := by decide +kernel
theorem d2_15 : decode prog_20_method_5_code 15 = .ok (.iload_n 3, 1) := by decide +kernel
theorem d2_16 : decode prog_20_method_5_code 16 = .ok (.aaload, 1) := by decide +kernel
theorem d2_17 : decode prog_20_method_5_code 17 = .ok (.astore 4, 2) := by decide +kernel
theorem d2_19 : decode prog_20_method_5_code 19 = .ok (.aload 4, 2) := by decide +kernel
theorem d2_21 : decode prog_20_method_5_code 21 = .ok (.getfield 41, 3) := by decide +kernel
theorem d2_24 : decode prog_20_method_5_code 24 = .ok (.iload_n 0, 1) := by decide +kernel
theorem d2_25 : decode prog_20_method_5_code 25 = .ok (.if_icmp .ne 6, 3) := by decide +kernel
theorem d2_28 : decode prog_20_method_5_code 28 = .ok (.aload 4, 2) := by decide +kernel
theorem d2_30 : decode prog_20_method_5_code 30 = .ok (.areturn, 1) := by decide +kernel
theorem d2_31 : decode prog_20_method_5_code 31 = .ok (.iinc 3 1, 3) := by decide +kernel
theorem d2_34 : decode prog_20_method_5_code 34 = .ok (.goto (-25), 3) := by decide +kernel
theorem d2_37 : decode prog_20_method_5_code 37 = .ok (.aconst_null, 1) := by decide +kernel
theorem d2_38 : decode prog_20_method_5_code 38 = .ok (.areturn, 1) := by decide +kernel
def own_F2 (p2_0 : Int32) (w_VALUES : Addr) (wGOSSIP : Addr) (wSCHEMA_PUSH : Addr) (wSCHEMA_PULL : Addr) (wMUTATION : Addr) (wREAD : Addr) (wRANGE_READ : Addr) (kw_VALUES : ClassId) : Value := (if p2_0 = (1 : Int32) then (.ref wGOSSIP) else (if p2_0 = (2 : Int32) then (.ref wSCHEMA_PUSH) else (if p2_0 = (3 : Int32) then (.ref wSCHEMA_PULL) else (if p2_0 = (4 : Int32) then (.ref wMUTATION) else (if p2_0 = (5 : Int32) then (.ref wREAD) else (if p2_0 = (6 : Int32) then (.ref wRANGE_READ) else .null))))))
theorem own_ef2 (m : MethodId) (x0 : Int32) : entryFrame m #[(.int x0)] 5 = mkF m 0 #[.val (.int x0), .unset, .unset, .unset, .unset] [] := by first | (simp [entryFrame, mkF, argsToLocals, Value.category]; done) | rfl
def own_Q2 (r : Value) (h0 : Heap) (n0 : Nat) (v : Option Value) (h : Heap) (L : List Loc) : Prop := v = some r ∧ Fr n0 L ∧ Keep h0 h []
set_option maxRecDepth 65536 in
set_option maxHeartbeats 40000000 in
theorem own_rm2 (l : Launch) (Z : State) (a0 : Array Value) (hw : ∀ d ∈ tables_1, d.before a0 Z = true) (ws : List Jvm.Cond) (p2_0 : Int32) (w_VALUES : Addr) (wGOSSIP : Addr) (wSCHEMA_PUSH : Addr) (wSCHEMA_PULL : Addr) (wMUTATION : Addr) (wREAD : Addr) (wRANGE_READ : Addr) (kw_VALUES : ClassId) (h0 : Heap) (n0 : Nat) (Z0 : n0 ≤ h0.size) (O0 : Old Z n0 h0) (EN : own_EN Z w_VALUES wGOSSIP wSCHEMA_PUSH wSCHEMA_PULL wMUTATION wREAD wRANGE_READ kw_VALUES) :
    MetFree l (⟨"com/example/vasto/vasto/messaging/Verb", "of", "(I)Lcom/example/vasto/vasto/messaging/Verb;"⟩ : MethodName) (head1 (Jvm.Cond.code (⟨"com/example/vasto/vasto/messaging/Verb", "of", "(I)Lcom/example/vasto/vasto/messaging/Verb;"⟩ : MethodName) prog_20_method_5_code 5 (some (.object "com/example/vasto/vasto/messaging/Verb")) :: ws) ({ frames := 2, cells := 1, slots := 6, locals := 25 } : Room)) (fun a U => a = #[(.int p2_0)] ∧ Z.Warmed39 U.vm ∧ U.heap = h0) (fun _ _ _ _ _ => True) (fun _ U o U' => ∃ v L, o = .returned v ∧ own_Q2 (own_F2 p2_0 w_VALUES wGOSSIP wSCHEMA_PUSH wSCHEMA_PULL wMUTATION wREAD wRANGE_READ kw_VALUES) h0 n0 v U'.heap L ∧ FrameEnd U o U' L ({ frames := 2, cells := 1, slots := 6, locals := 25 } : Room).cells ({ frames := 2, cells := 1, slots := 6, locals := 25 } : Room).slots) := by
  refine MetFree.of_bodySF (plainFor_of_name pn_com_example_vasto_vasto_messaging_Verb) hisR ?_
  intro p e s m args below meth c s₁ Bd hml0 hP hK
  obtain ⟨rfl, hZ, hh⟩ := hP
  have hx := Bd.exec
  have hby := Bd.bytes
  have hlk : meth.locks = false := BodyLoose.notSynchronized Bd
  have hml : c.maxLocals = 5 := hml0
  have hown : s.vm.findClass "com/example/vasto/vasto/messaging/Verb" = some m.cls := findClass_of_methodNamed Bd.named
  have hnm := (name_of_methodNamed Bd.named Bd.method).1
  have X0 : Stand p l e ({ frames := 2, cells := 1, slots := 6, locals := 25 } : Room) s m #[(.int p2_0)] below meth c s₁ [] 0 0 := Stand.of_body Bd
  have e0 : s₁.heap = h0 := by rw [← hh, Bd.state]; rfl
  have N0 := Fr.nil n0
  show own_Go p e below (own_P s below ({ frames := 2, cells := 1, slots := 6, locals := 25 } : Room) (own_Q2 (own_F2 p2_0 w_VALUES wGOSSIP wSCHEMA_PUSH wSCHEMA_PULL wMUTATION wREAD wRANGE_READ kw_VALUES) h0 n0)) s₁ (entryFrame m #[(.int p2_0)] 5)
  refine own_in (own_ef2 m p2_0) ?_
  obtain ⟨v21, _, ⟨T21, L21, k21, n21⟩, -, X21, ⟨Lc21, hQ21, l21, y21, z21⟩, st21⟩ := Jvm.LawKit.callS X0 hx (y := (⟨"com/example/vasto/vasto/messaging/Verb", "values", "()[Lcom/example/vasto/vasto/messaging/Verb;"⟩ : MethodName)) hown (mvT hZ (hw _ (List.mem_of_getElem? (i := 8) rfl))) (mvT hZ (hw _ (List.mem_of_getElem? (i := 9) rfl))) (mvT hZ (hw _ (List.mem_of_getElem? (i := 6) rfl))) (mvT hZ (hw _ (List.mem_of_getElem? (i := 10) rfl))) (by decide) (backOf (W := 0) (own_rm3 l Z a0 hw [] w_VALUES wGOSSIP wSCHEMA_PUSH wSCHEMA_PULL wMUTATION wREAD wRANGE_READ kw_VALUES h0 n0 Z0 O0 EN) hZ (hw _ (List.mem_of_getElem? (i := 10) rfl)) (hw _ (List.mem_of_getElem? (i := 6) rfl)) (by decide) (by decide)) (g := (mkF m 0 #[.val (.int p2_0), .unset, .unset, .unset, .unset] [])) rfl (by rw [hml]; rfl) (argsL := []) (rest := []) (lenOf pd____Lcom_example_vasto_vasto_messaging_Verb_ rfl) rfl (by show 2 * 0 + _ ≤ _; exact Nat.le_of_eq rfl) (hb hby d2_0) (fun _ _ => ⟨rfl, e0, (by decide : 0 + 1 ≤ _), (by decide : 0 + 6 ≤ _)⟩)
  dsimp only [Pt.U, Pt.locs, Pt.cells, Pt.slots] at X21 l21 y21 z21 st21 hQ21
  subst l21 y21 z21
  obtain ⟨b21, rfl, M21, K21, sz21, gn21, f22, f23⟩ := hQ21
  have K24 : Keep h0 T21.heap [] := (Keep.refl h0 []).trans K21 all0
  have O25 := O0.keep K21 all0
  have Z26 := Nat.le_trans Z0 K21.1
  have sz_b21 : h0.size ≤ b21 := Nat.le_trans (Keep.refl h0 []).1 sz21
  have N27 := Fr.app N0 M21
  refine own_by (T' := T21) (g' := (mkF m 3 #[.val (.int p2_0), .unset, .unset, .unset, .unset] [(.ref b21)])) st21 ?_
  refine own_by (T' := T21) (g' := (mkF m 5 #[.val (.int p2_0), .val (.ref b21), .unset, .unset, .unset] [(.ref b21)])) (fun t k => ?_) ?_
  · show Steps p.tables e below (T21.setTop (mkF m 3 #[.val (.int p2_0), .unset, .unset, .unset, .unset] [(.ref b21)])) t
    refine XS.astoreN X21.here hx rfl (hb hby d2_3) rfl rfl (l' := #[.val (.int p2_0), .val (.ref b21), .unset, .unset, .unset]) rfl ?_
    show Steps p.tables e below (T21.setTop (mkF m 4 #[.val (.int p2_0), .val (.ref b21), .unset, .unset, .unset] [])) t
    refine XS.aloadN X21.here hx rfl (hb hby d2_4) rfl rfl ?_
    show Steps p.tables e below (T21.setTop (mkF m 5 #[.val (.int p2_0), .val (.ref b21), .unset, .unset, .unset] [(.ref b21)])) t
    exact k
  obtain ⟨cl28, Ar28, q28, S28, N28, H28, G28⟩ := id f22
  refine own_by (T' := T21) (g' := (mkF m 6 #[.val (.int p2_0), .val (.ref b21), .unset, .unset, .unset] [(.int (6 : Int32))])) (fun t k => X21.arraylength hx Ar28.1 (State.isArrayOf_alike hZ.alike Ar28.2.1) (g := (mkF m 5 #[.val (.int p2_0), .val (.ref b21), .unset, .unset, .unset] [(.ref b21)])) rfl rfl (hb hby d2_5) t (by rw [len_of S28 N28]; exact k)) ?_
  refine own_by (T' := T21) (g' := (mkF m 16 #[.val (.int p2_0), .val (.ref b21), .val (.int (6 : Int32)), .val (.int (0 : Int32)), .unset] [(.int (0 : Int32)), (.ref b21)])) (fun t k => ?_) ?_
  · show Steps p.tables e below (T21.setTop (mkF m 6 #[.val (.int p2_0), .val (.ref b21), .unset, .unset, .unset] [(.int (6 : Int32))])) t
    refine XS.istoreN X21.here hx rfl (hb hby d2_6) rfl (l' := #[.val (.int p2_0), .val (.ref b21), .val (.int (6 : Int32)), .unset, .unset]) rfl ?_
    show Steps p.tables e below (T21.setTop (mkF m 7 #[.val (.int p2_0), .val (.ref b21), .val (.int (6 : Int32)), .unset, .unset] [])) t
    refine XS.iconst X21.here hx rfl (hb hby d2_7) ?_
    show Steps p.tables e below (T21.setTop (mkF m 8 #[.val (.int p2_0), .val (.ref b21), .val (.int (6 : Int32)), .unset, .unset] [(.int (0 : Int32))])) t
    refine XS.istoreN X21.here hx rfl (hb hby d2_8) rfl (l' := #[.val (.int p2_0), .val (.ref b21), .val (.int (6 : Int32)), .val (.int (0 : Int32)), .unset]) rfl ?_
    show Steps p.tables e below (T21.setTop (mkF m 9 #[.val (.int p2_0), .val (.ref b21), .val (.int (6 : Int32)), .val (.int (0 : Int32)), .unset] [])) t
    refine XS.iloadN X21.here hx rfl (hb hby d2_9) rfl ?_
    show Steps p.tables e below (T21.setTop (mkF m 10 #[.val (.int p2_0), .val (.ref b21), .val (.int (6 : Int32)), .val (.int (0 : Int32)), .unset] [(.int (0 : Int32))])) t
    refine XS.iloadN X21.here hx rfl (hb hby d2_10) rfl ?_
    show Steps p.tables e below (T21.setTop (mkF m 11 #[.val (.int p2_0), .val (.ref b21), .val (.int (6 : Int32)), .val (.int (0 : Int32)), .unset] [(.int (6 : Int32)), (.int (0 : Int32))])) t
    refine XS.icmpNo X21.here hx rfl (hb hby d2_11) rfl (tlt (by decide : (0 : Int32) < (6 : Int32))).2.1 ?_
    show Steps p.tables e below (T21.setTop (mkF m 14 #[.val (.int p2_0), .val (.ref b21), .val (.int (6 : Int32)), .val (.int (0 : Int32)), .unset] [])) t
    refine XS.aloadN X21.here hx rfl (hb hby d2_14) rfl rfl ?_
    show Steps p.tables e below (T21.setTop (mkF m 15 #[.val (.int p2_0), .val (.ref b21), .val (.int (6 : Int32)), .val (.int (0 : Int32)), .unset] [(.ref b21)])) t
    refine XS.iloadN X21.here hx rfl (hb hby d2_15) rfl ?_
    show Steps p.tables e below (T21.setTop (mkF m 16 #[.val (.int p2_0), .val (.ref b21), .val (.int (6 : Int32)), .val (.int (0 : Int32)), .unset] [(.int (0 : Int32)), (.ref b21)])) t
    exact k
  obtain ⟨cl29, Ar29, q29, S29, N29, H29, G29⟩ := id f22
  have hin29 := inb_of S29 (j := (0 : Int32)) ⟨by decide, by decide⟩
  refine own_by (T' := T21) (g' := (mkF m 17 #[.val (.int p2_0), .val (.ref b21), .val (.int (6 : Int32)), .val (.int (0 : Int32)), .unset] [(.ref wGOSSIP)])) (fun t k => X21.aaload hx (j := (0 : Int32)) (v := (.ref wGOSSIP)) Ar29.1 (State.isArrayOf_alike hZ.alike Ar29.2.1) rfl Ar29.2.2 hin29 (H29.at hin29 rfl) (g := (mkF m 16 #[.val (.int p2_0), .val (.ref b21), .val (.int (6 : Int32)), .val (.int (0 : Int32)), .unset] [(.int (0 : Int32)), (.ref b21)])) rfl rfl (hb hby d2_16) t k) ?_
  refine own_by (T' := T21) (g' := (mkF m 21 #[.val (.int p2_0), .val (.ref b21), .val (.int (6 : Int32)), .val (.int (0 : Int32)), .val (.ref wGOSSIP)] [(.ref wGOSSIP)])) (fun t k => ?_) ?_
  · show Steps p.tables e below (T21.setTop (mkF m 17 #[.val (.int p2_0), .val (.ref b21), .val (.int (6 : Int32)), .val (.int (0 : Int32)), .unset] [(.ref wGOSSIP)])) t
    refine XS.astore X21.here hx rfl (hb hby d2_17) rfl rfl (l' := #[.val (.int p2_0), .val (.ref b21), .val (.int (6 : Int32)), .val (.int (0 : Int32)), .val (.ref wGOSSIP)]) rfl ?_
    show Steps p.tables e below (T21.setTop (mkF m 19 #[.val (.int p2_0), .val (.ref b21), .val (.int (6 : Int32)), .val (.int (0 : Int32)), .val (.ref wGOSSIP)] [])) t
    refine XS.aload X21.here hx rfl (hb hby d2_19) rfl rfl ?_
    show Steps p.tables e below (T21.setTop (mkF m 21 #[.val (.int p2_0), .val (.ref b21), .val (.int (6 : Int32)), .val (.int (0 : Int32)), .val (.ref wGOSSIP)] [(.ref wGOSSIP)])) t
    exact k
  obtain ⟨T30, X30, e30, st30⟩ := getF X21 hx hZ hown (host := "") (Or.inl (hw _ (List.mem_of_getElem? (i := 29) rfl))) Via.refl rfl (EN.2.1.2.2.ext O25.2) (g := (mkF m 21 #[.val (.int p2_0), .val (.ref b21), .val (.int (6 : Int32)), .val (.int (0 : Int32)), .val (.ref wGOSSIP)] [(.ref wGOSSIP)])) rfl rfl (hb hby d2_21)
  refine own_by (T' := T30) (g' := (mkF m 24 #[.val (.int p2_0), .val (.ref b21), .val (.int (6 : Int32)), .val (.int (0 : Int32)), .val (.ref wGOSSIP)] [(.int (1 : Int32))])) st30 ?_
  refine own_by (T' := T30) (g' := (mkF m 25 #[.val (.int p2_0), .val (.ref b21), .val (.int (6 : Int32)), .val (.int (0 : Int32)), .val (.ref wGOSSIP)] [(.int p2_0), (.int (1 : Int32))])) (fun t k => ?_) ?_
  · show Steps p.tables e below (T30.setTop (mkF m 24 #[.val (.int p2_0), .val (.ref b21), .val (.int (6 : Int32)), .val (.int (0 : Int32)), .val (.ref wGOSSIP)] [(.int (1 : Int32))])) t
    refine XS.iloadN X30.here hx rfl (hb hby d2_24) rfl ?_
    show Steps p.tables e below (T30.setTop (mkF m 25 #[.val (.int p2_0), .val (.ref b21), .val (.int (6 : Int32)), .val (.int (0 : Int32)), .val (.ref wGOSSIP)] [(.int p2_0), (.int (1 : Int32))])) t
    exact k
  by_cases hc31 : p2_0 = (1 : Int32)
  · skip
    refine own_by (T' := T30) (g' := (mkF m 30 #[.val (.int p2_0), .val (.ref b21), .val (.int (6 : Int32)), .val (.int (0 : Int32)), .val (.ref wGOSSIP)] [(.ref wGOSSIP)])) (fun t k => ?_) ?_
    · show Steps p.tables e below (T30.setTop (mkF m 25 #[.val (.int p2_0), .val (.ref b21), .val (.int (6 : Int32)), .val (.int (0 : Int32)), .val (.ref wGOSSIP)] [(.int p2_0), (.int (1 : Int32))])) t
      refine XS.icmpNo X30.here hx rfl (hb hby d2_25) rfl (teq hc31.symm).2 ?_
      show Steps p.tables e below (T30.setTop (mkF m 28 #[.val (.int p2_0), .val (.ref b21), .val (.int (6 : Int32)), .val (.int (0 : Int32)), .val (.ref wGOSSIP)] [])) t
      refine XS.aload X30.here hx rfl (hb hby d2_28) rfl rfl ?_
      show Steps p.tables e below (T30.setTop (mkF m 30 #[.val (.int p2_0), .val (.ref b21), .val (.int (6 : Int32)), .val (.int (0 : Int32)), .val (.ref wGOSSIP)] [(.ref wGOSSIP)])) t
      exact k
    rw [show own_F2 p2_0 w_VALUES wGOSSIP wSCHEMA_PUSH wSCHEMA_PULL wMUTATION wREAD wRANGE_READ kw_VALUES = (.ref wGOSSIP) from ((if_pos hc31).trans rfl)]
    exact own_retR X30 hx Bd.returns rfl rfl rfl (hb hby d2_30) hlk (by decide) (by decide) ⟨rfl, N27, (by rw [e30]; exact K24)⟩
  · skip
    refine own_by (T' := T30) (g' := (mkF m 16 #[.val (.int p2_0), .val (.ref b21), .val (.int (6 : Int32)), .val (.int (1 : Int32)), .val (.ref wGOSSIP)] [(.int (1 : Int32)), (.ref b21)])) (fun t k => ?_) ?_
    · show Steps p.tables e below (T30.setTop (mkF m 25 #[.val (.int p2_0), .val (.ref b21), .val (.int (6 : Int32)), .val (.int (0 : Int32)), .val (.ref wGOSSIP)] [(.int p2_0), (.int (1 : Int32))])) t
      refine XS.icmpYes X30.here hx rfl (pc0 := 25) (pc' := 31) rfl (hb hby d2_25) rfl (feq (fun q => hc31 q.symm)).2 (by decide) (by decide) ?_
      show Steps p.tables e below (T30.setTop (mkF m 31 #[.val (.int p2_0), .val (.ref b21), .val (.int (6 : Int32)), .val (.int (0 : Int32)), .val (.ref wGOSSIP)] [])) t
      refine XS.iinc X30.here hx rfl (hb hby d2_31) rfl (l' := #[.val (.int p2_0), .val (.ref b21), .val (.int (6 : Int32)), .val (.int (1 : Int32)), .val (.ref wGOSSIP)]) rfl ?_
      show Steps p.tables e below (T30.setTop (mkF m 34 #[.val (.int p2_0), .val (.ref b21), .val (.int (6 : Int32)), .val (.int (1 : Int32)), .val (.ref wGOSSIP)] [])) t
      refine XS.goto X30.here hx rfl (pc0 := 34) (pc' := 9) rfl (hb hby d2_34) (by decide) (by decide) ?_
      show Steps p.tables e below (T30.setTop (mkF m 9 #[.val (.int p2_0), .val (.ref b21), .val (.int (6 : Int32)), .val (.int (1 : Int32)), .val (.ref wGOSSIP)] [])) t
      refine XS.iloadN X30.here hx rfl (hb hby d2_9) rfl ?_
      show Steps p.tables e below (T30.setTop (mkF m 10 #[.val (.int p2_0), .val (.ref b21), .val (.int (6 : Int32)), .val (.int (1 : Int32)), .val (.ref wGOSSIP)] [(.int (1 : Int32))])) t
      refine XS.iloadN X30.here hx rfl (hb hby d2_10) rfl ?_
      show Steps p.tables e below (T30.setTop (mkF m 11 #[.val (.int p2_0), .val (.ref b21), .val (.int (6 : Int32)), .val (.int (1 : Int32)), .val (.ref wGOSSIP)] [(.int (6 : Int32)), (.int (1 : Int32))])) t
      refine XS.icmpNo X30.here hx rfl (hb hby d2_11) rfl (tlt (by decide : (1 : Int32) < (6 : Int32))).2.1 ?_
      show Steps p.tables e below (T30.setTop (mkF m 14 #[.val (.int p2_0), .val (.ref b21), .val (.int (6 : Int32)), .val (.int (1 : Int32)), .val (.ref wGOSSIP)] [])) t
      refine XS.aloadN X30.here hx rfl (hb hby d2_14) rfl rfl ?_
      show Steps p.tables e below (T30.setTop (mkF m 15 #[.val (.int p2_0), .val (.ref b21), .val (.int (6 : Int32)), .val (.int (1 : Int32)), .val (.ref wGOSSIP)] [(.ref b21)])) t
      refine XS.iloadN X30.here hx rfl (hb hby d2_15) rfl ?_
      show Steps p.tables e below (T30.setTop (mkF m 16 #[.val (.int p2_0), .val (.ref b21), .val (.int (6 : Int32)), .val (.int (1 : Int32)), .val (.ref wGOSSIP)] [(.int (1 : Int32)), (.ref b21)])) t
      exact k
    obtain ⟨cl32, Ar32, q32, S32, N32, H32, G32⟩ := id f22
    have hin32 := inb_of S32 (j := (1 : Int32)) ⟨by decide, by decide⟩
    refine own_by (T' := T30) (g' := (mkF m 17 #[.val (.int p2_0), .val (.ref b21), .val (.int (6 : Int32)), .val (.int (1 : Int32)), .val (.ref wGOSSIP)] [(.ref wSCHEMA_PUSH)])) (fun t k => X30.aaload hx (j := (1 : Int32)) (v := (.ref wSCHEMA_PUSH)) (by rw [e30]; exact Ar32.1) (State.isArrayOf_alike hZ.alike Ar32.2.1) rfl Ar32.2.2 hin32 (H32.at hin32 rfl) (g := (mkF m 16 #[.val (.int p2_0), .val (.ref b21), .val (.int (6 : Int32)), .val (.int (1 : Int32)), .val (.ref wGOSSIP)] [(.int (1 : Int32)), (.ref b21)])) rfl rfl (hb hby d2_16) t k) ?_
    refine own_by (T' := T30) (g' := (mkF m 21 #[.val (.int p2_0), .val (.ref b21), .val (.int (6 : Int32)), .val (.int (1 : Int32)), .val (.ref wSCHEMA_PUSH)] [(.ref wSCHEMA_PUSH)])) (fun t k => ?_) ?_
    · show Steps p.tables e below (T30.setTop (mkF m 17 #[.val (.int p2_0), .val (.ref b21), .val (.int (6 : Int32)), .val (.int (1 : Int32)), .val (.ref wGOSSIP)] [(.ref wSCHEMA_PUSH)])) t
      refine XS.astore X30.here hx rfl (hb hby d2_17) rfl rfl (l' := #[.val (.int p2_0), .val (.ref b21), .val (.int (6 : Int32)), .val (.int (1 : Int32)), .val (.ref wSCHEMA_PUSH)]) rfl ?_
      show Steps p.tables e below (T30.setTop (mkF m 19 #[.val (.int p2_0), .val (.ref b21), .val (.int (6 : Int32)), .val (.int (1 : Int32)), .val (.ref wSCHEMA_PUSH)] [])) t
      refine XS.aload X30.here hx rfl (hb hby d2_19) rfl rfl ?_
      show Steps p.tables e below (T30.setTop (mkF m 21 #[.val (.int p2_0), .val (.ref b21), .val (.int (6 : Int32)), .val (.int (1 : Int32)), .val (.ref wSCHEMA_PUSH)] [(.ref wSCHEMA_PUSH)])) t
      exact k
    obtain ⟨T33, X33, e33, st33⟩ := getF X30 hx hZ hown (host := "") (Or.inl (hw _ (List.mem_of_getElem? (i := 29) rfl))) Via.refl e30 (EN.2.2.1.2.2.ext O25.2) (g := (mkF m 21 #[.val (.int p2_0), .val (.ref b21), .val (.int (6 : Int32)), .val (.int (1 : Int32)), .val (.ref wSCHEMA_PUSH)] [(.ref wSCHEMA_PUSH)])) rfl rfl (hb hby d2_21)
    refine own_by (T' := T33) (g' := (mkF m 24 #[.val (.int p2_0), .val (.ref b21), .val (.int (6 : Int32)), .val (.int (1 : Int32)), .val (.ref wSCHEMA_PUSH)] [(.int (2 : Int32))])) st33 ?_
    refine own_by (T' := T33) (g' := (mkF m 25 #[.val (.int p2_0), .val (.ref b21), .val (.int (6 : Int32)), .val (.int (1 : Int32)), .val (.ref wSCHEMA_PUSH)] [(.int p2_0), (.int (2 : Int32))])) (fun t k => ?_) ?_
    · show Steps p.tables e below (T33.setTop (mkF m 24 #[.val (.int p2_0), .val (.ref b21), .val (.int (6 : Int32)), .val (.int (1 : Int32)), .val (.ref wSCHEMA_PUSH)] [(.int (2 : Int32))])) t
      refine XS.iloadN X33.here hx rfl (hb hby d2_24) rfl ?_
      show Steps p.tables e below (T33.setTop (mkF m 25 #[.val (.int p2_0), .val (.ref b21), .val (.int (6 : Int32)), .val (.int (1 : Int32)), .val (.ref wSCHEMA_PUSH)] [(.int p2_0), (.int (2 : Int32))])) t
      exact k
    by_cases hc34 : p2_0 = (2 : Int32)
    · skip
      refine own_by (T' := T33) (g' := (mkF m 30 #[.val (.int p2_0), .val (.ref b21), .val (.int (6 : Int32)), .val (.int (1 : Int32)), .val (.ref wSCHEMA_PUSH)] [(.ref wSCHEMA_PUSH)])) (fun t k => ?_) ?_
      · show Steps p.tables e below (T33.setTop (mkF m 25 #[.val (.int p2_0), .val (.ref b21), .val (.int (6 : Int32)), .val (.int (1 : Int32)), .val (.ref wSCHEMA_PUSH)] [(.int p2_0), (.int (2 : Int32))])) t
        refine XS.icmpNo X33.here hx rfl (hb hby d2_25) rfl (teq hc34.symm).2 ?_
        show Steps p.tables e below (T33.setTop (mkF m 28 #[.val (.int p2_0), .val (.ref b21), .val (.int (6 : Int32)), .val (.int (1 : Int32)), .val (.ref wSCHEMA_PUSH)] [])) t
        refine XS.aload X33.here hx rfl (hb hby d2_28) rfl rfl ?_
        show Steps p.tables e below (T33.setTop (mkF m 30 #[.val (.int p2_0), .val (.ref b21), .val (.int (6 : Int32)), .val (.int (1 : Int32)), .val (.ref wSCHEMA_PUSH)] [(.ref wSCHEMA_PUSH)])) t
        exact k
      rw [show own_F2 p2_0 w_VALUES wGOSSIP wSCHEMA_PUSH wSCHEMA_PULL wMUTATION wREAD wRANGE_READ kw_VALUES = (.ref wSCHEMA_PUSH) from ((if_neg hc31).trans ((if_pos hc34).trans rfl))]
      exact own_retR X33 hx Bd.returns rfl rfl rfl (hb hby d2_30) hlk (by decide) (by decide) ⟨rfl, N27, (by rw [e33]; exact K24)⟩
    · skip
      refine own_by (T' := T33) (g' := (mkF m 16 #[.val (.int p2_0), .val (.ref b21), .val (.int (6 : Int32)), .val (.int (2 : Int32)), .val (.ref wSCHEMA_PUSH)] [(.int (2 : Int32)), (.ref b21)])) (fun t k => ?_) ?_
      · show Steps p.tables e below (T33.setTop (mkF m 25 #[.val (.int p2_0), .val (.ref b21), .val (.int (6 : Int32)), .val (.int (1 : Int32)), .val (.ref wSCHEMA_PUSH)] [(.int p2_0), (.int (2 : Int32))])) t
        refine XS.icmpYes X33.here hx rfl (pc0 := 25) (pc' := 31) rfl (hb hby d2_25) rfl (feq (fun q => hc34 q.symm)).2 (by decide) (by decide) ?_
        show Steps p.tables e below (T33.setTop (mkF m 31 #[.val (.int p2_0), .val (.ref b21), .val (.int (6 : Int32)), .val (.int (1 : Int32)), .val (.ref wSCHEMA_PUSH)] [])) t
        refine XS.iinc X33.here hx rfl (hb hby d2_31) rfl (l' := #[.val (.int p2_0), .val (.ref b21), .val (.int (6 : Int32)), .val (.int (2 : Int32)), .val (.ref wSCHEMA_PUSH)]) rfl ?_
        show Steps p.tables e below (T33.setTop (mkF m 34 #[.val (.int p2_0), .val (.ref b21), .val (.int (6 : Int32)), .val (.int (2 : Int32)), .val (.ref wSCHEMA_PUSH)] [])) t
        refine XS.goto X33.here hx rfl (pc0 := 34) (pc' := 9) rfl (hb hby d2_34) (by decide) (by decide) ?_
        show Steps p.tables e below (T33.setTop (mkF m 9 #[.val (.int p2_0), .val (.ref b21), .val (.int (6 : Int32)), .val (.int (2 : Int32)), .val (.ref wSCHEMA_PUSH)] [])) t
        refine XS.iloadN X33.here hx rfl (hb hby d2_9) rfl ?_
        show Steps p.tables e below (T33.setTop (mkF m 10 #[.val (.int p2_0), .val (.ref b21), .val (.int (6 : Int32)), .val (.int (2 : Int32)), .val (.ref wSCHEMA_PUSH)] [(.int (2 : Int32))])) t
        refine XS.iloadN X33.here hx rfl (hb hby d2_10) rfl ?_
        show Steps p.tables e below (T33.setTop (mkF m 11 #[.val (.int p2_0), .val (.ref b21), .val (.int (6 : Int32)), .val (.int (2 : Int32)), .val (.ref wSCHEMA_PUSH)] [(.int (6 : Int32)), (.int (2 : Int32))])) t
        refine XS.icmpNo X33.here hx rfl (hb hby d2_11) rfl (tlt (by decide : (2 : Int32) < (6 : Int32))).2.1 ?_
        show Steps p.tables e below (T33.setTop (mkF m 14 #[.val (.int p2_0), .val (.ref b21), .val (.int (6 : Int32)), .val (.int (2 : Int32)), .val (.ref wSCHEMA_PUSH)] [])) t
        refine XS.aloadN X33.here hx rfl (hb hby d2_14) rfl rfl ?_
        show Steps p.tables e below (T33.setTop (mkF m 15 #[.val (.int p2_0), .val (.ref b21), .val (.int (6 : Int32)), .val (.int (2 : Int32)), .val (.ref wSCHEMA_PUSH)] [(.ref b21)])) t
        refine XS.iloadN X33.here hx rfl (hb hby d2_15) rfl ?_
        show Steps p.tables e below (T33.setTop (mkF m 16 #[.val (.int p2_0), .val (.ref b21), .val (.int (6 : Int32)), .val (.int (2 : Int32)), .val (.ref wSCHEMA_PUSH)] [(.int (2 : Int32)), (.ref b21)])) t
        exact k
      obtain ⟨cl35, Ar35, q35, S35, N35, H35, G35⟩ := id f22
      have hin35 := inb_of S35 (j := (2 : Int32)) ⟨by decide, by decide⟩
      refine own_by (T' := T33) (g' := (mkF m 17 #[.val (.int p2_0), .val (.ref b21), .val (.int (6 : Int32)), .val (.int (2 : Int32)), .val (.ref wSCHEMA_PUSH)] [(.ref wSCHEMA_PULL)])) (fun t k => X33.aaload hx (j := (2 : Int32)) (v := (.ref wSCHEMA_PULL)) (by rw [e33]; exact Ar35.1) (State.isArrayOf_alike hZ.alike Ar35.2.1) rfl Ar35.2.2 hin35 (H35.at hin35 rfl) (g := (mkF m 16 #[.val (.int p2_0), .val (.ref b21), .val (.int (6 : Int32)), .val (.int (2 : Int32)), .val (.ref wSCHEMA_PUSH)] [(.int (2 : Int32)), (.ref b21)])) rfl rfl (hb hby d2_16) t k) ?_
      refine own_by (T' := T33) (g' := (mkF m 21 #[.val (.int p2_0), .val (.ref b21), .val (.int (6 : Int32)), .val (.int (2 : Int32)), .val (.ref wSCHEMA_PULL)] [(.ref wSCHEMA_PULL)])) (fun t k => ?_) ?_
      · show Steps p.tables e below (T33.setTop (mkF m 17 #[.val (.int p2_0), .val (.ref b21), .val (.int (6 : Int32)), .val (.int (2 : Int32)), .val (.ref wSCHEMA_PUSH)] [(.ref wSCHEMA_PULL)])) t
        refine XS.astore X33.here hx rfl (hb hby d2_17) rfl rfl (l' := #[.val (.int p2_0), .val (.ref b21), .val (.int (6 : Int32)), .val (.int (2 : Int32)), .val (.ref wSCHEMA_PULL)]) rfl ?_
        show Steps p.tables e below (T33.setTop (mkF m 19 #[.val (.int p2_0), .val (.ref b21), .val (.int (6 : Int32)), .val (.int (2 : Int32)), .val (.ref wSCHEMA_PULL)] [])) t
        refine XS.aload X33.here hx rfl (hb hby d2_19) rfl rfl ?_
        show Steps p.tables e below (T33.setTop (mkF m 21 #[.val (.int p2_0), .val (.ref b21), .val (.int (6 : Int32)), .val (.int (2 : Int32)), .val (.ref wSCHEMA_PULL)] [(.ref wSCHEMA_PULL)])) t
        exact k
      obtain ⟨T36, X36, e36, st36⟩ := getF X33 hx hZ hown (host := "") (Or.inl (hw _ (List.mem_of_getElem? (i := 29) rfl))) Via.refl e33 (EN.2.2.2.1.2.2.ext O25.2) (g := (mkF m 21 #[.val (.int p2_0), .val (.ref b21), .val (.int (6 : Int32)), .val (.int (2 : Int32)), .val (.ref wSCHEMA_PULL)] [(.ref wSCHEMA_PULL)])) rfl rfl (hb hby d2_21)
      refine own_by (T' := T36) (g' := (mkF m 24 #[.val (.int p2_0), .val (.ref b21), .val (.int (6 : Int32)), .val (.int (2 : Int32)), .val (.ref wSCHEMA_PULL)] [(.int (3 : Int32))])) st36 ?_
      refine own_by (T' := T36) (g' := (mkF m 25 #[.val (.int p2_0), .val (.ref b21), .val (.int (6 : Int32)), .val (.int (2 : Int32)), .val (.ref wSCHEMA_PULL)] [(.int p2_0), (.int (3 : Int32))])) (fun t k => ?_) ?_
      · show Steps p.tables e below (T36.setTop (mkF m 24 #[.val (.int p2_0), .val (.ref b21), .val (.int (6 : Int32)), .val (.int (2 : Int32)), .val (.ref wSCHEMA_PULL)] [(.int (3 : Int32))])) t
        refine XS.iloadN X36.here hx rfl (hb hby d2_24) rfl ?_
        show Steps p.tables e below (T36.setTop (mkF m 25 #[.val (.int p2_0), .val (.ref b21), .val (.int (6 : Int32)), .val (.int (2 : Int32)), .val (.ref wSCHEMA_PULL)] [(.int p2_0), (.int (3 : Int32))])) t
        exact k
      by_cases hc37 : p2_0 = (3 : Int32)
      · skip
        refine own_by (T' := T36) (g' := (mkF m 30 #[.val (.int p2_0), .val (.ref b21), .val (.int (6 : Int32)), .val (.int (2 : Int32)), .val (.ref wSCHEMA_PULL)] [(.ref wSCHEMA_PULL)])) (fun t k => ?_) ?_
        · show Steps p.tables e below (T36.setTop (mkF m 25 #[.val (.int p2_0), .val (.ref b21), .val (.int (6 : Int32)), .val (.int (2 : Int32)), .val (.ref wSCHEMA_PULL)] [(.int p2_0), (.int (3 : Int32))])) t
          refine XS.icmpNo X36.here hx rfl (hb hby d2_25) rfl (teq hc37.symm).2 ?_
          show Steps p.tables e below (T36.setTop (mkF m 28 #[.val (.int p2_0), .val (.ref b21), .val (.int (6 : Int32)), .val (.int (2 : Int32)), .val (.ref wSCHEMA_PULL)] [])) t
          refine XS.aload X36.here hx rfl (hb hby d2_28) rfl rfl ?_
          show Steps p.tables e below (T36.setTop (mkF m 30 #[.val (.int p2_0), .val (.ref b21), .val (.int (6 : Int32)), .val (.int (2 : Int32)), .val (.ref wSCHEMA_PULL)] [(.ref wSCHEMA_PULL)])) t
          exact k
        rw [show own_F2 p2_0 w_VALUES wGOSSIP wSCHEMA_PUSH wSCHEMA_PULL wMUTATION wREAD wRANGE_READ kw_VALUES = (.ref wSCHEMA_PULL) from ((if_neg hc31).trans ((if_neg hc34).trans ((if_pos hc37).trans rfl)))]
        exact own_retR X36 hx Bd.returns rfl rfl rfl (hb hby d2_30) hlk (by decide) (by decide) ⟨rfl, N27, (by rw [e36]; exact K24)⟩
      · skip
        refine own_by (T' := T36) (g' := (mkF m 16 #[.val (.int p2_0), .val (.ref b21), .val (.int (6 : Int32)), .val (.int (3 : Int32)), .val (.ref wSCHEMA_PULL)] [(.int (3 : Int32)), (.ref b21)])) (fun t k => ?_) ?_
        · show Steps p.tables e below (T36.setTop (mkF m 25 #[.val (.int p2_0), .val (.ref b21), .val (.int (6 : Int32)), .val (.int (2 : Int32)), .val (.ref wSCHEMA_PULL)] [(.int p2_0), (.int (3 : Int32))])) t
          refine XS.icmpYes X36.here hx rfl (pc0 := 25) (pc' := 31) rfl (hb hby d2_25) rfl (feq (fun q => hc37 q.symm)).2 (by decide) (by decide) ?_
          show Steps p.tables e below (T36.setTop (mkF m 31 #[.val (.int p2_0), .val (.ref b21), .val (.int (6 : Int32)), .val (.int (2 : Int32)), .val (.ref wSCHEMA_PULL)] [])) t
          refine XS.iinc X36.here hx rfl (hb hby d2_31) rfl (l' := #[.val (.int p2_0), .val (.ref b21), .val (.int (6 : Int32)), .val (.int (3 : Int32)), .val (.ref wSCHEMA_PULL)]) rfl ?_
          show Steps p.tables e below (T36.setTop (mkF m 34 #[.val (.int p2_0), .val (.ref b21), .val (.int (6 : Int32)), .val (.int (3 : Int32)), .val (.ref wSCHEMA_PULL)] [])) t
          refine XS.goto X36.here hx rfl (pc0 := 34) (pc' := 9) rfl (hb hby d2_34) (by decide) (by decide) ?_
          show Steps p.tables e below (T36.setTop (mkF m 9 #[.val (.int p2_0), .val (.ref b21), .val (.int (6 : Int32)), .val (.int (3 : Int32)), .val (.ref wSCHEMA_PULL)] [])) t
          refine XS.iloadN X36.here hx rfl (hb hby d2_9) rfl ?_
          show Steps p.tables e below (T36.setTop (mkF m 10 #[.val (.int p2_0), .val (.ref b21), .val (.int (6 : Int32)), .val (.int (3 : Int32)), .val (.ref wSCHEMA_PULL)] [(.int (3 : Int32))])) t
          refine XS.iloadN X36.here hx rfl (hb hby d2_10) rfl ?_
          show Steps p.tables e below (T36.setTop (mkF m 11 #[.val (.int p2_0), .val (.ref b21), .val (.int (6 : Int32)), .val (.int (3 : Int32)), .val (.ref wSCHEMA_PULL)] [(.int (6 : Int32)), (.int (3 : Int32))])) t
          refine XS.icmpNo X36.here hx rfl (hb hby d2_11) rfl (tlt (by decide : (3 : Int32) < (6 : Int32))).2.1 ?_
          show Steps p.tables e below (T36.setTop (mkF m 14 #[.val (.int p2_0), .val (.ref b21), .val (.int (6 : Int32)), .val (.int (3 : Int32)), .val (.ref wSCHEMA_PULL)] [])) t
          refine XS.aloadN X36.here hx rfl (hb hby d2_14) rfl rfl ?_
          show Steps p.tables e below (T36.setTop (mkF m 15 #[.val (.int p2_0), .val (.ref b21), .val (.int (6 : Int32)), .val (.int (3 : Int32)), .val (.ref wSCHEMA_PULL)] [(.ref b21)])) t
          refine XS.iloadN X36.here hx rfl (hb hby d2_15) rfl ?_
          show Steps p.tables e below (T36.setTop (mkF m 16 #[.val (.int p2_0), .val (.ref b21), .val (.int (6 : Int32)), .val (.int (3 : Int32)), .val (.ref wSCHEMA_PULL)] [(.int (3 : Int32)), (.ref b21)])) t
          exact k
        obtain ⟨cl38, Ar38, q38, S38, N38, H38, G38⟩ := id f22
        have hin38 := inb_of S38 (j := (3 : Int32)) ⟨by decide, by decide⟩
        refine own_by (T' := T36) (g' := (mkF m 17 #[.val (.int p2_0), .val (.ref b21), .val (.int (6 : Int32)), .val (.int (3 : Int32)), .val (.ref wSCHEMA_PULL)] [(.ref wMUTATION)])) (fun t k => X36.aaload hx (j := (3 : Int32)) (v := (.ref wMUTATION)) (by rw [e36]; exact Ar38.1) (State.isArrayOf_alike hZ.alike Ar38.2.1) rfl Ar38.2.2 hin38 (H38.at hin38 rfl) (g := (mkF m 16 #[.val (.int p2_0), .val (.ref b21), .val (.int (6 : Int32)), .val (.int (3 : Int32)), .val (.ref wSCHEMA_PULL)] [(.int (3 : Int32)), (.ref b21)])) rfl rfl (hb hby d2_16) t k) ?_
        refine own_by (T' := T36) (g' := (mkF m 21 #[.val (.int p2_0), .val (.ref b21), .val (.int (6 : Int32)), .val (.int (3 : Int32)), .val (.ref wMUTATION)] [(.ref wMUTATION)])) (fun t k => ?_) ?_
        · show Steps p.tables e below (T36.setTop (mkF m 17 #[.val (.int p2_0), .val (.ref b21), .val (.int (6 : Int32)), .val (.int (3 : Int32)), .val (.ref wSCHEMA_PULL)] [(.ref wMUTATION)])) t
          refine XS.astore X36.here hx rfl (hb hby d2_17) rfl rfl (l' := #[.val (.int p2_0), .val (.ref b21), .val (.int (6 : Int32)), .val (.int (3 : Int32)), .val (.ref wMUTATION)]) rfl ?_
          show Steps p.tables e below (T36.setTop (mkF m 19 #[.val (.int p2_0), .val (.ref b21), .val (.int (6 : Int32)), .val (.int (3 : Int32)), .val (.ref wMUTATION)] [])) t
          refine XS.aload X36.here hx rfl (hb hby d2_19) rfl rfl ?_
          show Steps p.tables e below (T36.setTop (mkF m 21 #[.val (.int p2_0), .val (.ref b21), .val (.int (6 : Int32)), .val (.int (3 : Int32)), .val (.ref wMUTATION)] [(.ref wMUTATION)])) t
          exact k
        obtain ⟨T39, X39, e39, st39⟩ := getF X36 hx hZ hown (host := "") (Or.inl (hw _ (List.mem_of_getElem? (i := 29) rfl))) Via.refl e36 (EN.2.2.2.2.1.2.2.ext O25.2) (g := (mkF m 21 #[.val (.int p2_0), .val (.ref b21), .val (.int (6 : Int32)), .val (.int (3 : Int32)), .val (.ref wMUTATION)] [(.ref wMUTATION)])) rfl rfl (hb hby d2_21)
        refine own_by (T' := T39) (g' := (mkF m 24 #[.val (.int p2_0), .val (.ref b21), .val (.int (6 : Int32)), .val (.int (3 : Int32)), .val (.ref wMUTATION)] [(.int (4 : Int32))])) st39 ?_
        refine own_by (T' := T39) (g' := (mkF m 25 #[.val (.int p2_0), .val (.ref b21), .val (.int (6 : Int32)), .val (.int (3 : Int32)), .val (.ref wMUTATION)] [(.int p2_0), (.int (4 : Int32))])) (fun t k => ?_) ?_
        · show Steps p.tables e below (T39.setTop (mkF m 24 #[.val (.int p2_0), .val (.ref b21), .val (.int (6 : Int32)), .val (.int (3 : Int32)), .val (.ref wMUTATION)] [(.int (4 : Int32))])) t
          refine XS.iloadN X39.here hx rfl (hb hby d2_24) rfl ?_
          show Steps p.tables e below (T39.setTop (mkF m 25 #[.val (.int p2_0), .val (.ref b21), .val (.int (6 : Int32)), .val (.int (3 : Int32)), .val (.ref wMUTATION)] [(.int p2_0), (.int (4 : Int32))])) t
          exact k
        by_cases hc40 : p2_0 = (4 : Int32)
        · skip
          refine own_by (T' := T39) (g' := (mkF m 30 #[.val (.int p2_0), .val (.ref b21), .val (.int (6 : Int32)), .val (.int (3 : Int32)), .val (.ref wMUTATION)] [(.ref wMUTATION)])) (fun t k => ?_) ?_
          · show Steps p.tables e below (T39.setTop (mkF m 25 #[.val (.int p2_0), .val (.ref b21), .val (.int (6 : Int32)), .val (.int (3 : Int32)), .val (.ref wMUTATION)] [(.int p2_0), (.int (4 : Int32))])) t
            refine XS.icmpNo X39.here hx rfl (hb hby d2_25) rfl (teq hc40.symm).2 ?_
            show Steps p.tables e below (T39.setTop (mkF m 28 #[.val (.int p2_0), .val (.ref b21), .val (.int (6 : Int32)), .val (.int (3 : Int32)), .val (.ref wMUTATION)] [])) t
            refine XS.aload X39.here hx rfl (hb hby d2_28) rfl rfl ?_
            show Steps p.tables e below (T39.setTop (mkF m 30 #[.val (.int p2_0), .val (.ref b21), .val (.int (6 : Int32)), .val (.int (3 : Int32)), .val (.ref wMUTATION)] [(.ref wMUTATION)])) t
            exact k
          rw [show own_F2 p2_0 w_VALUES wGOSSIP wSCHEMA_PUSH wSCHEMA_PULL wMUTATION wREAD wRANGE_READ kw_VALUES = (.ref wMUTATION) from ((if_neg hc31).trans ((if_neg hc34).trans ((if_neg hc37).trans ((if_pos hc40).trans rfl))))]
          exact own_retR X39 hx Bd.returns rfl rfl rfl (hb hby d2_30) hlk (by decide) (by decide) ⟨rfl, N27, (by rw [e39]; exact K24)⟩
        · skip
          refine own_by (T' := T39) (g' := (mkF m 16 #[.val (.int p2_0), .val (.ref b21), .val (.int (6 : Int32)), .val (.int (4 : Int32)), .val (.ref wMUTATION)] [(.int (4 : Int32)), (.ref b21)])) (fun t k => ?_) ?_
          · show Steps p.tables e below (T39.setTop (mkF m 25 #[.val (.int p2_0), .val (.ref b21), .val (.int (6 : Int32)), .val (.int (3 : Int32)), .val (.ref wMUTATION)] [(.int p2_0), (.int (4 : Int32))])) t
            refine XS.icmpYes X39.here hx rfl (pc0 := 25) (pc' := 31) rfl (hb hby d2_25) rfl (feq (fun q => hc40 q.symm)).2 (by decide) (by decide) ?_
            show Steps p.tables e below (T39.setTop (mkF m 31 #[.val (.int p2_0), .val (.ref b21), .val (.int (6 : Int32)), .val (.int (3 : Int32)), .val (.ref wMUTATION)] [])) t
            refine XS.iinc X39.here hx rfl (hb hby d2_31) rfl (l' := #[.val (.int p2_0), .val (.ref b21), .val (.int (6 : Int32)), .val (.int (4 : Int32)), .val (.ref wMUTATION)]) rfl ?_
            show Steps p.tables e below (T39.setTop (mkF m 34 #[.val (.int p2_0), .val (.ref b21), .val (.int (6 : Int32)), .val (.int (4 : Int32)), .val (.ref wMUTATION)] [])) t
            refine XS.goto X39.here hx rfl (pc0 := 34) (pc' := 9) rfl (hb hby d2_34) (by decide) (by decide) ?_
            show Steps p.tables e below (T39.setTop (mkF m 9 #[.val (.int p2_0), .val (.ref b21), .val (.int (6 : Int32)), .val (.int (4 : Int32)), .val (.ref wMUTATION)] [])) t
            refine XS.iloadN X39.here hx rfl (hb hby d2_9) rfl ?_
            show Steps p.tables e below (T39.setTop (mkF m 10 #[.val (.int p2_0), .val (.ref b21), .val (.int (6 : Int32)), .val (.int (4 : Int32)), .val (.ref wMUTATION)] [(.int (4 : Int32))])) t
            refine XS.iloadN X39.here hx rfl (hb hby d2_10) rfl ?_
            show Steps p.tables e below (T39.setTop (mkF m 11 #[.val (.int p2_0), .val (.ref b21), .val (.int (6 : Int32)), .val (.int (4 : Int32)), .val (.ref wMUTATION)] [(.int (6 : Int32)), (.int (4 : Int32))])) t
            refine XS.icmpNo X39.here hx rfl (hb hby d2_11) rfl (tlt (by decide : (4 : Int32) < (6 : Int32))).2.1 ?_
            show Steps p.tables e below (T39.setTop (mkF m 14 #[.val (.int p2_0), .val (.ref b21), .val (.int (6 : Int32)), .val (.int (4 : Int32)), .val (.ref wMUTATION)] [])) t
            refine XS.aloadN X39.here hx rfl (hb hby d2_14) rfl rfl ?_
            show Steps p.tables e below (T39.setTop (mkF m 15 #[.val (.int p2_0), .val (.ref b21), .val (.int (6 : Int32)), .val (.int (4 : Int32)), .val (.ref wMUTATION)] [(.ref b21)])) t
            refine XS.iloadN X39.here hx rfl (hb hby d2_15) rfl ?_
            show Steps p.tables e below (T39.setTop (mkF m 16 #[.val (.int p2_0), .val (.ref b21), .val (.int (6 : Int32)), .val (.int (4 : Int32)), .val (.ref wMUTATION)] [(.int (4 : Int32)), (.ref b21)])) t
            exact k
          obtain ⟨cl41, Ar41, q41, S41, N41, H41, G41⟩ := id f22
          have hin41 := inb_of S41 (j := (4 : Int32)) ⟨by decide, by decide⟩
          refine own_by (T' := T39) (g' := (mkF m 17 #[.val (.int p2_0), .val (.ref b21), .val (.int (6 : Int32)), .val (.int (4 : Int32)), .val (.ref wMUTATION)] [(.ref wREAD)])) (fun t k => X39.aaload hx (j := (4 : Int32)) (v := (.ref wREAD)) (by rw [e39]; exact Ar41.1) (State.isArrayOf_alike hZ.alike Ar41.2.1) rfl Ar41.2.2 hin41 (H41.at hin41 rfl) (g := (mkF m 16 #[.val (.int p2_0), .val (.ref b21), .val (.int (6 : Int32)), .val (.int (4 : Int32)), .val (.ref wMUTATION)] [(.int (4 : Int32)), (.ref b21)])) rfl rfl (hb hby d2_16) t k) ?_
          refine own_by (T' := T39) (g' := (mkF m 21 #[.val (.int p2_0), .val (.ref b21), .val (.int (6 : Int32)), .val (.int (4 : Int32)), .val (.ref wREAD)] [(.ref wREAD)])) (fun t k => ?_) ?_
          · show Steps p.tables e below (T39.setTop (mkF m 17 #[.val (.int p2_0), .val (.ref b21), .val (.int (6 : Int32)), .val (.int (4 : Int32)), .val (.ref wMUTATION)] [(.ref wREAD)])) t
            refine XS.astore X39.here hx rfl (hb hby d2_17) rfl rfl (l' := #[.val (.int p2_0), .val (.ref b21), .val (.int (6 : Int32)), .val (.int (4 : Int32)), .val (.ref wREAD)]) rfl ?_
            show Steps p.tables e below (T39.setTop (mkF m 19 #[.val (.int p2_0), .val (.ref b21), .val (.int (6 : Int32)), .val (.int (4 : Int32)), .val (.ref wREAD)] [])) t
            refine XS.aload X39.here hx rfl (hb hby d2_19) rfl rfl ?_
            show Steps p.tables e below (T39.setTop (mkF m 21 #[.val (.int p2_0), .val (.ref b21), .val (.int (6 : Int32)), .val (.int (4 : Int32)), .val (.ref wREAD)] [(.ref wREAD)])) t
            exact k
          obtain ⟨T42, X42, e42, st42⟩ := getF X39 hx hZ hown (host := "") (Or.inl (hw _ (List.mem_of_getElem? (i := 29) rfl))) Via.refl e39 (EN.2.2.2.2.2.1.2.2.ext O25.2) (g := (mkF m 21 #[.val (.int p2_0), .val (.ref b21), .val (.int (6 : Int32)), .val (.int (4 : Int32)), .val (.ref wREAD)] [(.ref wREAD)])) rfl rfl (hb hby d2_21)
          refine own_by (T' := T42) (g' := (mkF m 24 #[.val (.int p2_0), .val (.ref b21), .val (.int (6 : Int32)), .val (.int (4 : Int32)), .val (.ref wREAD)] [(.int (5 : Int32))])) st42 ?_
          refine own_by (T' := T42) (g' := (mkF m 25 #[.val (.int p2_0), .val (.ref b21), .val (.int (6 : Int32)), .val (.int (4 : Int32)), .val (.ref wREAD)] [(.int p2_0), (.int (5 : Int32))])) (fun t k => ?_) ?_
          · show Steps p.tables e below (T42.setTop (mkF m 24 #[.val (.int p2_0), .val (.ref b21), .val (.int (6 : Int32)), .val (.int (4 : Int32)), .val (.ref wREAD)] [(.int (5 : Int32))])) t
            refine XS.iloadN X42.here hx rfl (hb hby d2_24) rfl ?_
            show Steps p.tables e below (T42.setTop (mkF m 25 #[.val (.int p2_0), .val (.ref b21), .val (.int (6 : Int32)), .val (.int (4 : Int32)), .val (.ref wREAD)] [(.int p2_0), (.int (5 : Int32))])) t
            exact k
          by_cases hc43 : p2_0 = (5 : Int32)
          · skip
            refine own_by (T' := T42) (g' := (mkF m 30 #[.val (.int p2_0), .val (.ref b21), .val (.int (6 : Int32)), .val (.int (4 : Int32)), .val (.ref wREAD)] [(.ref wREAD)])) (fun t k => ?_) ?_
            · show Steps p.tables e below (T42.setTop (mkF m 25 #[.val (.int p2_0), .val (.ref b21), .val (.int (6 : Int32)), .val (.int (4 : Int32)), .val (.ref wREAD)] [(.int p2_0), (.int (5 : Int32))])) t
              refine XS.icmpNo X42.here hx rfl (hb hby d2_25) rfl (teq hc43.symm).2 ?_
              show Steps p.tables e below (T42.setTop (mkF m 28 #[.val (.int p2_0), .val (.ref b21), .val (.int (6 : Int32)), .val (.int (4 : Int32)), .val (.ref wREAD)] [])) t
              refine XS.aload X42.here hx rfl (hb hby d2_28) rfl rfl ?_
              show Steps p.tables e below (T42.setTop (mkF m 30 #[.val (.int p2_0), .val (.ref b21), .val (.int (6 : Int32)), .val (.int (4 : Int32)), .val (.ref wREAD)] [(.ref wREAD)])) t
              exact k
            rw [show own_F2 p2_0 w_VALUES wGOSSIP wSCHEMA_PUSH wSCHEMA_PULL wMUTATION wREAD wRANGE_READ kw_VALUES = (.ref wREAD) from ((if_neg hc31).trans ((if_neg hc34).trans ((if_neg hc37).trans ((if_neg hc40).trans ((if_pos hc43).trans rfl)))))]
            exact own_retR X42 hx Bd.returns rfl rfl rfl (hb hby d2_30) hlk (by decide) (by decide) ⟨rfl, N27, (by rw [e42]; exact K24)⟩
          · skip
            refine own_by (T' := T42) (g' := (mkF m 16 #[.val (.int p2_0), .val (.ref b21), .val (.int (6 : Int32)), .val (.int (5 : Int32)), .val (.ref wREAD)] [(.int (5 : Int32)), (.ref b21)])) (fun t k => ?_) ?_
            · show Steps p.tables e below (T42.setTop (mkF m 25 #[.val (.int p2_0), .val (.ref b21), .val (.int (6 : Int32)), .val (.int (4 : Int32)), .val (.ref wREAD)] [(.int p2_0), (.int (5 : Int32))])) t
              refine XS.icmpYes X42.here hx rfl (pc0 := 25) (pc' := 31) rfl (hb hby d2_25) rfl (feq (fun q => hc43 q.symm)).2 (by decide) (by decide) ?_
              show Steps p.tables e below (T42.setTop (mkF m 31 #[.val (.int p2_0), .val (.ref b21), .val (.int (6 : Int32)), .val (.int (4 : Int32)), .val (.ref wREAD)] [])) t
              refine XS.iinc X42.here hx rfl (hb hby d2_31) rfl (l' := #[.val (.int p2_0), .val (.ref b21), .val (.int (6 : Int32)), .val (.int (5 : Int32)), .val (.ref wREAD)]) rfl ?_
              show Steps p.tables e below (T42.setTop (mkF m 34 #[.val (.int p2_0), .val (.ref b21), .val (.int (6 : Int32)), .val (.int (5 : Int32)), .val (.ref wREAD)] [])) t
              refine XS.goto X42.here hx rfl (pc0 := 34) (pc' := 9) rfl (hb hby d2_34) (by decide) (by decide) ?_
              show Steps p.tables e below (T42.setTop (mkF m 9 #[.val (.int p2_0), .val (.ref b21), .val (.int (6 : Int32)), .val (.int (5 : Int32)), .val (.ref wREAD)] [])) t
              refine XS.iloadN X42.here hx rfl (hb hby d2_9) rfl ?_
              show Steps p.tables e below (T42.setTop (mkF m 10 #[.val (.int p2_0), .val (.ref b21), .val (.int (6 : Int32)), .val (.int (5 : Int32)), .val (.ref wREAD)] [(.int (5 : Int32))])) t
              refine XS.iloadN X42.here hx rfl (hb hby d2_10) rfl ?_
              show Steps p.tables e below (T42.setTop (mkF m 11 #[.val (.int p2_0), .val (.ref b21), .val (.int (6 : Int32)), .val (.int (5 : Int32)), .val (.ref wREAD)] [(.int (6 : Int32)), (.int (5 : Int32))])) t
              refine XS.icmpNo X42.here hx rfl (hb hby d2_11) rfl (tlt (by decide : (5 : Int32) < (6 : Int32))).2.1 ?_
              show Steps p.tables e below (T42.setTop (mkF m 14 #[.val (.int p2_0), .val (.ref b21), .val (.int (6 : Int32)), .val (.int (5 : Int32)), .val (.ref wREAD)] [])) t
              refine XS.aloadN X42.here hx rfl (hb hby d2_14) rfl rfl ?_
              show Steps p.tables e below (T42.setTop (mkF m 15 #[.val (.int p2_0), .val (.ref b21), .val (.int (6 : Int32)), .val (.int (5 : Int32)), .val (.ref wREAD)] [(.ref b21)])) t
              refine XS.iloadN X42.here hx rfl (hb hby d2_15) rfl ?_
              show Steps p.tables e below (T42.setTop (mkF m 16 #[.val (.int p2_0), .val (.ref b21), .val (.int (6 : Int32)), .val (.int (5 : Int32)), .val (.ref wREAD)] [(.int (5 : Int32)), (.ref b21)])) t
              exact k
            obtain ⟨cl44, Ar44, q44, S44, N44, H44, G44⟩ := id f22
            have hin44 := inb_of S44 (j := (5 : Int32)) ⟨by decide, by decide⟩
            refine own_by (T' := T42) (g' := (mkF m 17 #[.val (.int p2_0), .val (.ref b21), .val (.int (6 : Int32)), .val (.int (5 : Int32)), .val (.ref wREAD)] [(.ref wRANGE_READ)])) (fun t k => X42.aaload hx (j := (5 : Int32)) (v := (.ref wRANGE_READ)) (by rw [e42]; exact Ar44.1) (State.isArrayOf_alike hZ.alike Ar44.2.1) rfl Ar44.2.2 hin44 (H44.at hin44 rfl) (g := (mkF m 16 #[.val (.int p2_0), .val (.ref b21), .val (.int (6 : Int32)), .val (.int (5 : Int32)), .val (.ref wREAD)] [(.int (5 : Int32)), (.ref b21)])) rfl rfl (hb hby d2_16) t k) ?_
            refine own_by (T' := T42) (g' := (mkF m 21 #[.val (.int p2_0), .val (.ref b21), .val (.int (6 : Int32)), .val (.int (5 : Int32)), .val (.ref wRANGE_READ)] [(.ref wRANGE_READ)])) (fun t k => ?_) ?_
            · show Steps p.tables e below (T42.setTop (mkF m 17 #[.val (.int p2_0), .val (.ref b21), .val (.int (6 : Int32)), .val (.int (5 : Int32)), .val (.ref wREAD)] [(.ref wRANGE_READ)])) t
              refine XS.astore X42.here hx rfl (hb hby d2_17) rfl rfl (l' := #[.val (.int p2_0), .val (.ref b21), .val (.int (6 : Int32)), .val (.int (5 : Int32)), .val (.ref wRANGE_READ)]) rfl ?_
              show Steps p.tables e below (T42.setTop (mkF m 19 #[.val (.int p2_0), .val (.ref b21), .val (.int (6 : Int32)), .val (.int (5 : Int32)), .val (.ref wRANGE_READ)] [])) t
              refine XS.aload X42.here hx rfl (hb hby d2_19) rfl rfl ?_
              show Steps p.tables e below (T42.setTop (mkF m 21 #[.val (.int p2_0), .val (.ref b21), .val (.int (6 : Int32)), .val (.int (5 : Int32)), .val (.ref wRANGE_READ)] [(.ref wRANGE_READ)])) t
              exact k
            obtain ⟨T45, X45, e45, st45⟩ := getF X42 hx hZ hown (host := "") (Or.inl (hw _ (List.mem_of_getElem? (i := 29) rfl))) Via.refl e42 (EN.2.2.2.2.2.2.2.2.ext O25.2) (g := (mkF m 21 #[.val (.int p2_0), .val (.ref b21), .val (.int (6 : Int32)), .val (.int (5 : Int32)), .val (.ref wRANGE_READ)] [(.ref wRANGE_READ)])) rfl rfl (hb hby d2_21)
            refine own_by (T' := T45) (g' := (mkF m 24 #[.val (.int p2_0), .val (.ref b21), .val (.int (6 : Int32)), .val (.int (5 : Int32)), .val (.ref wRANGE_READ)] [(.int (6 : Int32))])) st45 ?_
            refine own_by (T' := T45) (g' := (mkF m 25 #[.val (.int p2_0), .val (.ref b21), .val (.int (6 : Int32)), .val (.int (5 : Int32)), .val (.ref wRANGE_READ)] [(.int p2_0), (.int (6 : Int32))])) (fun t k => ?_) ?_
            · show Steps p.tables e below (T45.setTop (mkF m 24 #[.val (.int p2_0), .val (.ref b21), .val (.int (6 : Int32)), .val (.int (5 : Int32)), .val (.ref wRANGE_READ)] [(.int (6 : Int32))])) t
              refine XS.iloadN X45.here hx rfl (hb hby d2_24) rfl ?_
              show Steps p.tables e below (T45.setTop (mkF m 25 #[.val (.int p2_0), .val (.ref b21), .val (.int (6 : Int32)), .val (.int (5 : Int32)), .val (.ref wRANGE_READ)] [(.int p2_0), (.int (6 : Int32))])) t
              exact k
            by_cases hc46 : p2_0 = (6 : Int32)
            · skip
              refine own_by (T' := T45) (g' := (mkF m 30 #[.val (.int p2_0), .val (.ref b21), .val (.int (6 : Int32)), .val (.int (5 : Int32)), .val (.ref wRANGE_READ)] [(.ref wRANGE_READ)])) (fun t k => ?_) ?_
              · show Steps p.tables e below (T45.setTop (mkF m 25 #[.val (.int p2_0), .val (.ref b21), .val (.int (6 : Int32)), .val (.int (5 : Int32)), .val (.ref wRANGE_READ)] [(.int p2_0), (.int (6 : Int32))])) t
                refine XS.icmpNo X45.here hx rfl (hb hby d2_25) rfl (teq hc46.symm).2 ?_
                show Steps p.tables e below (T45.setTop (mkF m 28 #[.val (.int p2_0), .val (.ref b21), .val (.int (6 : Int32)), .val (.int (5 : Int32)), .val (.ref wRANGE_READ)] [])) t
                refine XS.aload X45.here hx rfl (hb hby d2_28) rfl rfl ?_
                show Steps p.tables e below (T45.setTop (mkF m 30 #[.val (.int p2_0), .val (.ref b21), .val (.int (6 : Int32)), .val (.int (5 : Int32)), .val (.ref wRANGE_READ)] [(.ref wRANGE_READ)])) t
                exact k
              rw [show own_F2 p2_0 w_VALUES wGOSSIP wSCHEMA_PUSH wSCHEMA_PULL wMUTATION wREAD wRANGE_READ kw_VALUES = (.ref wRANGE_READ) from ((if_neg hc31).trans ((if_neg hc34).trans ((if_neg hc37).trans ((if_neg hc40).trans ((if_neg hc43).trans ((if_pos hc46).trans rfl))))))]
              exact own_retR X45 hx Bd.returns rfl rfl rfl (hb hby d2_30) hlk (by decide) (by decide) ⟨rfl, N27, (by rw [e45]; exact K24)⟩
            · skip
              refine own_by (T' := T45) (g' := (mkF m 38 #[.val (.int p2_0), .val (.ref b21), .val (.int (6 : Int32)), .val (.int (6 : Int32)), .val (.ref wRANGE_READ)] [.null])) (fun t k => ?_) ?_
              · show Steps p.tables e below (T45.setTop (mkF m 25 #[.val (.int p2_0), .val (.ref b21), .val (.int (6 : Int32)), .val (.int (5 : Int32)), .val (.ref wRANGE_READ)] [(.int p2_0), (.int (6 : Int32))])) t
                refine XS.icmpYes X45.here hx rfl (pc0 := 25) (pc' := 31) rfl (hb hby d2_25) rfl (feq (fun q => hc46 q.symm)).2 (by decide) (by decide) ?_
                show Steps p.tables e below (T45.setTop (mkF m 31 #[.val (.int p2_0), .val (.ref b21), .val (.int (6 : Int32)), .val (.int (5 : Int32)), .val (.ref wRANGE_READ)] [])) t
                refine XS.iinc X45.here hx rfl (hb hby d2_31) rfl (l' := #[.val (.int p2_0), .val (.ref b21), .val (.int (6 : Int32)), .val (.int (6 : Int32)), .val (.ref wRANGE_READ)]) rfl ?_
                show Steps p.tables e below (T45.setTop (mkF m 34 #[.val (.int p2_0), .val (.ref b21), .val (.int (6 : Int32)), .val (.int (6 : Int32)), .val (.ref wRANGE_READ)] [])) t
                refine XS.goto X45.here hx rfl (pc0 := 34) (pc' := 9) rfl (hb hby d2_34) (by decide) (by decide) ?_
                show Steps p.tables e below (T45.setTop (mkF m 9 #[.val (.int p2_0), .val (.ref b21), .val (.int (6 : Int32)), .val (.int (6 : Int32)), .val (.ref wRANGE_READ)] [])) t
                refine XS.iloadN X45.here hx rfl (hb hby d2_9) rfl ?_
                show Steps p.tables e below (T45.setTop (mkF m 10 #[.val (.int p2_0), .val (.ref b21), .val (.int (6 : Int32)), .val (.int (6 : Int32)), .val (.ref wRANGE_READ)] [(.int (6 : Int32))])) t
                refine XS.iloadN X45.here hx rfl (hb hby d2_10) rfl ?_
                show Steps p.tables e below (T45.setTop (mkF m 11 #[.val (.int p2_0), .val (.ref b21), .val (.int (6 : Int32)), .val (.int (6 : Int32)), .val (.ref wRANGE_READ)] [(.int (6 : Int32)), (.int (6 : Int32))])) t
                refine XS.icmpYes X45.here hx rfl (pc0 := 11) (pc' := 37) rfl (hb hby d2_11) rfl (flt (by decide : ¬ ((6 : Int32) < (6 : Int32)))).2.1 (by decide) (by decide) ?_
                show Steps p.tables e below (T45.setTop (mkF m 37 #[.val (.int p2_0), .val (.ref b21), .val (.int (6 : Int32)), .val (.int (6 : Int32)), .val (.ref wRANGE_READ)] [])) t
                refine XS.aconstNull X45.here hx rfl (hb hby d2_37) ?_
                show Steps p.tables e below (T45.setTop (mkF m 38 #[.val (.int p2_0), .val (.ref b21), .val (.int (6 : Int32)), .val (.int (6 : Int32)), .val (.ref wRANGE_READ)] [.null])) t
                exact k
              rw [show own_F2 p2_0 w_VALUES wGOSSIP wSCHEMA_PUSH wSCHEMA_PULL wMUTATION wREAD wRANGE_READ kw_VALUES = .null from ((if_neg hc31).trans ((if_neg hc34).trans ((if_neg hc37).trans ((if_neg hc40).trans ((if_neg hc43).trans ((if_neg hc46).trans rfl))))))]
              exact own_retR X45 hx Bd.returns rfl rfl rfl (hb hby d2_38) hlk (by decide) (by decide) ⟨rfl, N27, (by rw [e45]; exact K24)⟩
theorem pd__I_Lcom_example_vasto_vasto_messaging_Verb_ : parseMethodDescriptor "(I)Lcom/example/vasto/vasto/messaging/Verb;" = some ⟨[.int], some (.object "com/example/vasto/vasto/messaging/Verb")⟩ := by decide +kernel
theorem pd___I : parseMethodDescriptor "()I" = some ⟨[], some .int⟩ := by decide +kernel
def own_F0_14_1 (p0_0 : Int32) (p0_1 : Int32) (i48 : Int32) : Int32 := (if i48 = (1 : Int32) then (if (own_F4 (1 : Int32)) = i48 then (1 : Int32) else (0 : Int32)) else (if i48 = (2 : Int32) then (if (own_F4 (2 : Int32)) = i48 then (1 : Int32) else (0 : Int32)) else (if i48 = (3 : Int32) then (if (own_F4 (3 : Int32)) = i48 then (1 : Int32) else (0 : Int32)) else (if i48 = (4 : Int32) then (if (own_F4 (4 : Int32)) = i48 then (1 : Int32) else (0 : Int32)) else (if i48 = (5 : Int32) then (if (own_F4 (5 : Int32)) = i48 then (1 : Int32) else (0 : Int32)) else (if i48 = (6 : Int32) then (if (own_F4 (6 : Int32)) = i48 then (1 : Int32) else (0 : Int32)) else (1 : Int32)))))))
def own_F0 (p0_0 : Int32) (p0_1 : Int32) : Int32 := (if (p0_1 &&& (1 : Int32)) = (0 : Int32) then (own_F0_14_1 p0_0 p0_1 p0_0) else (own_F0_14_1 p0_0 p0_1 (p0_0 &&& (7 : Int32))))
theorem own_ef0 (m : MethodId) (x0 : Int32) (x1 : Int32) : entryFrame m #[(.int x0), (.int x1)] maxLocals = mkF m 0 #[.val (.int x0), .val (.int x1), .unset, .unset, .unset] [] := by first | (simp [entryFrame, mkF, argsToLocals, Value.category, maxLocals]; done) | rfl
def own_Q0 (r : Int32) (h0 : Heap) (n0 : Nat) (v : Option Value) (h : Heap) (L : List Loc) : Prop := v = some (.int r) ∧ Fr n0 L
set_option maxRecDepth 65536 in
set_option maxHeartbeats 40000000 in
theorem own_rm0 (l : Launch) (Z : State) (a0 : Array Value) (hw : ∀ d ∈ tables_1, d.before a0 Z = true) (ws : List Jvm.Cond) (p0_0 : Int32) (p0_1 : Int32) (w_VALUES : Addr) (wGOSSIP : Addr) (wSCHEMA_PUSH : Addr) (wSCHEMA_PULL : Addr) (wMUTATION : Addr) (wREAD : Addr) (wRANGE_READ : Addr) (kw_VALUES : ClassId) (h0 : Heap) (n0 : Nat) (Z0 : n0 ≤ h0.size) (O0 : Old Z n0 h0) (EN : own_EN Z w_VALUES wGOSSIP wSCHEMA_PUSH wSCHEMA_PULL wMUTATION wREAD wRANGE_READ kw_VALUES) :
    MetFree l x (head1 (Jvm.Cond.code x code maxLocals ret :: ws) room_1) (fun a U => a = #[(.int p0_0), (.int p0_1)] ∧ Z.Warmed39 U.vm ∧ U.heap = h0) (fun _ _ _ _ _ => True) (fun _ U o U' => ∃ v L, o = .returned v ∧ own_Q0 (own_F0 p0_0 p0_1) h0 n0 v U'.heap L ∧ FrameEnd U o U' L room_1.cells room_1.slots) := by
  refine MetFree.of_bodySF (plainFor_of_name pn_com_example_vasto_vasto_messaging_VerbOfPinLaw) hisR ?_
  intro p e s m args below meth c s₁ Bd hml0 hP hK
  obtain ⟨rfl, hZ, hh⟩ := hP
  have hx := Bd.exec
  have hby := Bd.bytes
  have hlk : meth.locks = false := BodyLoose.notSynchronized Bd
  have hml : c.maxLocals = 5 := hml0
  have hown : s.vm.findClass "com/example/vasto/vasto/messaging/VerbOfPinLaw" = some m.cls := findClass_of_methodNamed Bd.named
  have hnm := (name_of_methodNamed Bd.named Bd.method).1
  have X0 : Stand p l e room_1 s m #[(.int p0_0), (.int p0_1)] below meth c s₁ [] 0 0 := Stand.of_body Bd
  have e0 : s₁.heap = h0 := by rw [← hh, Bd.state]; rfl
  have N0 := Fr.nil n0
  show own_Go p e below (own_P s below room_1 (own_Q0 (own_F0 p0_0 p0_1) h0 n0)) s₁ (entryFrame m #[(.int p0_0), (.int p0_1)] maxLocals)
  refine own_in (own_ef0 m p0_0 p0_1) ?_
  refine own_by (T' := s₁) (g' := (mkF m 3 #[.val (.int p0_0), .val (.int p0_1), .unset, .unset, .unset] [(.int (p0_1 &&& (1 : Int32)))])) (fun t k => ?_) ?_
  · show Steps p.tables e below (s₁.setTop (mkF m 0 #[.val (.int p0_0), .val (.int p0_1), .unset, .unset, .unset] [])) t
    refine XS.iloadN X0.here hx rfl (hb hby at_0) rfl ?_
    show Steps p.tables e below (s₁.setTop (mkF m 1 #[.val (.int p0_0), .val (.int p0_1), .unset, .unset, .unset] [(.int p0_1)])) t
    refine XS.iconst X0.here hx rfl (hb hby at_1) ?_
    show Steps p.tables e below (s₁.setTop (mkF m 2 #[.val (.int p0_0), .val (.int p0_1), .unset, .unset, .unset] [(.int (1 : Int32)), (.int p0_1)])) t
    refine XS.iand X0.here hx rfl (hb hby at_2) rfl ?_
    show Steps p.tables e below (s₁.setTop (mkF m 3 #[.val (.int p0_0), .val (.int p0_1), .unset, .unset, .unset] [(.int (p0_1 &&& (1 : Int32)))])) t
    exact k
  have J0_1 : ∀ (T49 : State) (L49 : List Loc) (i48 : Int32), Stand p l e room_1 s m #[(.int p0_0), (.int p0_1)] below meth c T49 L49 0 0 → T49.heap = h0 → Fr n0 L49 → own_Go p e below (own_P s below room_1 (own_Q0 (own_F0_14_1 p0_0 p0_1 i48) h0 n0)) T49 (mkF m 14 #[.val (.int p0_0), .val (.int p0_1), .unset, .unset, .unset] [(.int i48)]) := by
    intro T49 L49 i48 X49 e49 N49
    refine own_by (T' := T49) (g' := (mkF m 16 #[.val (.int p0_0), .val (.int p0_1), .val (.int i48), .unset, .unset] [(.int i48)])) (fun t k => ?_) ?_
    · show Steps p.tables e below (T49.setTop (mkF m 14 #[.val (.int p0_0), .val (.int p0_1), .unset, .unset, .unset] [(.int i48)])) t
      refine XS.istoreN X49.here hx rfl (hb hby at_14) rfl (l' := #[.val (.int p0_0), .val (.int p0_1), .val (.int i48), .unset, .unset]) rfl ?_
      show Steps p.tables e below (T49.setTop (mkF m 15 #[.val (.int p0_0), .val (.int p0_1), .val (.int i48), .unset, .unset] [])) t
      refine XS.iloadN X49.here hx rfl (hb hby at_15) rfl ?_
      show Steps p.tables e below (T49.setTop (mkF m 16 #[.val (.int p0_0), .val (.int p0_1), .val (.int i48), .unset, .unset] [(.int i48)])) t
      exact k
    obtain ⟨v50, _, ⟨T50, L50, k50, n50⟩, -, X50, ⟨Lc50, hQ50, l50, y50, z50⟩, st50⟩ := Jvm.LawKit.callS X49 hx (y := (⟨"com/example/vasto/vasto/messaging/VerbOfPinLaw", "expectedOf", "(I)Lcom/example/vasto/vasto/messaging/Verb;"⟩ : MethodName)) hown (mvT hZ (hw _ (List.mem_of_getElem? (i := 0) rfl))) (mvT hZ (hw _ (List.mem_of_getElem? (i := 1) rfl))) (mvT hZ (hw _ (List.mem_of_getElem? (i := 2) rfl))) (mvT hZ (hw _ (List.mem_of_getElem? (i := 3) rfl))) (by decide) (backOf (W := 0) (own_rm1 l Z a0 hw [] i48 w_VALUES wGOSSIP wSCHEMA_PUSH wSCHEMA_PULL wMUTATION wREAD wRANGE_READ kw_VALUES h0 n0 Z0 O0 EN) hZ (hw _ (List.mem_of_getElem? (i := 3) rfl)) (hw _ (List.mem_of_getElem? (i := 2) rfl)) (by decide) (by decide)) (g := (mkF m 16 #[.val (.int p0_0), .val (.int p0_1), .val (.int i48), .unset, .unset] [(.int i48)])) rfl (by rw [hml]; rfl) (argsL := [(.int i48)]) (rest := []) (lenOf pd__I_Lcom_example_vasto_vasto_messaging_Verb_ rfl) rfl (by show 2 * 0 + _ ≤ _; exact Nat.le_of_eq rfl) (hb hby at_16) (fun _ _ => ⟨rfl, e49, (by decide : 0 + 0 ≤ _), (by decide : 0 + 0 ≤ _)⟩)
    dsimp only [Pt.U, Pt.locs, Pt.cells, Pt.slots] at X50 l50 y50 z50 st50 hQ50
    subst l50 y50 z50
    obtain ⟨hv50, M50, e50⟩ := hQ50
    have N51 := Fr.app N49 M50
    by_cases hc52 : i48 = (1 : Int32)
    · skip
      obtain rfl : v50 = some (.ref wGOSSIP) := hv50.trans (congrArg some ((if_pos hc52).trans rfl))
      refine own_by (T' := T50) (g' := (mkF m 19 #[.val (.int p0_0), .val (.int p0_1), .val (.int i48), .unset, .unset] [(.ref wGOSSIP)])) st50 ?_
      refine own_by (T' := T50) (g' := (mkF m 21 #[.val (.int p0_0), .val (.int p0_1), .val (.int i48), .val (.ref wGOSSIP), .unset] [(.int i48)])) (fun t k => ?_) ?_
      · show Steps p.tables e below (T50.setTop (mkF m 19 #[.val (.int p0_0), .val (.int p0_1), .val (.int i48), .unset, .unset] [(.ref wGOSSIP)])) t
        refine XS.astoreN X50.here hx rfl (hb hby at_19) rfl rfl (l' := #[.val (.int p0_0), .val (.int p0_1), .val (.int i48), .val (.ref wGOSSIP), .unset]) rfl ?_
        show Steps p.tables e below (T50.setTop (mkF m 20 #[.val (.int p0_0), .val (.int p0_1), .val (.int i48), .val (.ref wGOSSIP), .unset] [])) t
        refine XS.iloadN X50.here hx rfl (hb hby at_20) rfl ?_
        show Steps p.tables e below (T50.setTop (mkF m 21 #[.val (.int p0_0), .val (.int p0_1), .val (.int i48), .val (.ref wGOSSIP), .unset] [(.int i48)])) t
        exact k
      obtain ⟨v53, _, ⟨T53, L53, k53, n53⟩, -, X53, ⟨Lc53, hQ53, l53, y53, z53⟩, st53⟩ := Jvm.LawKit.callS X50 hx (y := (⟨"com/example/vasto/vasto/messaging/Verb", "of", "(I)Lcom/example/vasto/vasto/messaging/Verb;"⟩ : MethodName)) hown (mvT hZ (hw _ (List.mem_of_getElem? (i := 4) rfl))) (mvT hZ (hw _ (List.mem_of_getElem? (i := 5) rfl))) (mvT hZ (hw _ (List.mem_of_getElem? (i := 6) rfl))) (mvT hZ (hw _ (List.mem_of_getElem? (i := 7) rfl))) (by decide) (backOf (W := 0) (own_rm2 l Z a0 hw [] i48 w_VALUES wGOSSIP wSCHEMA_PUSH wSCHEMA_PULL wMUTATION wREAD wRANGE_READ kw_VALUES h0 n0 Z0 O0 EN) hZ (hw _ (List.mem_of_getElem? (i := 7) rfl)) (hw _ (List.mem_of_getElem? (i := 6) rfl)) (by decide) (by decide)) (g := (mkF m 21 #[.val (.int p0_0), .val (.int p0_1), .val (.int i48), .val (.ref wGOSSIP), .unset] [(.int i48)])) rfl (by rw [hml]; rfl) (argsL := [(.int i48)]) (rest := []) (lenOf pd__I_Lcom_example_vasto_vasto_messaging_Verb_ rfl) rfl (by show 2 * 0 + _ ≤ _; exact Nat.le_of_eq rfl) (hb hby at_21) (fun _ _ => ⟨rfl, e50, (by decide : 0 + 1 ≤ _), (by decide : 0 + 6 ≤ _)⟩)
      dsimp only [Pt.U, Pt.locs, Pt.cells, Pt.slots] at X53 l53 y53 z53 st53 hQ53
      subst l53 y53 z53
      obtain ⟨hv53, M53, K53⟩ := hQ53
      have K54 : Keep h0 T53.heap [] := (Keep.refl h0 []).trans K53 all0
      have O55 := O0.keep K53 all0
      have Z56 := Nat.le_trans Z0 K53.1
      have N57 := Fr.app N51 M53
      obtain rfl : v53 = some (.ref wGOSSIP) := hv53.trans (congrArg some ((if_pos hc52).trans rfl))
      refine own_by (T' := T53) (g' := (mkF m 24 #[.val (.int p0_0), .val (.int p0_1), .val (.int i48), .val (.ref wGOSSIP), .unset] [(.ref wGOSSIP)])) st53 ?_
      refine own_by (T' := T53) (g' := (mkF m 39 #[.val (.int p0_0), .val (.int p0_1), .val (.int i48), .val (.ref wGOSSIP), .val (.ref wGOSSIP)] [(.ref wGOSSIP)])) (fun t k => ?_) ?_
      · show Steps p.tables e below (T53.setTop (mkF m 24 #[.val (.int p0_0), .val (.int p0_1), .val (.int i48), .val (.ref wGOSSIP), .unset] [(.ref wGOSSIP)])) t
        refine XS.astore X53.here hx rfl (hb hby at_24) rfl rfl (l' := #[.val (.int p0_0), .val (.int p0_1), .val (.int i48), .val (.ref wGOSSIP), .val (.ref wGOSSIP)]) rfl ?_
        show Steps p.tables e below (T53.setTop (mkF m 26 #[.val (.int p0_0), .val (.int p0_1), .val (.int i48), .val (.ref wGOSSIP), .val (.ref wGOSSIP)] [])) t
        refine XS.aload X53.here hx rfl (hb hby at_26) rfl rfl ?_
        show Steps p.tables e below (T53.setTop (mkF m 28 #[.val (.int p0_0), .val (.int p0_1), .val (.int i48), .val (.ref wGOSSIP), .val (.ref wGOSSIP)] [(.ref wGOSSIP)])) t
        refine XS.aloadN X53.here hx rfl (hb hby at_28) rfl rfl ?_
        show Steps p.tables e below (T53.setTop (mkF m 29 #[.val (.int p0_0), .val (.int p0_1), .val (.int i48), .val (.ref wGOSSIP), .val (.ref wGOSSIP)] [(.ref wGOSSIP), (.ref wGOSSIP)])) t
        refine Jvm.RoadKit.acmp (g := (mkF m 29 #[.val (.int p0_0), .val (.int p0_1), .val (.int i48), .val (.ref wGOSSIP), .val (.ref wGOSSIP)] [(.ref wGOSSIP), (.ref wGOSSIP)])) X53 hx rfl rfl rfl (pc0 := 29) (pc' := 34) (same := true) rfl (hb hby at_29) rfl (decide_eq_true rfl) (by decide) (by decide) ?_
        show Steps p.tables e below (T53.setTop (mkF m 34 #[.val (.int p0_0), .val (.int p0_1), .val (.int i48), .val (.ref wGOSSIP), .val (.ref wGOSSIP)] [])) t
        refine XS.aloadN X53.here hx rfl (hb hby at_34) rfl rfl ?_
        show Steps p.tables e below (T53.setTop (mkF m 35 #[.val (.int p0_0), .val (.int p0_1), .val (.int i48), .val (.ref wGOSSIP), .val (.ref wGOSSIP)] [(.ref wGOSSIP)])) t
        refine XS.ifnullNo X53.here hx rfl (hb hby at_35) rfl ?_
        show Steps p.tables e below (T53.setTop (mkF m 38 #[.val (.int p0_0), .val (.int p0_1), .val (.int i48), .val (.ref wGOSSIP), .val (.ref wGOSSIP)] [])) t
        refine XS.aloadN X53.here hx rfl (hb hby at_38) rfl rfl ?_
        show Steps p.tables e below (T53.setTop (mkF m 39 #[.val (.int p0_0), .val (.int p0_1), .val (.int i48), .val (.ref wGOSSIP), .val (.ref wGOSSIP)] [(.ref wGOSSIP)])) t
        exact k
      obtain ⟨cq58, kq58, q58a, q58b, q58c⟩ := isOf hZ rfl (EN.2.1.2.1.ext O55.2)
      obtain ⟨v58, _, ⟨T58, L58, k58, n58⟩, -, X58, ⟨Lc58, hQ58, l58, y58, z58⟩, st58⟩ := X53.virtualBack hx (y := (⟨"com/example/vasto/vasto/messaging/Verb", "code", "()I"⟩ : MethodName)) (z := (⟨"com/example/vasto/vasto/messaging/Verb", "code", "()I"⟩ : MethodName)) hown (mvT hZ (hw _ (List.mem_of_getElem? (i := 32) rfl))) (mvT hZ (hw _ (List.mem_of_getElem? (i := 33) rfl))) (notFace_of_selects (args := #[]) (mvT hZ (hw _ (List.mem_of_getElem? (i := 35) rfl)))) (mvT hZ (hw _ (List.mem_of_getElem? (i := 35) rfl))) (mvT hZ (hw _ (List.mem_of_getElem? (i := 34) rfl))) (by decide) (backOf (W := 0) (own_rm4 l Z a0 hw [] wGOSSIP (1 : Int32) T53.heap n0 Z56 (EN.2.1.2.2.ext O55.2)) hZ (hw _ (List.mem_of_getElem? (i := 36) rfl)) (hw _ (List.mem_of_getElem? (i := 6) rfl)) (by decide) (by decide)) q58a q58c (g := (mkF m 39 #[.val (.int p0_0), .val (.int p0_1), .val (.int i48), .val (.ref wGOSSIP), .val (.ref wGOSSIP)] [(.ref wGOSSIP)])) rfl (by rw [hml]; rfl) (Steps.refl _) (argsL := []) (rest := []) (lenOf pd___I rfl) rfl (by show 2 * 0 + _ ≤ _; exact Nat.le_of_eq rfl) (hb hby at_39) (fun _ _ => ⟨rfl, rfl, (by decide : 1 + 0 ≤ _), (by decide : 6 + 0 ≤ _)⟩)
      dsimp only [Pt.U, Pt.locs, Pt.cells, Pt.slots] at X58 l58 y58 z58 st58 hQ58
      subst l58 y58 z58
      obtain ⟨rfl, M58, e58⟩ := hQ58
      have N59 := Fr.app N57 M58
      refine own_via (T' := T58) (g' := (mkF m 42 #[.val (.int p0_0), .val (.int p0_1), .val (.int i48), .val (.ref wGOSSIP), .val (.ref wGOSSIP)] [(.int (own_F4 (1 : Int32)))])) st58 ?_
      refine own_by (T' := T58) (g' := (mkF m 43 #[.val (.int p0_0), .val (.int p0_1), .val (.int i48), .val (.ref wGOSSIP), .val (.ref wGOSSIP)] [(.int i48), (.int (own_F4 (1 : Int32)))])) (fun t k => ?_) ?_
      · show Steps p.tables e below (T58.setTop (mkF m 42 #[.val (.int p0_0), .val (.int p0_1), .val (.int i48), .val (.ref wGOSSIP), .val (.ref wGOSSIP)] [(.int (own_F4 (1 : Int32)))])) t
        refine XS.iloadN X58.here hx rfl (hb hby at_42) rfl ?_
        show Steps p.tables e below (T58.setTop (mkF m 43 #[.val (.int p0_0), .val (.int p0_1), .val (.int i48), .val (.ref wGOSSIP), .val (.ref wGOSSIP)] [(.int i48), (.int (own_F4 (1 : Int32)))])) t
        exact k
      by_cases hc60 : (own_F4 (1 : Int32)) = i48
      · skip
        refine own_by (T' := T58) (g' := (mkF m 49 #[.val (.int p0_0), .val (.int p0_1), .val (.int i48), .val (.ref wGOSSIP), .val (.ref wGOSSIP)] [(.int (1 : Int32))])) (fun t k => ?_) ?_
        · show Steps p.tables e below (T58.setTop (mkF m 43 #[.val (.int p0_0), .val (.int p0_1), .val (.int i48), .val (.ref wGOSSIP), .val (.ref wGOSSIP)] [(.int i48), (.int (own_F4 (1 : Int32)))])) t
          refine XS.icmpYes X58.here hx rfl (pc0 := 43) (pc' := 48) rfl (hb hby at_43) rfl (teq hc60).1 (by decide) (by decide) ?_
          show Steps p.tables e below (T58.setTop (mkF m 48 #[.val (.int p0_0), .val (.int p0_1), .val (.int i48), .val (.ref wGOSSIP), .val (.ref wGOSSIP)] [])) t
          refine XS.iconst X58.here hx rfl (hb hby at_48) ?_
          show Steps p.tables e below (T58.setTop (mkF m 49 #[.val (.int p0_0), .val (.int p0_1), .val (.int i48), .val (.ref wGOSSIP), .val (.ref wGOSSIP)] [(.int (1 : Int32))])) t
          exact k
        rw [show own_F0_14_1 p0_0 p0_1 i48 = (1 : Int32) from ((if_pos hc52).trans ((if_pos hc60).trans rfl))]
        exact own_retN X58 hx (t := .boolean) Bd.returns (by simp) (hb hby at_49) hlk (by decide) (by decide) ⟨rfl, N59⟩
      · skip
        refine own_by (T' := T58) (g' := (mkF m 47 #[.val (.int p0_0), .val (.int p0_1), .val (.int i48), .val (.ref wGOSSIP), .val (.ref wGOSSIP)] [(.int (0 : Int32))])) (fun t k => ?_) ?_
        · show Steps p.tables e below (T58.setTop (mkF m 43 #[.val (.int p0_0), .val (.int p0_1), .val (.int i48), .val (.ref wGOSSIP), .val (.ref wGOSSIP)] [(.int i48), (.int (own_F4 (1 : Int32)))])) t
          refine XS.icmpNo X58.here hx rfl (hb hby at_43) rfl (feq hc60).1 ?_
          show Steps p.tables e below (T58.setTop (mkF m 46 #[.val (.int p0_0), .val (.int p0_1), .val (.int i48), .val (.ref wGOSSIP), .val (.ref wGOSSIP)] [])) t
          refine XS.iconst X58.here hx rfl (hb hby at_46) ?_
          show Steps p.tables e below (T58.setTop (mkF m 47 #[.val (.int p0_0), .val (.int p0_1), .val (.int i48), .val (.ref wGOSSIP), .val (.ref wGOSSIP)] [(.int (0 : Int32))])) t
          exact k
        rw [show own_F0_14_1 p0_0 p0_1 i48 = (0 : Int32) from ((if_pos hc52).trans ((if_neg hc60).trans rfl))]
        exact own_retN X58 hx (t := .boolean) Bd.returns (by simp) (hb hby at_47) hlk (by decide) (by decide) ⟨rfl, N59⟩
    · skip
      by_cases hc61 : i48 = (2 : Int32)
      · skip
        obtain rfl : v50 = some (.ref wSCHEMA_PUSH) := hv50.trans (congrArg some ((if_neg hc52).trans ((if_pos hc61).trans rfl)))
        refine own_by (T' := T50) (g' := (mkF m 19 #[.val (.int p0_0), .val (.int p0_1), .val (.int i48), .unset, .unset] [(.ref wSCHEMA_PUSH)])) st50 ?_
        refine own_by (T' := T50) (g' := (mkF m 21 #[.val (.int p0_0), .val (.int p0_1), .val (.int i48), .val (.ref wSCHEMA_PUSH), .unset] [(.int i48)])) (fun t k => ?_) ?_
        · show Steps p.tables e below (T50.setTop (mkF m 19 #[.val (.int p0_0), .val (.int p0_1), .val (.int i48), .unset, .unset] [(.ref wSCHEMA_PUSH)])) t
          refine XS.astoreN X50.here hx rfl (hb hby at_19) rfl rfl (l' := #[.val (.int p0_0), .val (.int p0_1), .val (.int i48), .val (.ref wSCHEMA_PUSH), .unset]) rfl ?_
          show Steps p.tables e below (T50.setTop (mkF m 20 #[.val (.int p0_0), .val (.int p0_1), .val (.int i48), .val (.ref wSCHEMA_PUSH), .unset] [])) t
          refine XS.iloadN X50.here hx rfl (hb hby at_20) rfl ?_
          show Steps p.tables e below (T50.setTop (mkF m 21 #[.val (.int p0_0), .val (.int p0_1), .val (.int i48), .val (.ref wSCHEMA_PUSH), .unset] [(.int i48)])) t
          exact k
        obtain ⟨v62, _, ⟨T62, L62, k62, n62⟩, -, X62, ⟨Lc62, hQ62, l62, y62, z62⟩, st62⟩ := Jvm.LawKit.callS X50 hx (y := (⟨"com/example/vasto/vasto/messaging/Verb", "of", "(I)Lcom/example/vasto/vasto/messaging/Verb;"⟩ : MethodName)) hown (mvT hZ (hw _ (List.mem_of_getElem? (i := 4) rfl))) (mvT hZ (hw _ (List.mem_of_getElem? (i := 5) rfl))) (mvT hZ (hw _ (List.mem_of_getElem? (i := 6) rfl))) (mvT hZ (hw _ (List.mem_of_getElem? (i := 7) rfl))) (by decide) (backOf (W := 0) (own_rm2 l Z a0 hw [] i48 w_VALUES wGOSSIP wSCHEMA_PUSH wSCHEMA_PULL wMUTATION wREAD wRANGE_READ kw_VALUES h0 n0 Z0 O0 EN) hZ (hw _ (List.mem_of_getElem? (i := 7) rfl)) (hw _ (List.mem_of_getElem? (i := 6) rfl)) (by decide) (by decide)) (g := (mkF m 21 #[.val (.int p0_0), .val (.int p0_1), .val (.int i48), .val (.ref wSCHEMA_PUSH), .unset] [(.int i48)])) rfl (by rw [hml]; rfl) (argsL := [(.int i48)]) (rest := []) (lenOf pd__I_Lcom_example_vasto_vasto_messaging_Verb_ rfl) rfl (by show 2 * 0 + _ ≤ _; exact Nat.le_of_eq rfl) (hb hby at_21) (fun _ _ => ⟨rfl, e50, (by decide : 0 + 1 ≤ _), (by decide : 0 + 6 ≤ _)⟩)
        dsimp only [Pt.U, Pt.locs, Pt.cells, Pt.slots] at X62 l62 y62 z62 st62 hQ62
        subst l62 y62 z62
        obtain ⟨hv62, M62, K62⟩ := hQ62
        have K63 : Keep h0 T62.heap [] := (Keep.refl h0 []).trans K62 all0
        have O64 := O0.keep K62 all0
        have Z65 := Nat.le_trans Z0 K62.1
        have N66 := Fr.app N51 M62
        obtain rfl : v62 = some (.ref wSCHEMA_PUSH) := hv62.trans (congrArg some ((if_neg hc52).trans ((if_pos hc61).trans rfl)))
        refine own_by (T' := T62) (g' := (mkF m 24 #[.val (.int p0_0), .val (.int p0_1), .val (.int i48), .val (.ref wSCHEMA_PUSH), .unset] [(.ref wSCHEMA_PUSH)])) st62 ?_
        refine own_by (T' := T62) (g' := (mkF m 39 #[.val (.int p0_0), .val (.int p0_1), .val (.int i48), .val (.ref wSCHEMA_PUSH), .val (.ref wSCHEMA_PUSH)] [(.ref wSCHEMA_PUSH)])) (fun t k => ?_) ?_
        · show Steps p.tables e below (T62.setTop (mkF m 24 #[.val (.int p0_0), .val (.int p0_1), .val (.int i48), .val (.ref wSCHEMA_PUSH), .unset] [(.ref wSCHEMA_PUSH)])) t
          refine XS.astore X62.here hx rfl (hb hby at_24) rfl rfl (l' := #[.val (.int p0_0), .val (.int p0_1), .val (.int i48), .val (.ref wSCHEMA_PUSH), .val (.ref wSCHEMA_PUSH)]) rfl ?_
          show Steps p.tables e below (T62.setTop (mkF m 26 #[.val (.int p0_0), .val (.int p0_1), .val (.int i48), .val (.ref wSCHEMA_PUSH), .val (.ref wSCHEMA_PUSH)] [])) t
          refine XS.aload X62.here hx rfl (hb hby at_26) rfl rfl ?_
          show Steps p.tables e below (T62.setTop (mkF m 28 #[.val (.int p0_0), .val (.int p0_1), .val (.int i48), .val (.ref wSCHEMA_PUSH), .val (.ref wSCHEMA_PUSH)] [(.ref wSCHEMA_PUSH)])) t
          refine XS.aloadN X62.here hx rfl (hb hby at_28) rfl rfl ?_
          show Steps p.tables e below (T62.setTop (mkF m 29 #[.val (.int p0_0), .val (.int p0_1), .val (.int i48), .val (.ref wSCHEMA_PUSH), .val (.ref wSCHEMA_PUSH)] [(.ref wSCHEMA_PUSH), (.ref wSCHEMA_PUSH)])) t
          refine Jvm.RoadKit.acmp (g := (mkF m 29 #[.val (.int p0_0), .val (.int p0_1), .val (.int i48), .val (.ref wSCHEMA_PUSH), .val (.ref wSCHEMA_PUSH)] [(.ref wSCHEMA_PUSH), (.ref wSCHEMA_PUSH)])) X62 hx rfl rfl rfl (pc0 := 29) (pc' := 34) (same := true) rfl (hb hby at_29) rfl (decide_eq_true rfl) (by decide) (by decide) ?_
          show Steps p.tables e below (T62.setTop (mkF m 34 #[.val (.int p0_0), .val (.int p0_1), .val (.int i48), .val (.ref wSCHEMA_PUSH), .val (.ref wSCHEMA_PUSH)] [])) t
          refine XS.aloadN X62.here hx rfl (hb hby at_34) rfl rfl ?_
          show Steps p.tables e below (T62.setTop (mkF m 35 #[.val (.int p0_0), .val (.int p0_1), .val (.int i48), .val (.ref wSCHEMA_PUSH), .val (.ref wSCHEMA_PUSH)] [(.ref wSCHEMA_PUSH)])) t
          refine XS.ifnullNo X62.here hx rfl (hb hby at_35) rfl ?_
          show Steps p.tables e below (T62.setTop (mkF m 38 #[.val (.int p0_0), .val (.int p0_1), .val (.int i48), .val (.ref wSCHEMA_PUSH), .val (.ref wSCHEMA_PUSH)] [])) t
          refine XS.aloadN X62.here hx rfl (hb hby at_38) rfl rfl ?_
          show Steps p.tables e below (T62.setTop (mkF m 39 #[.val (.int p0_0), .val (.int p0_1), .val (.int i48), .val (.ref wSCHEMA_PUSH), .val (.ref wSCHEMA_PUSH)] [(.ref wSCHEMA_PUSH)])) t
          exact k
        obtain ⟨cq67, kq67, q67a, q67b, q67c⟩ := isOf hZ rfl (EN.2.2.1.2.1.ext O64.2)
        obtain ⟨v67, _, ⟨T67, L67, k67, n67⟩, -, X67, ⟨Lc67, hQ67, l67, y67, z67⟩, st67⟩ := X62.virtualBack hx (y := (⟨"com/example/vasto/vasto/messaging/Verb", "code", "()I"⟩ : MethodName)) (z := (⟨"com/example/vasto/vasto/messaging/Verb", "code", "()I"⟩ : MethodName)) hown (mvT hZ (hw _ (List.mem_of_getElem? (i := 32) rfl))) (mvT hZ (hw _ (List.mem_of_getElem? (i := 33) rfl))) (notFace_of_selects (args := #[]) (mvT hZ (hw _ (List.mem_of_getElem? (i := 35) rfl)))) (mvT hZ (hw _ (List.mem_of_getElem? (i := 35) rfl))) (mvT hZ (hw _ (List.mem_of_getElem? (i := 34) rfl))) (by decide) (backOf (W := 0) (own_rm4 l Z a0 hw [] wSCHEMA_PUSH (2 : Int32) T62.heap n0 Z65 (EN.2.2.1.2.2.ext O64.2)) hZ (hw _ (List.mem_of_getElem? (i := 36) rfl)) (hw _ (List.mem_of_getElem? (i := 6) rfl)) (by decide) (by decide)) q67a q67c (g := (mkF m 39 #[.val (.int p0_0), .val (.int p0_1), .val (.int i48), .val (.ref wSCHEMA_PUSH), .val (.ref wSCHEMA_PUSH)] [(.ref wSCHEMA_PUSH)])) rfl (by rw [hml]; rfl) (Steps.refl _) (argsL := []) (rest := []) (lenOf pd___I rfl) rfl (by show 2 * 0 + _ ≤ _; exact Nat.le_of_eq rfl) (hb hby at_39) (fun _ _ => ⟨rfl, rfl, (by decide : 1 + 0 ≤ _), (by decide : 6 + 0 ≤ _)⟩)
        dsimp only [Pt.U, Pt.locs, Pt.cells, Pt.slots] at X67 l67 y67 z67 st67 hQ67
        subst l67 y67 z67
        obtain ⟨rfl, M67, e67⟩ := hQ67
        have N68 := Fr.app N66 M67
        refine own_via (T' := T67) (g' := (mkF m 42 #[.val (.int p0_0), .val (.int p0_1), .val (.int i48), .val (.ref wSCHEMA_PUSH), .val (.ref wSCHEMA_PUSH)] [(.int (own_F4 (2 : Int32)))])) st67 ?_
        refine own_by (T' := T67) (g' := (mkF m 43 #[.val (.int p0_0), .val (.int p0_1), .val (.int i48), .val (.ref wSCHEMA_PUSH), .val (.ref wSCHEMA_PUSH)] [(.int i48), (.int (own_F4 (2 : Int32)))])) (fun t k => ?_) ?_
        · show Steps p.tables e below (T67.setTop (mkF m 42 #[.val (.int p0_0), .val (.int p0_1), .val (.int i48), .val (.ref wSCHEMA_PUSH), .val (.ref wSCHEMA_PUSH)] [(.int (own_F4 (2 : Int32)))])) t
          refine XS.iloadN X67.here hx rfl (hb hby at_42) rfl ?_
          show Steps p.tables e below (T67.setTop (mkF m 43 #[.val (.int p0_0), .val (.int p0_1), .val (.int i48), .val (.ref wSCHEMA_PUSH), .val (.ref wSCHEMA_PUSH)] [(.int i48), (.int (own_F4 (2 : Int32)))])) t
          exact k
        by_cases hc69 : (own_F4 (2 : Int32)) = i48
        · skip
          refine own_by (T' := T67) (g' := (mkF m 49 #[.val (.int p0_0), .val (.int p0_1), .val (.int i48), .val (.ref wSCHEMA_PUSH), .val (.ref wSCHEMA_PUSH)] [(.int (1 : Int32))])) (fun t k => ?_) ?_
          · show Steps p.tables e below (T67.setTop (mkF m 43 #[.val (.int p0_0), .val (.int p0_1), .val (.int i48), .val (.ref wSCHEMA_PUSH), .val (.ref wSCHEMA_PUSH)] [(.int i48), (.int (own_F4 (2 : Int32)))])) t
            refine XS.icmpYes X67.here hx rfl (pc0 := 43) (pc' := 48) rfl (hb hby at_43) rfl (teq hc69).1 (by decide) (by decide) ?_
            show Steps p.tables e below (T67.setTop (mkF m 48 #[.val (.int p0_0), .val (.int p0_1), .val (.int i48), .val (.ref wSCHEMA_PUSH), .val (.ref wSCHEMA_PUSH)] [])) t
            refine XS.iconst X67.here hx rfl (hb hby at_48) ?_
            show Steps p.tables e below (T67.setTop (mkF m 49 #[.val (.int p0_0), .val (.int p0_1), .val (.int i48), .val (.ref wSCHEMA_PUSH), .val (.ref wSCHEMA_PUSH)] [(.int (1 : Int32))])) t
            exact k
          rw [show own_F0_14_1 p0_0 p0_1 i48 = (1 : Int32) from ((if_neg hc52).trans ((if_pos hc61).trans ((if_pos hc69).trans rfl)))]
          exact own_retN X67 hx (t := .boolean) Bd.returns (by simp) (hb hby at_49) hlk (by decide) (by decide) ⟨rfl, N68⟩
        · skip
          refine own_by (T' := T67) (g' := (mkF m 47 #[.val (.int p0_0), .val (.int p0_1), .val (.int i48), .val (.ref wSCHEMA_PUSH), .val (.ref wSCHEMA_PUSH)] [(.int (0 : Int32))])) (fun t k => ?_) ?_
          · show Steps p.tables e below (T67.setTop (mkF m 43 #[.val (.int p0_0), .val (.int p0_1), .val (.int i48), .val (.ref wSCHEMA_PUSH), .val (.ref wSCHEMA_PUSH)] [(.int i48), (.int (own_F4 (2 : Int32)))])) t
            refine XS.icmpNo X67.here hx rfl (hb hby at_43) rfl (feq hc69).1 ?_
            show Steps p.tables e below (T67.setTop (mkF m 46 #[.val (.int p0_0), .val (.int p0_1), .val (.int i48), .val (.ref wSCHEMA_PUSH), .val (.ref wSCHEMA_PUSH)] [])) t
            refine XS.iconst X67.here hx rfl (hb hby at_46) ?_
            show Steps p.tables e below (T67.setTop (mkF m 47 #[.val (.int p0_0), .val (.int p0_1), .val (.int i48), .val (.ref wSCHEMA_PUSH), .val (.ref wSCHEMA_PUSH)] [(.int (0 : Int32))])) t
            exact k
          rw [show own_F0_14_1 p0_0 p0_1 i48 = (0 : Int32) from ((if_neg hc52).trans ((if_pos hc61).trans ((if_neg hc69).trans rfl)))]
          exact own_retN X67 hx (t := .boolean) Bd.returns (by simp) (hb hby at_47) hlk (by decide) (by decide) ⟨rfl, N68⟩
      · skip
        by_cases hc70 : i48 = (3 : Int32)
        · skip
          obtain rfl : v50 = some (.ref wSCHEMA_PULL) := hv50.trans (congrArg some ((if_neg hc52).trans ((if_neg hc61).trans ((if_pos hc70).trans rfl))))
          refine own_by (T' := T50) (g' := (mkF m 19 #[.val (.int p0_0), .val (.int p0_1), .val (.int i48), .unset, .unset] [(.ref wSCHEMA_PULL)])) st50 ?_
          refine own_by (T' := T50) (g' := (mkF m 21 #[.val (.int p0_0), .val (.int p0_1), .val (.int i48), .val (.ref wSCHEMA_PULL), .unset] [(.int i48)])) (fun t k => ?_) ?_
          · show Steps p.tables e below (T50.setTop (mkF m 19 #[.val (.int p0_0), .val (.int p0_1), .val (.int i48), .unset, .unset] [(.ref wSCHEMA_PULL)])) t
            refine XS.astoreN X50.here hx rfl (hb hby at_19) rfl rfl (l' := #[.val (.int p0_0), .val (.int p0_1), .val (.int i48), .val (.ref wSCHEMA_PULL), .unset]) rfl ?_
            show Steps p.tables e below (T50.setTop (mkF m 20 #[.val (.int p0_0), .val (.int p0_1), .val (.int i48), .val (.ref wSCHEMA_PULL), .unset] [])) t
            refine XS.iloadN X50.here hx rfl (hb hby at_20) rfl ?_
            show Steps p.tables e below (T50.setTop (mkF m 21 #[.val (.int p0_0), .val (.int p0_1), .val (.int i48), .val (.ref wSCHEMA_PULL), .unset] [(.int i48)])) t
            exact k
          obtain ⟨v71, _, ⟨T71, L71, k71, n71⟩, -, X71, ⟨Lc71, hQ71, l71, y71, z71⟩, st71⟩ := Jvm.LawKit.callS X50 hx (y := (⟨"com/example/vasto/vasto/messaging/Verb", "of", "(I)Lcom/example/vasto/vasto/messaging/Verb;"⟩ : MethodName)) hown (mvT hZ (hw _ (List.mem_of_getElem? (i := 4) rfl))) (mvT hZ (hw _ (List.mem_of_getElem? (i := 5) rfl))) (mvT hZ (hw _ (List.mem_of_getElem? (i := 6) rfl))) (mvT hZ (hw _ (List.mem_of_getElem? (i := 7) rfl))) (by decide) (backOf (W := 0) (own_rm2 l Z a0 hw [] i48 w_VALUES wGOSSIP wSCHEMA_PUSH wSCHEMA_PULL wMUTATION wREAD wRANGE_READ kw_VALUES h0 n0 Z0 O0 EN) hZ (hw _ (List.mem_of_getElem? (i := 7) rfl)) (hw _ (List.mem_of_getElem? (i := 6) rfl)) (by decide) (by decide)) (g := (mkF m 21 #[.val (.int p0_0), .val (.int p0_1), .val (.int i48), .val (.ref wSCHEMA_PULL), .unset] [(.int i48)])) rfl (by rw [hml]; rfl) (argsL := [(.int i48)]) (rest := []) (lenOf pd__I_Lcom_example_vasto_vasto_messaging_Verb_ rfl) rfl (by show 2 * 0 + _ ≤ _; exact Nat.le_of_eq rfl) (hb hby at_21) (fun _ _ => ⟨rfl, e50, (by decide : 0 + 1 ≤ _), (by decide : 0 + 6 ≤ _)⟩)
          dsimp only [Pt.U, Pt.locs, Pt.cells, Pt.slots] at X71 l71 y71 z71 st71 hQ71
          subst l71 y71 z71
          obtain ⟨hv71, M71, K71⟩ := hQ71
          have K72 : Keep h0 T71.heap [] := (Keep.refl h0 []).trans K71 all0
          have O73 := O0.keep K71 all0
          have Z74 := Nat.le_trans Z0 K71.1
          have N75 := Fr.app N51 M71
          obtain rfl : v71 = some (.ref wSCHEMA_PULL) := hv71.trans (congrArg some ((if_neg hc52).trans ((if_neg hc61).trans ((if_pos hc70).trans rfl))))
          refine own_by (T' := T71) (g' := (mkF m 24 #[.val (.int p0_0), .val (.int p0_1), .val (.int i48), .val (.ref wSCHEMA_PULL), .unset] [(.ref wSCHEMA_PULL)])) st71 ?_
          refine own_by (T' := T71) (g' := (mkF m 39 #[.val (.int p0_0), .val (.int p0_1), .val (.int i48), .val (.ref wSCHEMA_PULL), .val (.ref wSCHEMA_PULL)] [(.ref wSCHEMA_PULL)])) (fun t k => ?_) ?_
          · show Steps p.tables e below (T71.setTop (mkF m 24 #[.val (.int p0_0), .val (.int p0_1), .val (.int i48), .val (.ref wSCHEMA_PULL), .unset] [(.ref wSCHEMA_PULL)])) t
            refine XS.astore X71.here hx rfl (hb hby at_24) rfl rfl (l' := #[.val (.int p0_0), .val (.int p0_1), .val (.int i48), .val (.ref wSCHEMA_PULL), .val (.ref wSCHEMA_PULL)]) rfl ?_
            show Steps p.tables e below (T71.setTop (mkF m 26 #[.val (.int p0_0), .val (.int p0_1), .val (.int i48), .val (.ref wSCHEMA_PULL), .val (.ref wSCHEMA_PULL)] [])) t
            refine XS.aload X71.here hx rfl (hb hby at_26) rfl rfl ?_
            show Steps p.tables e below (T71.setTop (mkF m 28 #[.val (.int p0_0), .val (.int p0_1), .val (.int i48), .val (.ref wSCHEMA_PULL), .val (.ref wSCHEMA_PULL)] [(.ref wSCHEMA_PULL)])) t
            refine XS.aloadN X71.here hx rfl (hb hby at_28) rfl rfl ?_
            show Steps p.tables e below (T71.setTop (mkF m 29 #[.val (.int p0_0), .val (.int p0_1), .val (.int i48), .val (.ref wSCHEMA_PULL), .val (.ref wSCHEMA_PULL)] [(.ref wSCHEMA_PULL), (.ref wSCHEMA_PULL)])) t
            refine Jvm.RoadKit.acmp (g := (mkF m 29 #[.val (.int p0_0), .val (.int p0_1), .val (.int i48), .val (.ref wSCHEMA_PULL), .val (.ref wSCHEMA_PULL)] [(.ref wSCHEMA_PULL), (.ref wSCHEMA_PULL)])) X71 hx rfl rfl rfl (pc0 := 29) (pc' := 34) (same := true) rfl (hb hby at_29) rfl (decide_eq_true rfl) (by decide) (by decide) ?_
            show Steps p.tables e below (T71.setTop (mkF m 34 #[.val (.int p0_0), .val (.int p0_1), .val (.int i48), .val (.ref wSCHEMA_PULL), .val (.ref wSCHEMA_PULL)] [])) t
            refine XS.aloadN X71.here hx rfl (hb hby at_34) rfl rfl ?_
            show Steps p.tables e below (T71.setTop (mkF m 35 #[.val (.int p0_0), .val (.int p0_1), .val (.int i48), .val (.ref wSCHEMA_PULL), .val (.ref wSCHEMA_PULL)] [(.ref wSCHEMA_PULL)])) t
            refine XS.ifnullNo X71.here hx rfl (hb hby at_35) rfl ?_
            show Steps p.tables e below (T71.setTop (mkF m 38 #[.val (.int p0_0), .val (.int p0_1), .val (.int i48), .val (.ref wSCHEMA_PULL), .val (.ref wSCHEMA_PULL)] [])) t
            refine XS.aloadN X71.here hx rfl (hb hby at_38) rfl rfl ?_
            show Steps p.tables e below (T71.setTop (mkF m 39 #[.val (.int p0_0), .val (.int p0_1), .val (.int i48), .val (.ref wSCHEMA_PULL), .val (.ref wSCHEMA_PULL)] [(.ref wSCHEMA_PULL)])) t
            exact k
          obtain ⟨cq76, kq76, q76a, q76b, q76c⟩ := isOf hZ rfl (EN.2.2.2.1.2.1.ext O73.2)
          obtain ⟨v76, _, ⟨T76, L76, k76, n76⟩, -, X76, ⟨Lc76, hQ76, l76, y76, z76⟩, st76⟩ := X71.virtualBack hx (y := (⟨"com/example/vasto/vasto/messaging/Verb", "code", "()I"⟩ : MethodName)) (z := (⟨"com/example/vasto/vasto/messaging/Verb", "code", "()I"⟩ : MethodName)) hown (mvT hZ (hw _ (List.mem_of_getElem? (i := 32) rfl))) (mvT hZ (hw _ (List.mem_of_getElem? (i := 33) rfl))) (notFace_of_selects (args := #[]) (mvT hZ (hw _ (List.mem_of_getElem? (i := 35) rfl)))) (mvT hZ (hw _ (List.mem_of_getElem? (i := 35) rfl))) (mvT hZ (hw _ (List.mem_of_getElem? (i := 34) rfl))) (by decide) (backOf (W := 0) (own_rm4 l Z a0 hw [] wSCHEMA_PULL (3 : Int32) T71.heap n0 Z74 (EN.2.2.2.1.2.2.ext O73.2)) hZ (hw _ (List.mem_of_getElem? (i := 36) rfl)) (hw _ (List.mem_of_getElem? (i := 6) rfl)) (by decide) (by decide)) q76a q76c (g := (mkF m 39 #[.val (.int p0_0), .val (.int p0_1), .val (.int i48), .val (.ref wSCHEMA_PULL), .val (.ref wSCHEMA_PULL)] [(.ref wSCHEMA_PULL)])) rfl (by rw [hml]; rfl) (Steps.refl _) (argsL := []) (rest := []) (lenOf pd___I rfl) rfl (by show 2 * 0 + _ ≤ _; exact Nat.le_of_eq rfl) (hb hby at_39) (fun _ _ => ⟨rfl, rfl, (by decide : 1 + 0 ≤ _), (by decide : 6 + 0 ≤ _)⟩)
          dsimp only [Pt.U, Pt.locs, Pt.cells, Pt.slots] at X76 l76 y76 z76 st76 hQ76
          subst l76 y76 z76
          obtain ⟨rfl, M76, e76⟩ := hQ76
          have N77 := Fr.app N75 M76
          refine own_via (T' := T76) (g' := (mkF m 42 #[.val (.int p0_0), .val (.int p0_1), .val (.int i48), .val (.ref wSCHEMA_PULL), .val (.ref wSCHEMA_PULL)] [(.int (own_F4 (3 : Int32)))])) st76 ?_
          refine own_by (T' := T76) (g' := (mkF m 43 #[.val (.int p0_0), .val (.int p0_1), .val (.int i48), .val (.ref wSCHEMA_PULL), .val (.ref wSCHEMA_PULL)] [(.int i48), (.int (own_F4 (3 : Int32)))])) (fun t k => ?_) ?_
          · show Steps p.tables e below (T76.setTop (mkF m 42 #[.val (.int p0_0), .val (.int p0_1), .val (.int i48), .val (.ref wSCHEMA_PULL), .val (.ref wSCHEMA_PULL)] [(.int (own_F4 (3 : Int32)))])) t
            refine XS.iloadN X76.here hx rfl (hb hby at_42) rfl ?_
            show Steps p.tables e below (T76.setTop (mkF m 43 #[.val (.int p0_0), .val (.int p0_1), .val (.int i48), .val (.ref wSCHEMA_PULL), .val (.ref wSCHEMA_PULL)] [(.int i48), (.int (own_F4 (3 : Int32)))])) t
            exact k
          by_cases hc78 : (own_F4 (3 : Int32)) = i48
          · skip
            refine own_by (T' := T76) (g' := (mkF m 49 #[.val (.int p0_0), .val (.int p0_1), .val (.int i48), .val (.ref wSCHEMA_PULL), .val (.ref wSCHEMA_PULL)] [(.int (1 : Int32))])) (fun t k => ?_) ?_
            · show Steps p.tables e below (T76.setTop (mkF m 43 #[.val (.int p0_0), .val (.int p0_1), .val (.int i48), .val (.ref wSCHEMA_PULL), .val (.ref wSCHEMA_PULL)] [(.int i48), (.int (own_F4 (3 : Int32)))])) t
              refine XS.icmpYes X76.here hx rfl (pc0 := 43) (pc' := 48) rfl (hb hby at_43) rfl (teq hc78).1 (by decide) (by decide) ?_
              show Steps p.tables e below (T76.setTop (mkF m 48 #[.val (.int p0_0), .val (.int p0_1), .val (.int i48), .val (.ref wSCHEMA_PULL), .val (.ref wSCHEMA_PULL)] [])) t
              refine XS.iconst X76.here hx rfl (hb hby at_48) ?_
              show Steps p.tables e below (T76.setTop (mkF m 49 #[.val (.int p0_0), .val (.int p0_1), .val (.int i48), .val (.ref wSCHEMA_PULL), .val (.ref wSCHEMA_PULL)] [(.int (1 : Int32))])) t
              exact k
            rw [show own_F0_14_1 p0_0 p0_1 i48 = (1 : Int32) from ((if_neg hc52).trans ((if_neg hc61).trans ((if_pos hc70).trans ((if_pos hc78).trans rfl))))]
            exact own_retN X76 hx (t := .boolean) Bd.returns (by simp) (hb hby at_49) hlk (by decide) (by decide) ⟨rfl, N77⟩
          · skip
            refine own_by (T' := T76) (g' := (mkF m 47 #[.val (.int p0_0), .val (.int p0_1), .val (.int i48), .val (.ref wSCHEMA_PULL), .val (.ref wSCHEMA_PULL)] [(.int (0 : Int32))])) (fun t k => ?_) ?_
            · show Steps p.tables e below (T76.setTop (mkF m 43 #[.val (.int p0_0), .val (.int p0_1), .val (.int i48), .val (.ref wSCHEMA_PULL), .val (.ref wSCHEMA_PULL)] [(.int i48), (.int (own_F4 (3 : Int32)))])) t
              refine XS.icmpNo X76.here hx rfl (hb hby at_43) rfl (feq hc78).1 ?_
              show Steps p.tables e below (T76.setTop (mkF m 46 #[.val (.int p0_0), .val (.int p0_1), .val (.int i48), .val (.ref wSCHEMA_PULL), .val (.ref wSCHEMA_PULL)] [])) t
              refine XS.iconst X76.here hx rfl (hb hby at_46) ?_
              show Steps p.tables e below (T76.setTop (mkF m 47 #[.val (.int p0_0), .val (.int p0_1), .val (.int i48), .val (.ref wSCHEMA_PULL), .val (.ref wSCHEMA_PULL)] [(.int (0 : Int32))])) t
              exact k
            rw [show own_F0_14_1 p0_0 p0_1 i48 = (0 : Int32) from ((if_neg hc52).trans ((if_neg hc61).trans ((if_pos hc70).trans ((if_neg hc78).trans rfl))))]
            exact own_retN X76 hx (t := .boolean) Bd.returns (by simp) (hb hby at_47) hlk (by decide) (by decide) ⟨rfl, N77⟩
        · skip
          by_cases hc79 : i48 = (4 : Int32)
          · skip
            obtain rfl : v50 = some (.ref wMUTATION) := hv50.trans (congrArg some ((if_neg hc52).trans ((if_neg hc61).trans ((if_neg hc70).trans ((if_pos hc79).trans rfl)))))
            refine own_by (T' := T50) (g' := (mkF m 19 #[.val (.int p0_0), .val (.int p0_1), .val (.int i48), .unset, .unset] [(.ref wMUTATION)])) st50 ?_
            refine own_by (T' := T50) (g' := (mkF m 21 #[.val (.int p0_0), .val (.int p0_1), .val (.int i48), .val (.ref wMUTATION), .unset] [(.int i48)])) (fun t k => ?_) ?_
            · show Steps p.tables e below (T50.setTop (mkF m 19 #[.val (.int p0_0), .val (.int p0_1), .val (.int i48), .unset, .unset] [(.ref wMUTATION)])) t
              refine XS.astoreN X50.here hx rfl (hb hby at_19) rfl rfl (l' := #[.val (.int p0_0), .val (.int p0_1), .val (.int i48), .val (.ref wMUTATION), .unset]) rfl ?_
              show Steps p.tables e below (T50.setTop (mkF m 20 #[.val (.int p0_0), .val (.int p0_1), .val (.int i48), .val (.ref wMUTATION), .unset] [])) t
              refine XS.iloadN X50.here hx rfl (hb hby at_20) rfl ?_
              show Steps p.tables e below (T50.setTop (mkF m 21 #[.val (.int p0_0), .val (.int p0_1), .val (.int i48), .val (.ref wMUTATION), .unset] [(.int i48)])) t
              exact k
            obtain ⟨v80, _, ⟨T80, L80, k80, n80⟩, -, X80, ⟨Lc80, hQ80, l80, y80, z80⟩, st80⟩ := Jvm.LawKit.callS X50 hx (y := (⟨"com/example/vasto/vasto/messaging/Verb", "of", "(I)Lcom/example/vasto/vasto/messaging/Verb;"⟩ : MethodName)) hown (mvT hZ (hw _ (List.mem_of_getElem? (i := 4) rfl))) (mvT hZ (hw _ (List.mem_of_getElem? (i := 5) rfl))) (mvT hZ (hw _ (List.mem_of_getElem? (i := 6) rfl))) (mvT hZ (hw _ (List.mem_of_getElem? (i := 7) rfl))) (by decide) (backOf (W := 0) (own_rm2 l Z a0 hw [] i48 w_VALUES wGOSSIP wSCHEMA_PUSH wSCHEMA_PULL wMUTATION wREAD wRANGE_READ kw_VALUES h0 n0 Z0 O0 EN) hZ (hw _ (List.mem_of_getElem? (i := 7) rfl)) (hw _ (List.mem_of_getElem? (i := 6) rfl)) (by decide) (by decide)) (g := (mkF m 21 #[.val (.int p0_0), .val (.int p0_1), .val (.int i48), .val (.ref wMUTATION), .unset] [(.int i48)])) rfl (by rw [hml]; rfl) (argsL := [(.int i48)]) (rest := []) (lenOf pd__I_Lcom_example_vasto_vasto_messaging_Verb_ rfl) rfl (by show 2 * 0 + _ ≤ _; exact Nat.le_of_eq rfl) (hb hby at_21) (fun _ _ => ⟨rfl, e50, (by decide : 0 + 1 ≤ _), (by decide : 0 + 6 ≤ _)⟩)
            dsimp only [Pt.U, Pt.locs, Pt.cells, Pt.slots] at X80 l80 y80 z80 st80 hQ80
            subst l80 y80 z80
            obtain ⟨hv80, M80, K80⟩ := hQ80
            have K81 : Keep h0 T80.heap [] := (Keep.refl h0 []).trans K80 all0
            have O82 := O0.keep K80 all0
            have Z83 := Nat.le_trans Z0 K80.1
            have N84 := Fr.app N51 M80
            obtain rfl : v80 = some (.ref wMUTATION) := hv80.trans (congrArg some ((if_neg hc52).trans ((if_neg hc61).trans ((if_neg hc70).trans ((if_pos hc79).trans rfl)))))
            refine own_by (T' := T80) (g' := (mkF m 24 #[.val (.int p0_0), .val (.int p0_1), .val (.int i48), .val (.ref wMUTATION), .unset] [(.ref wMUTATION)])) st80 ?_
            refine own_by (T' := T80) (g' := (mkF m 39 #[.val (.int p0_0), .val (.int p0_1), .val (.int i48), .val (.ref wMUTATION), .val (.ref wMUTATION)] [(.ref wMUTATION)])) (fun t k => ?_) ?_
            · show Steps p.tables e below (T80.setTop (mkF m 24 #[.val (.int p0_0), .val (.int p0_1), .val (.int i48), .val (.ref wMUTATION), .unset] [(.ref wMUTATION)])) t
              refine XS.astore X80.here hx rfl (hb hby at_24) rfl rfl (l' := #[.val (.int p0_0), .val (.int p0_1), .val (.int i48), .val (.ref wMUTATION), .val (.ref wMUTATION)]) rfl ?_
              show Steps p.tables e below (T80.setTop (mkF m 26 #[.val (.int p0_0), .val (.int p0_1), .val (.int i48), .val (.ref wMUTATION), .val (.ref wMUTATION)] [])) t
              refine XS.aload X80.here hx rfl (hb hby at_26) rfl rfl ?_
              show Steps p.tables e below (T80.setTop (mkF m 28 #[.val (.int p0_0), .val (.int p0_1), .val (.int i48), .val (.ref wMUTATION), .val (.ref wMUTATION)] [(.ref wMUTATION)])) t
              refine XS.aloadN X80.here hx rfl (hb hby at_28) rfl rfl ?_
              show Steps p.tables e below (T80.setTop (mkF m 29 #[.val (.int p0_0), .val (.int p0_1), .val (.int i48), .val (.ref wMUTATION), .val (.ref wMUTATION)] [(.ref wMUTATION), (.ref wMUTATION)])) t
              refine Jvm.RoadKit.acmp (g := (mkF m 29 #[.val (.int p0_0), .val (.int p0_1), .val (.int i48), .val (.ref wMUTATION), .val (.ref wMUTATION)] [(.ref wMUTATION), (.ref wMUTATION)])) X80 hx rfl rfl rfl (pc0 := 29) (pc' := 34) (same := true) rfl (hb hby at_29) rfl (decide_eq_true rfl) (by decide) (by decide) ?_
              show Steps p.tables e below (T80.setTop (mkF m 34 #[.val (.int p0_0), .val (.int p0_1), .val (.int i48), .val (.ref wMUTATION), .val (.ref wMUTATION)] [])) t
              refine XS.aloadN X80.here hx rfl (hb hby at_34) rfl rfl ?_
              show Steps p.tables e below (T80.setTop (mkF m 35 #[.val (.int p0_0), .val (.int p0_1), .val (.int i48), .val (.ref wMUTATION), .val (.ref wMUTATION)] [(.ref wMUTATION)])) t
              refine XS.ifnullNo X80.here hx rfl (hb hby at_35) rfl ?_
              show Steps p.tables e below (T80.setTop (mkF m 38 #[.val (.int p0_0), .val (.int p0_1), .val (.int i48), .val (.ref wMUTATION), .val (.ref wMUTATION)] [])) t
              refine XS.aloadN X80.here hx rfl (hb hby at_38) rfl rfl ?_
              show Steps p.tables e below (T80.setTop (mkF m 39 #[.val (.int p0_0), .val (.int p0_1), .val (.int i48), .val (.ref wMUTATION), .val (.ref wMUTATION)] [(.ref wMUTATION)])) t
              exact k
            obtain ⟨cq85, kq85, q85a, q85b, q85c⟩ := isOf hZ rfl (EN.2.2.2.2.1.2.1.ext O82.2)
            obtain ⟨v85, _, ⟨T85, L85, k85, n85⟩, -, X85, ⟨Lc85, hQ85, l85, y85, z85⟩, st85⟩ := X80.virtualBack hx (y := (⟨"com/example/vasto/vasto/messaging/Verb", "code", "()I"⟩ : MethodName)) (z := (⟨"com/example/vasto/vasto/messaging/Verb", "code", "()I"⟩ : MethodName)) hown (mvT hZ (hw _ (List.mem_of_getElem? (i := 32) rfl))) (mvT hZ (hw _ (List.mem_of_getElem? (i := 33) rfl))) (notFace_of_selects (args := #[]) (mvT hZ (hw _ (List.mem_of_getElem? (i := 35) rfl)))) (mvT hZ (hw _ (List.mem_of_getElem? (i := 35) rfl))) (mvT hZ (hw _ (List.mem_of_getElem? (i := 34) rfl))) (by decide) (backOf (W := 0) (own_rm4 l Z a0 hw [] wMUTATION (4 : Int32) T80.heap n0 Z83 (EN.2.2.2.2.1.2.2.ext O82.2)) hZ (hw _ (List.mem_of_getElem? (i := 36) rfl)) (hw _ (List.mem_of_getElem? (i := 6) rfl)) (by decide) (by decide)) q85a q85c (g := (mkF m 39 #[.val (.int p0_0), .val (.int p0_1), .val (.int i48), .val (.ref wMUTATION), .val (.ref wMUTATION)] [(.ref wMUTATION)])) rfl (by rw [hml]; rfl) (Steps.refl _) (argsL := []) (rest := []) (lenOf pd___I rfl) rfl (by show 2 * 0 + _ ≤ _; exact Nat.le_of_eq rfl) (hb hby at_39) (fun _ _ => ⟨rfl, rfl, (by decide : 1 + 0 ≤ _), (by decide : 6 + 0 ≤ _)⟩)
            dsimp only [Pt.U, Pt.locs, Pt.cells, Pt.slots] at X85 l85 y85 z85 st85 hQ85
            subst l85 y85 z85
            obtain ⟨rfl, M85, e85⟩ := hQ85
            have N86 := Fr.app N84 M85
            refine own_via (T' := T85) (g' := (mkF m 42 #[.val (.int p0_0), .val (.int p0_1), .val (.int i48), .val (.ref wMUTATION), .val (.ref wMUTATION)] [(.int (own_F4 (4 : Int32)))])) st85 ?_
            refine own_by (T' := T85) (g' := (mkF m 43 #[.val (.int p0_0), .val (.int p0_1), .val (.int i48), .val (.ref wMUTATION), .val (.ref wMUTATION)] [(.int i48), (.int (own_F4 (4 : Int32)))])) (fun t k => ?_) ?_
            · show Steps p.tables e below (T85.setTop (mkF m 42 #[.val (.int p0_0), .val (.int p0_1), .val (.int i48), .val (.ref wMUTATION), .val (.ref wMUTATION)] [(.int (own_F4 (4 : Int32)))])) t
              refine XS.iloadN X85.here hx rfl (hb hby at_42) rfl ?_
              show Steps p.tables e below (T85.setTop (mkF m 43 #[.val (.int p0_0), .val (.int p0_1), .val (.int i48), .val (.ref wMUTATION), .val (.ref wMUTATION)] [(.int i48), (.int (own_F4 (4 : Int32)))])) t
              exact k
            by_cases hc87 : (own_F4 (4 : Int32)) = i48
            · skip
              refine own_by (T' := T85) (g' := (mkF m 49 #[.val (.int p0_0), .val (.int p0_1), .val (.int i48), .val (.ref wMUTATION), .val (.ref wMUTATION)] [(.int (1 : Int32))])) (fun t k => ?_) ?_
              · show Steps p.tables e below (T85.setTop (mkF m 43 #[.val (.int p0_0), .val (.int p0_1), .val (.int i48), .val (.ref wMUTATION), .val (.ref wMUTATION)] [(.int i48), (.int (own_F4 (4 : Int32)))])) t
                refine XS.icmpYes X85.here hx rfl (pc0 := 43) (pc' := 48) rfl (hb hby at_43) rfl (teq hc87).1 (by decide) (by decide) ?_
                show Steps p.tables e below (T85.setTop (mkF m 48 #[.val (.int p0_0), .val (.int p0_1), .val (.int i48), .val (.ref wMUTATION), .val (.ref wMUTATION)] [])) t
                refine XS.iconst X85.here hx rfl (hb hby at_48) ?_
                show Steps p.tables e below (T85.setTop (mkF m 49 #[.val (.int p0_0), .val (.int p0_1), .val (.int i48), .val (.ref wMUTATION), .val (.ref wMUTATION)] [(.int (1 : Int32))])) t
                exact k
              rw [show own_F0_14_1 p0_0 p0_1 i48 = (1 : Int32) from ((if_neg hc52).trans ((if_neg hc61).trans ((if_neg hc70).trans ((if_pos hc79).trans ((if_pos hc87).trans rfl)))))]
              exact own_retN X85 hx (t := .boolean) Bd.returns (by simp) (hb hby at_49) hlk (by decide) (by decide) ⟨rfl, N86⟩
            · skip
              refine own_by (T' := T85) (g' := (mkF m 47 #[.val (.int p0_0), .val (.int p0_1), .val (.int i48), .val (.ref wMUTATION), .val (.ref wMUTATION)] [(.int (0 : Int32))])) (fun t k => ?_) ?_
              · show Steps p.tables e below (T85.setTop (mkF m 43 #[.val (.int p0_0), .val (.int p0_1), .val (.int i48), .val (.ref wMUTATION), .val (.ref wMUTATION)] [(.int i48), (.int (own_F4 (4 : Int32)))])) t
                refine XS.icmpNo X85.here hx rfl (hb hby at_43) rfl (feq hc87).1 ?_
                show Steps p.tables e below (T85.setTop (mkF m 46 #[.val (.int p0_0), .val (.int p0_1), .val (.int i48), .val (.ref wMUTATION), .val (.ref wMUTATION)] [])) t
                refine XS.iconst X85.here hx rfl (hb hby at_46) ?_
                show Steps p.tables e below (T85.setTop (mkF m 47 #[.val (.int p0_0), .val (.int p0_1), .val (.int i48), .val (.ref wMUTATION), .val (.ref wMUTATION)] [(.int (0 : Int32))])) t
                exact k
              rw [show own_F0_14_1 p0_0 p0_1 i48 = (0 : Int32) from ((if_neg hc52).trans ((if_neg hc61).trans ((if_neg hc70).trans ((if_pos hc79).trans ((if_neg hc87).trans rfl)))))]
              exact own_retN X85 hx (t := .boolean) Bd.returns (by simp) (hb hby at_47) hlk (by decide) (by decide) ⟨rfl, N86⟩
          · skip
            by_cases hc88 : i48 = (5 : Int32)
            · skip
              obtain rfl : v50 = some (.ref wREAD) := hv50.trans (congrArg some ((if_neg hc52).trans ((if_neg hc61).trans ((if_neg hc70).trans ((if_neg hc79).trans ((if_pos hc88).trans rfl))))))
              refine own_by (T' := T50) (g' := (mkF m 19 #[.val (.int p0_0), .val (.int p0_1), .val (.int i48), .unset, .unset] [(.ref wREAD)])) st50 ?_
              refine own_by (T' := T50) (g' := (mkF m 21 #[.val (.int p0_0), .val (.int p0_1), .val (.int i48), .val (.ref wREAD), .unset] [(.int i48)])) (fun t k => ?_) ?_
              · show Steps p.tables e below (T50.setTop (mkF m 19 #[.val (.int p0_0), .val (.int p0_1), .val (.int i48), .unset, .unset] [(.ref wREAD)])) t
                refine XS.astoreN X50.here hx rfl (hb hby at_19) rfl rfl (l' := #[.val (.int p0_0), .val (.int p0_1), .val (.int i48), .val (.ref wREAD), .unset]) rfl ?_
                show Steps p.tables e below (T50.setTop (mkF m 20 #[.val (.int p0_0), .val (.int p0_1), .val (.int i48), .val (.ref wREAD), .unset] [])) t
                refine XS.iloadN X50.here hx rfl (hb hby at_20) rfl ?_
                show Steps p.tables e below (T50.setTop (mkF m 21 #[.val (.int p0_0), .val (.int p0_1), .val (.int i48), .val (.ref wREAD), .unset] [(.int i48)])) t
                exact k
              obtain ⟨v89, _, ⟨T89, L89, k89, n89⟩, -, X89, ⟨Lc89, hQ89, l89, y89, z89⟩, st89⟩ := Jvm.LawKit.callS X50 hx (y := (⟨"com/example/vasto/vasto/messaging/Verb", "of", "(I)Lcom/example/vasto/vasto/messaging/Verb;"⟩ : MethodName)) hown (mvT hZ (hw _ (List.mem_of_getElem? (i := 4) rfl))) (mvT hZ (hw _ (List.mem_of_getElem? (i := 5) rfl))) (mvT hZ (hw _ (List.mem_of_getElem? (i := 6) rfl))) (mvT hZ (hw _ (List.mem_of_getElem? (i := 7) rfl))) (by decide) (backOf (W := 0) (own_rm2 l Z a0 hw [] i48 w_VALUES wGOSSIP wSCHEMA_PUSH wSCHEMA_PULL wMUTATION wREAD wRANGE_READ kw_VALUES h0 n0 Z0 O0 EN) hZ (hw _ (List.mem_of_getElem? (i := 7) rfl)) (hw _ (List.mem_of_getElem? (i := 6) rfl)) (by decide) (by decide)) (g := (mkF m 21 #[.val (.int p0_0), .val (.int p0_1), .val (.int i48), .val (.ref wREAD), .unset] [(.int i48)])) rfl (by rw [hml]; rfl) (argsL := [(.int i48)]) (rest := []) (lenOf pd__I_Lcom_example_vasto_vasto_messaging_Verb_ rfl) rfl (by show 2 * 0 + _ ≤ _; exact Nat.le_of_eq rfl) (hb hby at_21) (fun _ _ => ⟨rfl, e50, (by decide : 0 + 1 ≤ _), (by decide : 0 + 6 ≤ _)⟩)
              dsimp only [Pt.U, Pt.locs, Pt.cells, Pt.slots] at X89 l89 y89 z89 st89 hQ89
              subst l89 y89 z89
              obtain ⟨hv89, M89, K89⟩ := hQ89
              have K90 : Keep h0 T89.heap [] := (Keep.refl h0 []).trans K89 all0
              have O91 := O0.keep K89 all0
              have Z92 := Nat.le_trans Z0 K89.1
              have N93 := Fr.app N51 M89
              obtain rfl : v89 = some (.ref wREAD) := hv89.trans (congrArg some ((if_neg hc52).trans ((if_neg hc61).trans ((if_neg hc70).trans ((if_neg hc79).trans ((if_pos hc88).trans rfl))))))
              refine own_by (T' := T89) (g' := (mkF m 24 #[.val (.int p0_0), .val (.int p0_1), .val (.int i48), .val (.ref wREAD), .unset] [(.ref wREAD)])) st89 ?_
              refine own_by (T' := T89) (g' := (mkF m 39 #[.val (.int p0_0), .val (.int p0_1), .val (.int i48), .val (.ref wREAD), .val (.ref wREAD)] [(.ref wREAD)])) (fun t k => ?_) ?_
              · show Steps p.tables e below (T89.setTop (mkF m 24 #[.val (.int p0_0), .val (.int p0_1), .val (.int i48), .val (.ref wREAD), .unset] [(.ref wREAD)])) t
                refine XS.astore X89.here hx rfl (hb hby at_24) rfl rfl (l' := #[.val (.int p0_0), .val (.int p0_1), .val (.int i48), .val (.ref wREAD), .val (.ref wREAD)]) rfl ?_
                show Steps p.tables e below (T89.setTop (mkF m 26 #[.val (.int p0_0), .val (.int p0_1), .val (.int i48), .val (.ref wREAD), .val (.ref wREAD)] [])) t
                refine XS.aload X89.here hx rfl (hb hby at_26) rfl rfl ?_
                show Steps p.tables e below (T89.setTop (mkF m 28 #[.val (.int p0_0), .val (.int p0_1), .val (.int i48), .val (.ref wREAD), .val (.ref wREAD)] [(.ref wREAD)])) t
                refine XS.aloadN X89.here hx rfl (hb hby at_28) rfl rfl ?_
                show Steps p.tables e below (T89.setTop (mkF m 29 #[.val (.int p0_0), .val (.int p0_1), .val (.int i48), .val (.ref wREAD), .val (.ref wREAD)] [(.ref wREAD), (.ref wREAD)])) t
                refine Jvm.RoadKit.acmp (g := (mkF m 29 #[.val (.int p0_0), .val (.int p0_1), .val (.int i48), .val (.ref wREAD), .val (.ref wREAD)] [(.ref wREAD), (.ref wREAD)])) X89 hx rfl rfl rfl (pc0 := 29) (pc' := 34) (same := true) rfl (hb hby at_29) rfl (decide_eq_true rfl) (by decide) (by decide) ?_
                show Steps p.tables e below (T89.setTop (mkF m 34 #[.val (.int p0_0), .val (.int p0_1), .val (.int i48), .val (.ref wREAD), .val (.ref wREAD)] [])) t
                refine XS.aloadN X89.here hx rfl (hb hby at_34) rfl rfl ?_
                show Steps p.tables e below (T89.setTop (mkF m 35 #[.val (.int p0_0), .val (.int p0_1), .val (.int i48), .val (.ref wREAD), .val (.ref wREAD)] [(.ref wREAD)])) t
                refine XS.ifnullNo X89.here hx rfl (hb hby at_35) rfl ?_
                show Steps p.tables e below (T89.setTop (mkF m 38 #[.val (.int p0_0), .val (.int p0_1), .val (.int i48), .val (.ref wREAD), .val (.ref wREAD)] [])) t
                refine XS.aloadN X89.here hx rfl (hb hby at_38) rfl rfl ?_
                show Steps p.tables e below (T89.setTop (mkF m 39 #[.val (.int p0_0), .val (.int p0_1), .val (.int i48), .val (.ref wREAD), .val (.ref wREAD)] [(.ref wREAD)])) t
                exact k
              obtain ⟨cq94, kq94, q94a, q94b, q94c⟩ := isOf hZ rfl (EN.2.2.2.2.2.1.2.1.ext O91.2)
              obtain ⟨v94, _, ⟨T94, L94, k94, n94⟩, -, X94, ⟨Lc94, hQ94, l94, y94, z94⟩, st94⟩ := X89.virtualBack hx (y := (⟨"com/example/vasto/vasto/messaging/Verb", "code", "()I"⟩ : MethodName)) (z := (⟨"com/example/vasto/vasto/messaging/Verb", "code", "()I"⟩ : MethodName)) hown (mvT hZ (hw _ (List.mem_of_getElem? (i := 32) rfl))) (mvT hZ (hw _ (List.mem_of_getElem? (i := 33) rfl))) (notFace_of_selects (args := #[]) (mvT hZ (hw _ (List.mem_of_getElem? (i := 35) rfl)))) (mvT hZ (hw _ (List.mem_of_getElem? (i := 35) rfl))) (mvT hZ (hw _ (List.mem_of_getElem? (i := 34) rfl))) (by decide) (backOf (W := 0) (own_rm4 l Z a0 hw [] wREAD (5 : Int32) T89.heap n0 Z92 (EN.2.2.2.2.2.1.2.2.ext O91.2)) hZ (hw _ (List.mem_of_getElem? (i := 36) rfl)) (hw _ (List.mem_of_getElem? (i := 6) rfl)) (by decide) (by decide)) q94a q94c (g := (mkF m 39 #[.val (.int p0_0), .val (.int p0_1), .val (.int i48), .val (.ref wREAD), .val (.ref wREAD)] [(.ref wREAD)])) rfl (by rw [hml]; rfl) (Steps.refl _) (argsL := []) (rest := []) (lenOf pd___I rfl) rfl (by show 2 * 0 + _ ≤ _; exact Nat.le_of_eq rfl) (hb hby at_39) (fun _ _ => ⟨rfl, rfl, (by decide : 1 + 0 ≤ _), (by decide : 6 + 0 ≤ _)⟩)
              dsimp only [Pt.U, Pt.locs, Pt.cells, Pt.slots] at X94 l94 y94 z94 st94 hQ94
              subst l94 y94 z94
              obtain ⟨rfl, M94, e94⟩ := hQ94
              have N95 := Fr.app N93 M94
              refine own_via (T' := T94) (g' := (mkF m 42 #[.val (.int p0_0), .val (.int p0_1), .val (.int i48), .val (.ref wREAD), .val (.ref wREAD)] [(.int (own_F4 (5 : Int32)))])) st94 ?_
              refine own_by (T' := T94) (g' := (mkF m 43 #[.val (.int p0_0), .val (.int p0_1), .val (.int i48), .val (.ref wREAD), .val (.ref wREAD)] [(.int i48), (.int (own_F4 (5 : Int32)))])) (fun t k => ?_) ?_
              · show Steps p.tables e below (T94.setTop (mkF m 42 #[.val (.int p0_0), .val (.int p0_1), .val (.int i48), .val (.ref wREAD), .val (.ref wREAD)] [(.int (own_F4 (5 : Int32)))])) t
                refine XS.iloadN X94.here hx rfl (hb hby at_42) rfl ?_
                show Steps p.tables e below (T94.setTop (mkF m 43 #[.val (.int p0_0), .val (.int p0_1), .val (.int i48), .val (.ref wREAD), .val (.ref wREAD)] [(.int i48), (.int (own_F4 (5 : Int32)))])) t
                exact k
              by_cases hc96 : (own_F4 (5 : Int32)) = i48
              · skip
                refine own_by (T' := T94) (g' := (mkF m 49 #[.val (.int p0_0), .val (.int p0_1), .val (.int i48), .val (.ref wREAD), .val (.ref wREAD)] [(.int (1 : Int32))])) (fun t k => ?_) ?_
                · show Steps p.tables e below (T94.setTop (mkF m 43 #[.val (.int p0_0), .val (.int p0_1), .val (.int i48), .val (.ref wREAD), .val (.ref wREAD)] [(.int i48), (.int (own_F4 (5 : Int32)))])) t
                  refine XS.icmpYes X94.here hx rfl (pc0 := 43) (pc' := 48) rfl (hb hby at_43) rfl (teq hc96).1 (by decide) (by decide) ?_
                  show Steps p.tables e below (T94.setTop (mkF m 48 #[.val (.int p0_0), .val (.int p0_1), .val (.int i48), .val (.ref wREAD), .val (.ref wREAD)] [])) t
                  refine XS.iconst X94.here hx rfl (hb hby at_48) ?_
                  show Steps p.tables e below (T94.setTop (mkF m 49 #[.val (.int p0_0), .val (.int p0_1), .val (.int i48), .val (.ref wREAD), .val (.ref wREAD)] [(.int (1 : Int32))])) t
                  exact k
                rw [show own_F0_14_1 p0_0 p0_1 i48 = (1 : Int32) from ((if_neg hc52).trans ((if_neg hc61).trans ((if_neg hc70).trans ((if_neg hc79).trans ((if_pos hc88).trans ((if_pos hc96).trans rfl))))))]
                exact own_retN X94 hx (t := .boolean) Bd.returns (by simp) (hb hby at_49) hlk (by decide) (by decide) ⟨rfl, N95⟩
              · skip
                refine own_by (T' := T94) (g' := (mkF m 47 #[.val (.int p0_0), .val (.int p0_1), .val (.int i48), .val (.ref wREAD), .val (.ref wREAD)] [(.int (0 : Int32))])) (fun t k => ?_) ?_
                · show Steps p.tables e below (T94.setTop (mkF m 43 #[.val (.int p0_0), .val (.int p0_1), .val (.int i48), .val (.ref wREAD), .val (.ref wREAD)] [(.int i48), (.int (own_F4 (5 : Int32)))])) t
                  refine XS.icmpNo X94.here hx rfl (hb hby at_43) rfl (feq hc96).1 ?_
                  show Steps p.tables e below (T94.setTop (mkF m 46 #[.val (.int p0_0), .val (.int p0_1), .val (.int i48), .val (.ref wREAD), .val (.ref wREAD)] [])) t
                  refine XS.iconst X94.here hx rfl (hb hby at_46) ?_
                  show Steps p.tables e below (T94.setTop (mkF m 47 #[.val (.int p0_0), .val (.int p0_1), .val (.int i48), .val (.ref wREAD), .val (.ref wREAD)] [(.int (0 : Int32))])) t
                  exact k
                rw [show own_F0_14_1 p0_0 p0_1 i48 = (0 : Int32) from ((if_neg hc52).trans ((if_neg hc61).trans ((if_neg hc70).trans ((if_neg hc79).trans ((if_pos hc88).trans ((if_neg hc96).trans rfl))))))]
                exact own_retN X94 hx (t := .boolean) Bd.returns (by simp) (hb hby at_47) hlk (by decide) (by decide) ⟨rfl, N95⟩
            · skip
              by_cases hc97 : i48 = (6 : Int32)
              · skip
                obtain rfl : v50 = some (.ref wRANGE_READ) := hv50.trans (congrArg some ((if_neg hc52).trans ((if_neg hc61).trans ((if_neg hc70).trans ((if_neg hc79).trans ((if_neg hc88).trans ((if_pos hc97).trans rfl)))))))
                refine own_by (T' := T50) (g' := (mkF m 19 #[.val (.int p0_0), .val (.int p0_1), .val (.int i48), .unset, .unset] [(.ref wRANGE_READ)])) st50 ?_
                refine own_by (T' := T50) (g' := (mkF m 21 #[.val (.int p0_0), .val (.int p0_1), .val (.int i48), .val (.ref wRANGE_READ), .unset] [(.int i48)])) (fun t k => ?_) ?_
                · show Steps p.tables e below (T50.setTop (mkF m 19 #[.val (.int p0_0), .val (.int p0_1), .val (.int i48), .unset, .unset] [(.ref wRANGE_READ)])) t
                  refine XS.astoreN X50.here hx rfl (hb hby at_19) rfl rfl (l' := #[.val (.int p0_0), .val (.int p0_1), .val (.int i48), .val (.ref wRANGE_READ), .unset]) rfl ?_
                  show Steps p.tables e below (T50.setTop (mkF m 20 #[.val (.int p0_0), .val (.int p0_1), .val (.int i48), .val (.ref wRANGE_READ), .unset] [])) t
                  refine XS.iloadN X50.here hx rfl (hb hby at_20) rfl ?_
                  show Steps p.tables e below (T50.setTop (mkF m 21 #[.val (.int p0_0), .val (.int p0_1), .val (.int i48), .val (.ref wRANGE_READ), .unset] [(.int i48)])) t
                  exact k
                obtain ⟨v98, _, ⟨T98, L98, k98, n98⟩, -, X98, ⟨Lc98, hQ98, l98, y98, z98⟩, st98⟩ := Jvm.LawKit.callS X50 hx (y := (⟨"com/example/vasto/vasto/messaging/Verb", "of", "(I)Lcom/example/vasto/vasto/messaging/Verb;"⟩ : MethodName)) hown (mvT hZ (hw _ (List.mem_of_getElem? (i := 4) rfl))) (mvT hZ (hw _ (List.mem_of_getElem? (i := 5) rfl))) (mvT hZ (hw _ (List.mem_of_getElem? (i := 6) rfl))) (mvT hZ (hw _ (List.mem_of_getElem? (i := 7) rfl))) (by decide) (backOf (W := 0) (own_rm2 l Z a0 hw [] i48 w_VALUES wGOSSIP wSCHEMA_PUSH wSCHEMA_PULL wMUTATION wREAD wRANGE_READ kw_VALUES h0 n0 Z0 O0 EN) hZ (hw _ (List.mem_of_getElem? (i := 7) rfl)) (hw _ (List.mem_of_getElem? (i := 6) rfl)) (by decide) (by decide)) (g := (mkF m 21 #[.val (.int p0_0), .val (.int p0_1), .val (.int i48), .val (.ref wRANGE_READ), .unset] [(.int i48)])) rfl (by rw [hml]; rfl) (argsL := [(.int i48)]) (rest := []) (lenOf pd__I_Lcom_example_vasto_vasto_messaging_Verb_ rfl) rfl (by show 2 * 0 + _ ≤ _; exact Nat.le_of_eq rfl) (hb hby at_21) (fun _ _ => ⟨rfl, e50, (by decide : 0 + 1 ≤ _), (by decide : 0 + 6 ≤ _)⟩)
                dsimp only [Pt.U, Pt.locs, Pt.cells, Pt.slots] at X98 l98 y98 z98 st98 hQ98
                subst l98 y98 z98
                obtain ⟨hv98, M98, K98⟩ := hQ98
                have K99 : Keep h0 T98.heap [] := (Keep.refl h0 []).trans K98 all0
                have O100 := O0.keep K98 all0
                have Z101 := Nat.le_trans Z0 K98.1
                have N102 := Fr.app N51 M98
                obtain rfl : v98 = some (.ref wRANGE_READ) := hv98.trans (congrArg some ((if_neg hc52).trans ((if_neg hc61).trans ((if_neg hc70).trans ((if_neg hc79).trans ((if_neg hc88).trans ((if_pos hc97).trans rfl)))))))
                refine own_by (T' := T98) (g' := (mkF m 24 #[.val (.int p0_0), .val (.int p0_1), .val (.int i48), .val (.ref wRANGE_READ), .unset] [(.ref wRANGE_READ)])) st98 ?_
                refine own_by (T' := T98) (g' := (mkF m 39 #[.val (.int p0_0), .val (.int p0_1), .val (.int i48), .val (.ref wRANGE_READ), .val (.ref wRANGE_READ)] [(.ref wRANGE_READ)])) (fun t k => ?_) ?_
                · show Steps p.tables e below (T98.setTop (mkF m 24 #[.val (.int p0_0), .val (.int p0_1), .val (.int i48), .val (.ref wRANGE_READ), .unset] [(.ref wRANGE_READ)])) t
                  refine XS.astore X98.here hx rfl (hb hby at_24) rfl rfl (l' := #[.val (.int p0_0), .val (.int p0_1), .val (.int i48), .val (.ref wRANGE_READ), .val (.ref wRANGE_READ)]) rfl ?_
                  show Steps p.tables e below (T98.setTop (mkF m 26 #[.val (.int p0_0), .val (.int p0_1), .val (.int i48), .val (.ref wRANGE_READ), .val (.ref wRANGE_READ)] [])) t
                  refine XS.aload X98.here hx rfl (hb hby at_26) rfl rfl ?_
                  show Steps p.tables e below (T98.setTop (mkF m 28 #[.val (.int p0_0), .val (.int p0_1), .val (.int i48), .val (.ref wRANGE_READ), .val (.ref wRANGE_READ)] [(.ref wRANGE_READ)])) t
                  refine XS.aloadN X98.here hx rfl (hb hby at_28) rfl rfl ?_
                  show Steps p.tables e below (T98.setTop (mkF m 29 #[.val (.int p0_0), .val (.int p0_1), .val (.int i48), .val (.ref wRANGE_READ), .val (.ref wRANGE_READ)] [(.ref wRANGE_READ), (.ref wRANGE_READ)])) t
                  refine Jvm.RoadKit.acmp (g := (mkF m 29 #[.val (.int p0_0), .val (.int p0_1), .val (.int i48), .val (.ref wRANGE_READ), .val (.ref wRANGE_READ)] [(.ref wRANGE_READ), (.ref wRANGE_READ)])) X98 hx rfl rfl rfl (pc0 := 29) (pc' := 34) (same := true) rfl (hb hby at_29) rfl (decide_eq_true rfl) (by decide) (by decide) ?_
                  show Steps p.tables e below (T98.setTop (mkF m 34 #[.val (.int p0_0), .val (.int p0_1), .val (.int i48), .val (.ref wRANGE_READ), .val (.ref wRANGE_READ)] [])) t
                  refine XS.aloadN X98.here hx rfl (hb hby at_34) rfl rfl ?_
                  show Steps p.tables e below (T98.setTop (mkF m 35 #[.val (.int p0_0), .val (.int p0_1), .val (.int i48), .val (.ref wRANGE_READ), .val (.ref wRANGE_READ)] [(.ref wRANGE_READ)])) t
                  refine XS.ifnullNo X98.here hx rfl (hb hby at_35) rfl ?_
                  show Steps p.tables e below (T98.setTop (mkF m 38 #[.val (.int p0_0), .val (.int p0_1), .val (.int i48), .val (.ref wRANGE_READ), .val (.ref wRANGE_READ)] [])) t
                  refine XS.aloadN X98.here hx rfl (hb hby at_38) rfl rfl ?_
                  show Steps p.tables e below (T98.setTop (mkF m 39 #[.val (.int p0_0), .val (.int p0_1), .val (.int i48), .val (.ref wRANGE_READ), .val (.ref wRANGE_READ)] [(.ref wRANGE_READ)])) t
                  exact k
                obtain ⟨cq103, kq103, q103a, q103b, q103c⟩ := isOf hZ rfl (EN.2.2.2.2.2.2.2.1.ext O100.2)
                obtain ⟨v103, _, ⟨T103, L103, k103, n103⟩, -, X103, ⟨Lc103, hQ103, l103, y103, z103⟩, st103⟩ := X98.virtualBack hx (y := (⟨"com/example/vasto/vasto/messaging/Verb", "code", "()I"⟩ : MethodName)) (z := (⟨"com/example/vasto/vasto/messaging/Verb", "code", "()I"⟩ : MethodName)) hown (mvT hZ (hw _ (List.mem_of_getElem? (i := 32) rfl))) (mvT hZ (hw _ (List.mem_of_getElem? (i := 33) rfl))) (notFace_of_selects (args := #[]) (mvT hZ (hw _ (List.mem_of_getElem? (i := 35) rfl)))) (mvT hZ (hw _ (List.mem_of_getElem? (i := 35) rfl))) (mvT hZ (hw _ (List.mem_of_getElem? (i := 34) rfl))) (by decide) (backOf (W := 0) (own_rm4 l Z a0 hw [] wRANGE_READ (6 : Int32) T98.heap n0 Z101 (EN.2.2.2.2.2.2.2.2.ext O100.2)) hZ (hw _ (List.mem_of_getElem? (i := 36) rfl)) (hw _ (List.mem_of_getElem? (i := 6) rfl)) (by decide) (by decide)) q103a q103c (g := (mkF m 39 #[.val (.int p0_0), .val (.int p0_1), .val (.int i48), .val (.ref wRANGE_READ), .val (.ref wRANGE_READ)] [(.ref wRANGE_READ)])) rfl (by rw [hml]; rfl) (Steps.refl _) (argsL := []) (rest := []) (lenOf pd___I rfl) rfl (by show 2 * 0 + _ ≤ _; exact Nat.le_of_eq rfl) (hb hby at_39) (fun _ _ => ⟨rfl, rfl, (by decide : 1 + 0 ≤ _), (by decide : 6 + 0 ≤ _)⟩)
                dsimp only [Pt.U, Pt.locs, Pt.cells, Pt.slots] at X103 l103 y103 z103 st103 hQ103
                subst l103 y103 z103
                obtain ⟨rfl, M103, e103⟩ := hQ103
                have N104 := Fr.app N102 M103
                refine own_via (T' := T103) (g' := (mkF m 42 #[.val (.int p0_0), .val (.int p0_1), .val (.int i48), .val (.ref wRANGE_READ), .val (.ref wRANGE_READ)] [(.int (own_F4 (6 : Int32)))])) st103 ?_
                refine own_by (T' := T103) (g' := (mkF m 43 #[.val (.int p0_0), .val (.int p0_1), .val (.int i48), .val (.ref wRANGE_READ), .val (.ref wRANGE_READ)] [(.int i48), (.int (own_F4 (6 : Int32)))])) (fun t k => ?_) ?_
                · show Steps p.tables e below (T103.setTop (mkF m 42 #[.val (.int p0_0), .val (.int p0_1), .val (.int i48), .val (.ref wRANGE_READ), .val (.ref wRANGE_READ)] [(.int (own_F4 (6 : Int32)))])) t
                  refine XS.iloadN X103.here hx rfl (hb hby at_42) rfl ?_
                  show Steps p.tables e below (T103.setTop (mkF m 43 #[.val (.int p0_0), .val (.int p0_1), .val (.int i48), .val (.ref wRANGE_READ), .val (.ref wRANGE_READ)] [(.int i48), (.int (own_F4 (6 : Int32)))])) t
                  exact k
                by_cases hc105 : (own_F4 (6 : Int32)) = i48
                · skip
                  refine own_by (T' := T103) (g' := (mkF m 49 #[.val (.int p0_0), .val (.int p0_1), .val (.int i48), .val (.ref wRANGE_READ), .val (.ref wRANGE_READ)] [(.int (1 : Int32))])) (fun t k => ?_) ?_
                  · show Steps p.tables e below (T103.setTop (mkF m 43 #[.val (.int p0_0), .val (.int p0_1), .val (.int i48), .val (.ref wRANGE_READ), .val (.ref wRANGE_READ)] [(.int i48), (.int (own_F4 (6 : Int32)))])) t
                    refine XS.icmpYes X103.here hx rfl (pc0 := 43) (pc' := 48) rfl (hb hby at_43) rfl (teq hc105).1 (by decide) (by decide) ?_
                    show Steps p.tables e below (T103.setTop (mkF m 48 #[.val (.int p0_0), .val (.int p0_1), .val (.int i48), .val (.ref wRANGE_READ), .val (.ref wRANGE_READ)] [])) t
                    refine XS.iconst X103.here hx rfl (hb hby at_48) ?_
                    show Steps p.tables e below (T103.setTop (mkF m 49 #[.val (.int p0_0), .val (.int p0_1), .val (.int i48), .val (.ref wRANGE_READ), .val (.ref wRANGE_READ)] [(.int (1 : Int32))])) t
                    exact k
                  rw [show own_F0_14_1 p0_0 p0_1 i48 = (1 : Int32) from ((if_neg hc52).trans ((if_neg hc61).trans ((if_neg hc70).trans ((if_neg hc79).trans ((if_neg hc88).trans ((if_pos hc97).trans ((if_pos hc105).trans rfl)))))))]
                  exact own_retN X103 hx (t := .boolean) Bd.returns (by simp) (hb hby at_49) hlk (by decide) (by decide) ⟨rfl, N104⟩
                · skip
                  refine own_by (T' := T103) (g' := (mkF m 47 #[.val (.int p0_0), .val (.int p0_1), .val (.int i48), .val (.ref wRANGE_READ), .val (.ref wRANGE_READ)] [(.int (0 : Int32))])) (fun t k => ?_) ?_
                  · show Steps p.tables e below (T103.setTop (mkF m 43 #[.val (.int p0_0), .val (.int p0_1), .val (.int i48), .val (.ref wRANGE_READ), .val (.ref wRANGE_READ)] [(.int i48), (.int (own_F4 (6 : Int32)))])) t
                    refine XS.icmpNo X103.here hx rfl (hb hby at_43) rfl (feq hc105).1 ?_
                    show Steps p.tables e below (T103.setTop (mkF m 46 #[.val (.int p0_0), .val (.int p0_1), .val (.int i48), .val (.ref wRANGE_READ), .val (.ref wRANGE_READ)] [])) t
                    refine XS.iconst X103.here hx rfl (hb hby at_46) ?_
                    show Steps p.tables e below (T103.setTop (mkF m 47 #[.val (.int p0_0), .val (.int p0_1), .val (.int i48), .val (.ref wRANGE_READ), .val (.ref wRANGE_READ)] [(.int (0 : Int32))])) t
                    exact k
                  rw [show own_F0_14_1 p0_0 p0_1 i48 = (0 : Int32) from ((if_neg hc52).trans ((if_neg hc61).trans ((if_neg hc70).trans ((if_neg hc79).trans ((if_neg hc88).trans ((if_pos hc97).trans ((if_neg hc105).trans rfl)))))))]
                  exact own_retN X103 hx (t := .boolean) Bd.returns (by simp) (hb hby at_47) hlk (by decide) (by decide) ⟨rfl, N104⟩
              · skip
                obtain rfl : v50 = some .null := hv50.trans (congrArg some ((if_neg hc52).trans ((if_neg hc61).trans ((if_neg hc70).trans ((if_neg hc79).trans ((if_neg hc88).trans ((if_neg hc97).trans rfl)))))))
                refine own_by (T' := T50) (g' := (mkF m 19 #[.val (.int p0_0), .val (.int p0_1), .val (.int i48), .unset, .unset] [.null])) st50 ?_
                refine own_by (T' := T50) (g' := (mkF m 21 #[.val (.int p0_0), .val (.int p0_1), .val (.int i48), .val .null, .unset] [(.int i48)])) (fun t k => ?_) ?_
                · show Steps p.tables e below (T50.setTop (mkF m 19 #[.val (.int p0_0), .val (.int p0_1), .val (.int i48), .unset, .unset] [.null])) t
                  refine XS.astoreN X50.here hx rfl (hb hby at_19) rfl rfl (l' := #[.val (.int p0_0), .val (.int p0_1), .val (.int i48), .val .null, .unset]) rfl ?_
                  show Steps p.tables e below (T50.setTop (mkF m 20 #[.val (.int p0_0), .val (.int p0_1), .val (.int i48), .val .null, .unset] [])) t
                  refine XS.iloadN X50.here hx rfl (hb hby at_20) rfl ?_
                  show Steps p.tables e below (T50.setTop (mkF m 21 #[.val (.int p0_0), .val (.int p0_1), .val (.int i48), .val .null, .unset] [(.int i48)])) t
                  exact k
                obtain ⟨v106, _, ⟨T106, L106, k106, n106⟩, -, X106, ⟨Lc106, hQ106, l106, y106, z106⟩, st106⟩ := Jvm.LawKit.callS X50 hx (y := (⟨"com/example/vasto/vasto/messaging/Verb", "of", "(I)Lcom/example/vasto/vasto/messaging/Verb;"⟩ : MethodName)) hown (mvT hZ (hw _ (List.mem_of_getElem? (i := 4) rfl))) (mvT hZ (hw _ (List.mem_of_getElem? (i := 5) rfl))) (mvT hZ (hw _ (List.mem_of_getElem? (i := 6) rfl))) (mvT hZ (hw _ (List.mem_of_getElem? (i := 7) rfl))) (by decide) (backOf (W := 0) (own_rm2 l Z a0 hw [] i48 w_VALUES wGOSSIP wSCHEMA_PUSH wSCHEMA_PULL wMUTATION wREAD wRANGE_READ kw_VALUES h0 n0 Z0 O0 EN) hZ (hw _ (List.mem_of_getElem? (i := 7) rfl)) (hw _ (List.mem_of_getElem? (i := 6) rfl)) (by decide) (by decide)) (g := (mkF m 21 #[.val (.int p0_0), .val (.int p0_1), .val (.int i48), .val .null, .unset] [(.int i48)])) rfl (by rw [hml]; rfl) (argsL := [(.int i48)]) (rest := []) (lenOf pd__I_Lcom_example_vasto_vasto_messaging_Verb_ rfl) rfl (by show 2 * 0 + _ ≤ _; exact Nat.le_of_eq rfl) (hb hby at_21) (fun _ _ => ⟨rfl, e50, (by decide : 0 + 1 ≤ _), (by decide : 0 + 6 ≤ _)⟩)
                dsimp only [Pt.U, Pt.locs, Pt.cells, Pt.slots] at X106 l106 y106 z106 st106 hQ106
                subst l106 y106 z106
                obtain ⟨hv106, M106, K106⟩ := hQ106
                have K107 : Keep h0 T106.heap [] := (Keep.refl h0 []).trans K106 all0
                have O108 := O0.keep K106 all0
                have Z109 := Nat.le_trans Z0 K106.1
                have N110 := Fr.app N51 M106
                obtain rfl : v106 = some .null := hv106.trans (congrArg some ((if_neg hc52).trans ((if_neg hc61).trans ((if_neg hc70).trans ((if_neg hc79).trans ((if_neg hc88).trans ((if_neg hc97).trans rfl)))))))
                refine own_by (T' := T106) (g' := (mkF m 24 #[.val (.int p0_0), .val (.int p0_1), .val (.int i48), .val .null, .unset] [.null])) st106 ?_
                refine own_by (T' := T106) (g' := (mkF m 49 #[.val (.int p0_0), .val (.int p0_1), .val (.int i48), .val .null, .val .null] [(.int (1 : Int32))])) (fun t k => ?_) ?_
                · show Steps p.tables e below (T106.setTop (mkF m 24 #[.val (.int p0_0), .val (.int p0_1), .val (.int i48), .val .null, .unset] [.null])) t
                  refine XS.astore X106.here hx rfl (hb hby at_24) rfl rfl (l' := #[.val (.int p0_0), .val (.int p0_1), .val (.int i48), .val .null, .val .null]) rfl ?_
                  show Steps p.tables e below (T106.setTop (mkF m 26 #[.val (.int p0_0), .val (.int p0_1), .val (.int i48), .val .null, .val .null] [])) t
                  refine XS.aload X106.here hx rfl (hb hby at_26) rfl rfl ?_
                  show Steps p.tables e below (T106.setTop (mkF m 28 #[.val (.int p0_0), .val (.int p0_1), .val (.int i48), .val .null, .val .null] [.null])) t
                  refine XS.aloadN X106.here hx rfl (hb hby at_28) rfl rfl ?_
                  show Steps p.tables e below (T106.setTop (mkF m 29 #[.val (.int p0_0), .val (.int p0_1), .val (.int i48), .val .null, .val .null] [.null, .null])) t
                  refine Jvm.RoadKit.acmp (g := (mkF m 29 #[.val (.int p0_0), .val (.int p0_1), .val (.int i48), .val .null, .val .null] [.null, .null])) X106 hx rfl rfl rfl (pc0 := 29) (pc' := 34) (same := true) rfl (hb hby at_29) rfl (decide_eq_true rfl) (by decide) (by decide) ?_
                  show Steps p.tables e below (T106.setTop (mkF m 34 #[.val (.int p0_0), .val (.int p0_1), .val (.int i48), .val .null, .val .null] [])) t
                  refine XS.aloadN X106.here hx rfl (hb hby at_34) rfl rfl ?_
                  show Steps p.tables e below (T106.setTop (mkF m 35 #[.val (.int p0_0), .val (.int p0_1), .val (.int i48), .val .null, .val .null] [.null])) t
                  refine XS.ifnullYes X106.here hx rfl (pc0 := 35) (pc' := 48) rfl (hb hby at_35) rfl (by decide) (by decide) ?_
                  show Steps p.tables e below (T106.setTop (mkF m 48 #[.val (.int p0_0), .val (.int p0_1), .val (.int i48), .val .null, .val .null] [])) t
                  refine XS.iconst X106.here hx rfl (hb hby at_48) ?_
                  show Steps p.tables e below (T106.setTop (mkF m 49 #[.val (.int p0_0), .val (.int p0_1), .val (.int i48), .val .null, .val .null] [(.int (1 : Int32))])) t
                  exact k
                rw [show own_F0_14_1 p0_0 p0_1 i48 = (1 : Int32) from ((if_neg hc52).trans ((if_neg hc61).trans ((if_neg hc70).trans ((if_neg hc79).trans ((if_neg hc88).trans ((if_neg hc97).trans rfl))))))]
                exact own_retN X106 hx (t := .boolean) Bd.returns (by simp) (hb hby at_49) hlk (by decide) (by decide) ⟨rfl, N110⟩
  by_cases hc47 : (p0_1 &&& (1 : Int32)) = (0 : Int32)
  · skip
    refine own_by (T' := s₁) (g' := (mkF m 14 #[.val (.int p0_0), .val (.int p0_1), .unset, .unset, .unset] [(.int p0_0)])) (fun t k => ?_) ?_
    · show Steps p.tables e below (s₁.setTop (mkF m 3 #[.val (.int p0_0), .val (.int p0_1), .unset, .unset, .unset] [(.int (p0_1 &&& (1 : Int32)))])) t
      refine XS.ifYes X0.here hx rfl (pc0 := 3) (pc' := 13) rfl (hb hby at_3) rfl ((if0 _ _).trans (teq hc47).1) (by decide) (by decide) ?_
      show Steps p.tables e below (s₁.setTop (mkF m 13 #[.val (.int p0_0), .val (.int p0_1), .unset, .unset, .unset] [])) t
      refine XS.iloadN X0.here hx rfl (hb hby at_13) rfl ?_
      show Steps p.tables e below (s₁.setTop (mkF m 14 #[.val (.int p0_0), .val (.int p0_1), .unset, .unset, .unset] [(.int p0_0)])) t
      exact k
    rw [show own_F0 p0_0 p0_1 = (own_F0_14_1 p0_0 p0_1 p0_0) from ((if_pos hc47).trans rfl)]
    exact J0_1 _ _ p0_0 X0 e0 N0
  · skip
    refine own_by (T' := s₁) (g' := (mkF m 14 #[.val (.int p0_0), .val (.int p0_1), .unset, .unset, .unset] [(.int (p0_0 &&& (7 : Int32)))])) (fun t k => ?_) ?_
    · show Steps p.tables e below (s₁.setTop (mkF m 3 #[.val (.int p0_0), .val (.int p0_1), .unset, .unset, .unset] [(.int (p0_1 &&& (1 : Int32)))])) t
      refine XS.ifNo X0.here hx rfl (hb hby at_3) rfl ((if0 _ _).trans (feq hc47).1) ?_
      show Steps p.tables e below (s₁.setTop (mkF m 6 #[.val (.int p0_0), .val (.int p0_1), .unset, .unset, .unset] [])) t
      refine XS.iloadN X0.here hx rfl (hb hby at_6) rfl ?_
      show Steps p.tables e below (s₁.setTop (mkF m 7 #[.val (.int p0_0), .val (.int p0_1), .unset, .unset, .unset] [(.int p0_0)])) t
      refine XS.bipush X0.here hx rfl (hb hby at_7) ?_
      show Steps p.tables e below (s₁.setTop (mkF m 9 #[.val (.int p0_0), .val (.int p0_1), .unset, .unset, .unset] [(.int (7 : Int32)), (.int p0_0)])) t
      refine XS.iand X0.here hx rfl (hb hby at_9) rfl ?_
      show Steps p.tables e below (s₁.setTop (mkF m 10 #[.val (.int p0_0), .val (.int p0_1), .unset, .unset, .unset] [(.int (p0_0 &&& (7 : Int32)))])) t
      refine XS.goto X0.here hx rfl (pc0 := 10) (pc' := 14) rfl (hb hby at_10) (by decide) (by decide) ?_
      show Steps p.tables e below (s₁.setTop (mkF m 14 #[.val (.int p0_0), .val (.int p0_1), .unset, .unset, .unset] [(.int (p0_0 &&& (7 : Int32)))])) t
      exact k
    rw [show own_F0 p0_0 p0_1 = (own_F0_14_1 p0_0 p0_1 (p0_0 &&& (7 : Int32))) from ((if_neg hc47).trans rfl)]
    exact J0_1 _ _ (p0_0 &&& (7 : Int32)) X0 e0 N0
theorem own_law (a b : Int32) : own_F0 a b = 1 := by
  have key : ∀ i, own_F0_14_1 a b i = 1 := by
    intro i
    unfold own_F0_14_1 own_F4
    by_cases h1 : i = 1
    · subst h1; decide
    · by_cases h2 : i = 2
      · subst h2; decide
      · by_cases h3 : i = 3
        · subst h3; decide
        · by_cases h4 : i = 4
          · subst h4; decide
          · by_cases h5 : i = 5
            · subst h5; decide
            · by_cases h6 : i = 6
              · subst h6; decide
              · rw [if_neg h1, if_neg h2, if_neg h3, if_neg h4, if_neg h5, if_neg h6]
  unfold own_F0
  split <;> exact key _

set_option maxRecDepth 65536 in
set_option maxHeartbeats 40000000 in
theorem own_comes {Post : Tables → Env → Array Value → State → Outcome → State → Prop} (hpost : ∀ tb e args s v u, (limb_1_1.after args s (.returned v) u = true ∧ limb_1_2.after args s (.returned v) u = true ∧ True) → FrameEnd s (.returned v) u (Jvm.fieldLocs frame_1_writes args s ++ Jvm.arrayLocs frame_1_arrays args s ++ Jvm.staticLocs frame_1_statics s) 16 128 → Post tb e args s (.returned v) u) :
    ArmFor flags0 classFile x code maxLocals ret World_1 tables_1 room_1 Calls_1 rest_1 Pre_1 Post := by
  intro l hfl _ _ p e ha hc hk s m args below hf hA hF happ hP
  obtain ⟨hcalls, hrest, hpre⟩ := hP
  obtain ⟨-, -, -, hnamed, -, -, -, hat⟩ := (Spec.applies_iff hf).mp happ
  obtain ⟨hg, hn⟩ := and_e (Cond.before_iff.mp (show (Jvm.Cond.and given_1 narrow_1).before args s = true from hpre))
  obtain ⟨hg1, hg2⟩ := and_e hg
  obtain ⟨hg3, hg4⟩ := and_e hg2
  obtain ⟨w0, w1, rfl⟩ : ∃ w0 w1 : Value, args = #[w0, w1] := by
    have hs : args.size = 2 := by simpa [Cond.value, given_1] using hg1
    obtain ⟨L⟩ := args
    match L, hs with
    | [w0, w1], _ => exact ⟨w0, w1, rfl⟩
  have hw := fun d (hd : d ∈ tables_1) => atoms_spec (ws := Jvm.Cond.code x code maxLocals ret :: tables_1) hat d (List.mem_cons_of_mem _ hd)
  have hfit : Fit s := fun {y c} hc i hi => by
    obtain ⟨ha, rfl⟩ := Array.getElem?_eq_some_iff.mp hc
    have q := List.all_eq_true.mp ((Array.all_eq_true_iff_forall_mem.mp hF) _ (Array.getElem_mem ha)) i (List.mem_range.mpr hi)
    simpa [Array.getElem?_eq_getElem hi] using q
  obtain ⟨i0, ei0⟩ := is_v hg3
  obtain rfl : w0 = (.int i0) := Option.some.inj ei0
  obtain ⟨i1, ei1⟩ := is_v hg4
  obtain rfl : w1 = (.int i1) := Option.some.inj ei1
  obtain ⟨hn1a, hn1b⟩ := and_e hn
  obtain ⟨hn2a, hn2b⟩ := and_e hn1b
  obtain ⟨hn3a, hn3b⟩ := and_e hn2b
  obtain ⟨hn4a, hn4b⟩ := and_e hn3b
  obtain ⟨hn5a, hn5b⟩ := and_e hn4b
  obtain ⟨hn6a, hn6b⟩ := and_e hn5b
  obtain ⟨hn7a, hn7b⟩ := and_e hn6b
  obtain ⟨hn8a, hn8b⟩ := and_e hn7b
  obtain ⟨hn9a, hn9b⟩ := and_e hn8b
  obtain ⟨hn10a, hn10b⟩ := and_e hn9b
  obtain ⟨hn11a, hn11b⟩ := and_e hn10b
  obtain ⟨hn12a, hn12b⟩ := and_e hn11b
  obtain ⟨hn13a, hn13b⟩ := and_e hn12b
  obtain ⟨hn14a, hn14b⟩ := and_e hn13b
  obtain ⟨hn15a, hn15b⟩ := and_e hn14b
  obtain ⟨hn16a, hn16b⟩ := and_e hn15b
  obtain ⟨hn17a, hn17b⟩ := and_e hn16b
  obtain ⟨hn18a, hn18b⟩ := and_e hn17b
  obtain ⟨hn19a, hn19b⟩ := and_e hn18b
  obtain ⟨hn20a, hn20b⟩ := and_e hn19b
  obtain ⟨w_VALUES, ev_w_VALUES⟩ := exa_v hn2a
  have S_w_VALUES := Sta.start ev_w_VALUES (Or.inl (hw _ (List.mem_of_getElem? (i := 26) rfl)))
  have E_w_VALUES := Exa.start ev_w_VALUES hn2a
  obtain ⟨wGOSSIP, ev_wGOSSIP⟩ := exa_v hn4a
  have S_wGOSSIP := Sta.start ev_wGOSSIP (Or.inr ⟨(hw _ (List.mem_of_getElem? (i := 6) rfl)), (hw _ (List.mem_of_getElem? (i := 20) rfl))⟩)
  have E_wGOSSIP := Exa.start ev_wGOSSIP hn4a
  obtain ⟨wSCHEMA_PUSH, ev_wSCHEMA_PUSH⟩ := exa_v hn6a
  have S_wSCHEMA_PUSH := Sta.start ev_wSCHEMA_PUSH (Or.inr ⟨(hw _ (List.mem_of_getElem? (i := 6) rfl)), (hw _ (List.mem_of_getElem? (i := 21) rfl))⟩)
  have E_wSCHEMA_PUSH := Exa.start ev_wSCHEMA_PUSH hn6a
  obtain ⟨wSCHEMA_PULL, ev_wSCHEMA_PULL⟩ := exa_v hn8a
  have S_wSCHEMA_PULL := Sta.start ev_wSCHEMA_PULL (Or.inr ⟨(hw _ (List.mem_of_getElem? (i := 6) rfl)), (hw _ (List.mem_of_getElem? (i := 22) rfl))⟩)
  have E_wSCHEMA_PULL := Exa.start ev_wSCHEMA_PULL hn8a
  obtain ⟨wMUTATION, ev_wMUTATION⟩ := exa_v hn10a
  have S_wMUTATION := Sta.start ev_wMUTATION (Or.inr ⟨(hw _ (List.mem_of_getElem? (i := 6) rfl)), (hw _ (List.mem_of_getElem? (i := 23) rfl))⟩)
  have E_wMUTATION := Exa.start ev_wMUTATION hn10a
  obtain ⟨wREAD, ev_wREAD⟩ := exa_v hn12a
  have S_wREAD := Sta.start ev_wREAD (Or.inr ⟨(hw _ (List.mem_of_getElem? (i := 6) rfl)), (hw _ (List.mem_of_getElem? (i := 24) rfl))⟩)
  have E_wREAD := Exa.start ev_wREAD hn12a
  obtain ⟨wRANGE_READ, ev_wRANGE_READ⟩ := exa_v hn14a
  have S_wRANGE_READ := Sta.start ev_wRANGE_READ (Or.inr ⟨(hw _ (List.mem_of_getElem? (i := 6) rfl)), (hw _ (List.mem_of_getElem? (i := 25) rfl))⟩)
  have E_wRANGE_READ := Exa.start ev_wRANGE_READ hn14a
  have F_wGOSSIP_code := Fld.start ((fld_at ev_wGOSSIP).symm.trans (eqv_i (Term.int_eval (1)) hn16a))
  have F_wSCHEMA_PUSH_code := Fld.start ((fld_at ev_wSCHEMA_PUSH).symm.trans (eqv_i (Term.int_eval (2)) hn17a))
  have F_wSCHEMA_PULL_code := Fld.start ((fld_at ev_wSCHEMA_PULL).symm.trans (eqv_i (Term.int_eval (3)) hn18a))
  have F_wMUTATION_code := Fld.start ((fld_at ev_wMUTATION).symm.trans (eqv_i (Term.int_eval (4)) hn19a))
  have F_wREAD_code := Fld.start ((fld_at ev_wREAD).symm.trans (eqv_i (Term.int_eval (5)) hn20a))
  have F_wRANGE_READ_code := Fld.start ((fld_at ev_wRANGE_READ).symm.trans (eqv_i (Term.int_eval (6)) hn20b))
  obtain ⟨cl_w_VALUES, A_w_VALUES⟩ := Arr.start ev_w_VALUES hn1a
  obtain ⟨l1_w_VALUES, l2_w_VALUES⟩ := own_len ev_w_VALUES A_w_VALUES (eqv_i (Term.int_eval (6)) hn3a)
  have x0_w_VALUES := own_elem ev_w_VALUES ev_wGOSSIP A_w_VALUES hn5a
  have x1_w_VALUES := own_elem ev_w_VALUES ev_wSCHEMA_PUSH A_w_VALUES hn7a
  have x2_w_VALUES := own_elem ev_w_VALUES ev_wSCHEMA_PULL A_w_VALUES hn9a
  have x3_w_VALUES := own_elem ev_w_VALUES ev_wMUTATION A_w_VALUES hn11a
  have x4_w_VALUES := own_elem ev_w_VALUES ev_wREAD A_w_VALUES hn13a
  have x5_w_VALUES := own_elem ev_w_VALUES ev_wRANGE_READ A_w_VALUES hn15a
  obtain ⟨kw_VALUES, hk_w_VALUES⟩ : ∃ k, k = cl_w_VALUES.cls := ⟨_, rfl⟩
  have V_w_VALUES : Arv s s.heap w_VALUES kw_VALUES (.object "com/example/vasto/vasto/messaging/Verb") (6 : Int32) [(.ref wGOSSIP), (.ref wSCHEMA_PUSH), (.ref wSCHEMA_PULL), (.ref wMUTATION), (.ref wREAD), (.ref wRANGE_READ)] .null := hk_w_VALUES ▸ Arv.start hfit A_w_VALUES l1_w_VALUES l2_w_VALUES (by decide) rfl ⟨x0_w_VALUES, x1_w_VALUES, x2_w_VALUES, x3_w_VALUES, x4_w_VALUES, x5_w_VALUES, trivial⟩
  have h_own_EN1 : own_EN1 s w_VALUES wGOSSIP wSCHEMA_PUSH wSCHEMA_PULL wMUTATION wREAD wRANGE_READ kw_VALUES := ⟨V_w_VALUES, S_w_VALUES, E_w_VALUES⟩
  have h_own_EN2 : own_EN2 s wGOSSIP := ⟨S_wGOSSIP, E_wGOSSIP, F_wGOSSIP_code⟩
  have h_own_EN3 : own_EN3 s wSCHEMA_PUSH := ⟨S_wSCHEMA_PUSH, E_wSCHEMA_PUSH, F_wSCHEMA_PUSH_code⟩
  have h_own_EN4 : own_EN4 s wSCHEMA_PULL := ⟨S_wSCHEMA_PULL, E_wSCHEMA_PULL, F_wSCHEMA_PULL_code⟩
  have h_own_EN5 : own_EN5 s wMUTATION := ⟨S_wMUTATION, E_wMUTATION, F_wMUTATION_code⟩
  have h_own_EN6 : own_EN6 s wREAD := ⟨S_wREAD, E_wREAD, F_wREAD_code⟩
  have h_own_EN7 : own_EN7 s wRANGE_READ := ⟨S_wRANGE_READ, E_wRANGE_READ, F_wRANGE_READ_code⟩
  have EN : own_EN s w_VALUES wGOSSIP wSCHEMA_PUSH wSCHEMA_PULL wMUTATION wREAD wRANGE_READ kw_VALUES := ⟨h_own_EN1, h_own_EN2, h_own_EN3, h_own_EN4, h_own_EN5, h_own_EN6, h_own_EN7⟩
  obtain ⟨n, o, h1, h2, h3, _, L, rfl, ⟨rfl, N⟩, hq⟩ := own_rm0 l s _ hw tables_1 i0 i1 w_VALUES wGOSSIP wSCHEMA_PUSH wSCHEMA_PULL wMUTATION wREAD wRANGE_READ kw_VALUES s.heap s.heap.size (Nat.le_refl _) (Old.start s) EN p e ha hc hk s m _ below hf ((Spec.applies_iff_loose hf).mp happ).1 ⟨rfl, State.Warmed39.refl s, rfl⟩ trivial
  refine ⟨n, _, h1, h2, h3, hpost _ _ _ _ _ _ ⟨Cond.after_iff.mpr rfl, Cond.after_iff.mpr (eq_i res_at (Term.int_eval (1)) (congrArg Value.int (own_law i0 i1))), trivial⟩ ⟨hq.1, hq.2.1, (hq.2.2.sift fun y hy => Or.inr (N y hy)).mono (by decide) (by decide)⟩⟩
theorem main_1_1 : Claimed_1_1 := own_comes fun _ _ _ _ _ _ h hF => ⟨h.1, hF⟩
theorem main_1_2 : Claimed_1_2 := own_comes fun _ _ _ _ _ _ h hF => ⟨h.2.1, hF⟩
end Jvm.Pilot.@@N@@
namespace Jvm.Pilot.@@N@@
open Jvm Jvm.ClassFile Sem Op Lib Jvm.Free Jvm.Stand Jvm.Pilot.@@N@@.Jvm.D
/-! MADE BY PROGRAM (witnessworld.py) out of the Statement's table words and the real class files: 13 classes; the members and pool entries that the words name. The judged class is class 1, her method 1. -/
namespace start1
open Jvm.ClassFile
def u (s : String) : CpInfo := .utf8 (stringToUtf16 s)
/-- a pool by its gaps: so many unusable entries, then the entry; so many at the end -/
def gap : Nat → List CpInfo → List CpInfo
  | 0, r => r
  | n + 1, r => .unusable :: gap n r
def poolList (es : List (Nat × CpInfo)) (last : Nat) : List CpInfo := es.foldr (fun e r => gap e.1 (e.2 :: r)) (gap last [])
def pool (es : List (Nat × CpInfo)) (last : Nat) : Array CpInfo := ⟨poolList es last⟩
def fileOf (pool : Array CpInfo) (this : Nat) (attrs : Array Attribute := #[]) (ms : Array MethodInfo := #[]) (fl : Nat := 33) (sup : Nat := 0) (ifs : Array Nat := #[]) (fds : Array FieldInfo := #[]) : ClassFile where
  minorVersion := 0
  majorVersion := 65
  constantPool := pool
  accessFlags := fl
  thisClass := this
  superClass := sup
  interfaces := ifs
  fields := fds
  methods := ms
  attributes := attrs
def plain (name : String) (sup : Option ClassId) : Class where
  name := name
  kind := .ordinary
  loader := none
  accessFlags := 33
  super := sup
  interfaces := #[]
  cf := none
  fields := #[]
  methods := #[]
  instanceTypes := #[]
  staticTypes := #[]
  resolved := #[]
  callSites := []
  init := .initialized
  statics := none
  mirror := none

def pool0 : Array CpInfo := pool [(5, u "<init>"), (0, u "()V"), (1, .class_ 10), (1, u "java/lang/Object"), (85, u "clone"), (0, u "()Ljava/lang/Object;")] 26

def k0m0 : Method := { name := "<init>", desc := "()V", sig := { parameters := [], returnType := none }, accessFlags := 1, code := none }
def k0m1 : Method := { name := "clone", desc := "()Ljava/lang/Object;", sig := { parameters := [], returnType := some (.object "java/lang/Object") }, accessFlags := 260, code := none }
/-- java/lang/Object -/
def k0 : Class := { plain "java/lang/Object" none with
  accessFlags := 33
  interfaces := #[]
  cf := some (fileOf pool0 8 #[] #[{ accessFlags := 1, nameIndex := 5, descriptorIndex := 6, attributes := #[] }, { accessFlags := 260, nameIndex := 96, descriptorIndex := 97, attributes := #[] }] 33 0 #[] #[])
  fields := #[]
  methods := #[k0m0, k0m1]
  instanceTypes := #[]
  staticTypes := #[]
  resolved := Array.replicate 124 none
  statics := none }

def pool1 : Array CpInfo := pool [(2, .class_ 4), (1, u "java/lang/Object"), (0, u "<init>"), (0, u "()V"), (0, .methodref 8 9), (0, .class_ 10), (0, .nameAndType 11 12), (0, u "com/example/vasto/vasto/messaging/VerbOfPinLaw"), (0, u "expectedOf"), (0, u "(I)Lcom/example/vasto/vasto/messaging/Verb;"), (0, .methodref 14 15), (0, .class_ 16), (0, .nameAndType 17 12), (0, u "com/example/vasto/vasto/messaging/Verb"), (0, u "of"), (0, .methodref 14 19), (0, .nameAndType 20 21), (0, u "code"), (0, u "()I"), (0, .fieldref 14 23), (0, .nameAndType 24 25), (0, u "GOSSIP"), (0, u "Lcom/example/vasto/vasto/messaging/Verb;"), (0, .fieldref 14 27), (0, .nameAndType 28 25), (0, u "SCHEMA_PUSH"), (0, .fieldref 14 30), (0, .nameAndType 31 25), (0, u "SCHEMA_PULL"), (0, .fieldref 14 33), (0, .nameAndType 34 25), (0, u "MUTATION"), (0, .fieldref 14 36), (0, .nameAndType 37 25), (0, u "READ"), (0, .fieldref 14 39), (0, .nameAndType 40 25), (0, u "RANGE_READ"), (2, u "law"), (0, u "(II)Z")] 3

def k1m0 : Method := { name := "<init>", desc := "()V", sig := { parameters := [], returnType := none }, accessFlags := 1, code := none }
def k1c1 : Code := { maxStack := 2, maxLocals := 5, code := code, exceptionTable := #[], attributes := #[] }
def k1m1 : Method := { name := "law", desc := "(II)Z", sig := { parameters := [.int, .int], returnType := some .boolean }, accessFlags := 9, code := some k1c1 }
def k1c2 : Code := { maxStack := 2, maxLocals := 1, code := method_3_code, exceptionTable := #[], attributes := #[] }
def k1m2 : Method := { name := "expectedOf", desc := "(I)Lcom/example/vasto/vasto/messaging/Verb;", sig := { parameters := [.int], returnType := some (.object "com/example/vasto/vasto/messaging/Verb") }, accessFlags := 10, code := some k1c2 }
/-- com/example/vasto/vasto/messaging/VerbOfPinLaw -/
def k1 : Class := { plain "com/example/vasto/vasto/messaging/VerbOfPinLaw" (some 0) with
  accessFlags := 49
  interfaces := #[]
  cf := some (fileOf pool1 8 #[] #[{ accessFlags := 1, nameIndex := 5, descriptorIndex := 6, attributes := #[] }, { accessFlags := 9, nameIndex := 43, descriptorIndex := 44, attributes := #[] }, { accessFlags := 10, nameIndex := 11, descriptorIndex := 12, attributes := #[] }] 49 2 #[] #[])
  fields := #[]
  methods := #[k1m0, k1m1, k1m2]
  instanceTypes := #[]
  staticTypes := #[]
  resolved := Array.replicate 48 none
  statics := none }

def pool2 : Array CpInfo := pool [(1, .class_ 2), (0, u "java/lang/constant/Constable"), (0, .class_ 4), (0, u "java/lang/Object")] 6

/-- java/lang/constant/Constable -/
def k2 : Class := { plain "java/lang/constant/Constable" (some 0) with
  accessFlags := 1537
  interfaces := #[]
  cf := some (fileOf pool2 1 #[] #[] 1537 3 #[] #[])
  fields := #[]
  methods := #[]
  instanceTypes := #[]
  staticTypes := #[]
  resolved := Array.replicate 11 none
  statics := none }

def pool3 : Array CpInfo := pool [(1, .class_ 2), (0, u "java/lang/Comparable"), (0, .class_ 4), (0, u "java/lang/Object")] 7

/-- java/lang/Comparable -/
def k3 : Class := { plain "java/lang/Comparable" (some 0) with
  accessFlags := 1537
  interfaces := #[]
  cf := some (fileOf pool3 1 #[] #[] 1537 3 #[] #[])
  fields := #[]
  methods := #[]
  instanceTypes := #[]
  staticTypes := #[]
  resolved := Array.replicate 12 none
  statics := none }

def pool4 : Array CpInfo := pool [(1, .class_ 2), (0, u "java/io/Serializable"), (0, .class_ 4), (0, u "java/lang/Object")] 2

/-- java/io/Serializable -/
def k4 : Class := { plain "java/io/Serializable" (some 0) with
  accessFlags := 1537
  interfaces := #[]
  cf := some (fileOf pool4 1 #[] #[] 1537 3 #[] #[])
  fields := #[]
  methods := #[]
  instanceTypes := #[]
  staticTypes := #[]
  resolved := Array.replicate 7 none
  statics := none }

def pool5 : Array CpInfo := pool [(2, .class_ 4), (1, u "java/lang/Enum"), (0, u "name"), (0, u "Ljava/lang/String;"), (2, u "ordinal"), (0, u "I"), (1, .class_ 14), (1, u "java/lang/Object"), (4, u "hash"), (86, .class_ 108), (1, u "java/lang/Enum$EnumDesc"), (2, .class_ 112), (0, u "java/lang/constant/Constable"), (0, .class_ 114), (0, u "java/lang/Comparable"), (0, .class_ 116), (0, u "java/io/Serializable")] 87

/-- java/lang/Enum -/
def k5 : Class := { plain "java/lang/Enum" (some 0) with
  accessFlags := 1057
  interfaces := #[2, 3, 4]
  cf := some (fileOf pool5 2 #[.nestMembers #[106]] #[] 1057 12 #[111, 113, 115] #[{ accessFlags := 18, nameIndex := 5, descriptorIndex := 6, attributes := #[] }, { accessFlags := 18, nameIndex := 9, descriptorIndex := 10, attributes := #[] }, { accessFlags := 2, nameIndex := 19, descriptorIndex := 10, attributes := #[] }])
  fields := #[{ name := "name", type := (.object "java/lang/String"), accessFlags := 18, slot := 0, constantValue := 0 }, { name := "ordinal", type := .int, accessFlags := 18, slot := 1, constantValue := 0 }, { name := "hash", type := .int, accessFlags := 2, slot := 2, constantValue := 0 }]
  methods := #[]
  instanceTypes := #[(.object "java/lang/String"), .int, .int]
  staticTypes := #[]
  resolved := Array.replicate 204 none
  statics := none }

def pool6 : Array CpInfo := pool [(1, .class_ 2), (0, u "com/example/vasto/vasto/messaging/Verb"), (2, u "GOSSIP"), (0, u "Lcom/example/vasto/vasto/messaging/Verb;"), (2, u "SCHEMA_PUSH"), (2, u "SCHEMA_PULL"), (2, u "MUTATION"), (2, u "READ"), (2, u "RANGE_READ"), (0, .fieldref 1 23), (0, .nameAndType 24 25), (0, u "$VALUES"), (0, u "[Lcom/example/vasto/vasto/messaging/Verb;"), (0, .methodref 27 28), (0, .class_ 25), (0, .nameAndType 29 30), (0, u "clone"), (0, u "()Ljava/lang/Object;"), (1, .class_ 34), (1, u "java/lang/Enum"), (6, .fieldref 1 42), (0, .nameAndType 43 44), (0, u "code"), (0, u "I"), (0, .methodref 1 46), (0, .nameAndType 47 48), (0, u "values"), (0, u "()[Lcom/example/vasto/vasto/messaging/Verb;"), (18, u "()I"), (0, u "of"), (0, u "(I)Lcom/example/vasto/vasto/messaging/Verb;")] 6

def k6c0 : Code := { maxStack := 1, maxLocals := 0, code := prog_20_method_1_code, exceptionTable := #[], attributes := #[] }
def k6m0 : Method := { name := "values", desc := "()[Lcom/example/vasto/vasto/messaging/Verb;", sig := { parameters := [], returnType := some (.array (.object "com/example/vasto/vasto/messaging/Verb")) }, accessFlags := 9, code := some k6c0 }
def k6c1 : Code := { maxStack := 1, maxLocals := 1, code := prog_20_method_4_code, exceptionTable := #[], attributes := #[] }
def k6m1 : Method := { name := "code", desc := "()I", sig := { parameters := [], returnType := some .int }, accessFlags := 0, code := some k6c1 }
def k6c2 : Code := { maxStack := 2, maxLocals := 5, code := prog_20_method_5_code, exceptionTable := #[], attributes := #[] }
def k6m2 : Method := { name := "of", desc := "(I)Lcom/example/vasto/vasto/messaging/Verb;", sig := { parameters := [.int], returnType := some (.object "com/example/vasto/vasto/messaging/Verb") }, accessFlags := 8, code := some k6c2 }
/-- com/example/vasto/vasto/messaging/Verb -/
def k6 : Class := { plain "com/example/vasto/vasto/messaging/Verb" (some 5) with
  accessFlags := 16433
  interfaces := #[]
  cf := some (fileOf pool6 1 #[] #[{ accessFlags := 9, nameIndex := 47, descriptorIndex := 48, attributes := #[] }, { accessFlags := 0, nameIndex := 43, descriptorIndex := 67, attributes := #[] }, { accessFlags := 8, nameIndex := 68, descriptorIndex := 69, attributes := #[] }] 16433 32 #[] #[{ accessFlags := 16409, nameIndex := 5, descriptorIndex := 6, attributes := #[] }, { accessFlags := 16409, nameIndex := 9, descriptorIndex := 6, attributes := #[] }, { accessFlags := 16409, nameIndex := 12, descriptorIndex := 6, attributes := #[] }, { accessFlags := 16409, nameIndex := 15, descriptorIndex := 6, attributes := #[] }, { accessFlags := 16409, nameIndex := 18, descriptorIndex := 6, attributes := #[] }, { accessFlags := 16409, nameIndex := 21, descriptorIndex := 6, attributes := #[] }, { accessFlags := 18, nameIndex := 43, descriptorIndex := 44, attributes := #[] }, { accessFlags := 4122, nameIndex := 24, descriptorIndex := 25, attributes := #[] }])
  fields := #[{ name := "GOSSIP", type := (.object "com/example/vasto/vasto/messaging/Verb"), accessFlags := 16409, slot := 0, constantValue := 0 }, { name := "SCHEMA_PUSH", type := (.object "com/example/vasto/vasto/messaging/Verb"), accessFlags := 16409, slot := 1, constantValue := 0 }, { name := "SCHEMA_PULL", type := (.object "com/example/vasto/vasto/messaging/Verb"), accessFlags := 16409, slot := 2, constantValue := 0 }, { name := "MUTATION", type := (.object "com/example/vasto/vasto/messaging/Verb"), accessFlags := 16409, slot := 3, constantValue := 0 }, { name := "READ", type := (.object "com/example/vasto/vasto/messaging/Verb"), accessFlags := 16409, slot := 4, constantValue := 0 }, { name := "RANGE_READ", type := (.object "com/example/vasto/vasto/messaging/Verb"), accessFlags := 16409, slot := 5, constantValue := 0 }, { name := "code", type := .int, accessFlags := 18, slot := 3, constantValue := 0 }, { name := "$VALUES", type := (.array (.object "com/example/vasto/vasto/messaging/Verb")), accessFlags := 4122, slot := 6, constantValue := 0 }]
  methods := #[k6m0, k6m1, k6m2]
  instanceTypes := #[(.object "java/lang/String"), .int, .int, .int]
  staticTypes := #[(.object "com/example/vasto/vasto/messaging/Verb"), (.object "com/example/vasto/vasto/messaging/Verb"), (.object "com/example/vasto/vasto/messaging/Verb"), (.object "com/example/vasto/vasto/messaging/Verb"), (.object "com/example/vasto/vasto/messaging/Verb"), (.object "com/example/vasto/vasto/messaging/Verb"), (.array (.object "com/example/vasto/vasto/messaging/Verb"))]
  resolved := Array.replicate 76 none
  statics := some 0 }

def pool7 : Array CpInfo := pool [(1, .class_ 2), (0, u "java/lang/Cloneable"), (0, .class_ 4), (0, u "java/lang/Object")] 2

/-- java/lang/Cloneable -/
def k7 : Class := { plain "java/lang/Cloneable" (some 0) with
  accessFlags := 1537
  interfaces := #[]
  cf := some (fileOf pool7 1 #[] #[] 1537 3 #[] #[])
  fields := #[]
  methods := #[]
  instanceTypes := #[]
  staticTypes := #[]
  resolved := Array.replicate 7 none
  statics := none }

/-- the primitive byte -/
def k8 : Class := { plain "byte" none with kind := .primitive 'B', accessFlags := 0x411 }
/-- [B -/
def k9 : Class := { plain "[B" (some 0) with kind := .array 8 .byte, interfaces := #[7, 4], accessFlags := 1041 }

/-- the primitive int -/
def k10 : Class := { plain "int" none with kind := .primitive 'I', accessFlags := 0x411 }
/-- [I -/
def k11 : Class := { plain "[I" (some 0) with kind := .array 10 .int, interfaces := #[7, 4], accessFlags := 1041 }

/-- [Lcom/example/vasto/vasto/messaging/Verb; -/
def k12 : Class := { plain "[Lcom/example/vasto/vasto/messaging/Verb;" (some 0) with kind := .array 6 (.object "com/example/vasto/vasto/messaging/Verb"), interfaces := #[7, 4], accessFlags := 1041 }

def heap : Heap := #[{ cls := 6, slots := #[.ref 2, .ref 3, .ref 4, .ref 5, .ref 6, .ref 7, .ref 1], vm := .statics 6 },
  { cls := 12, slots := #[.ref 2, .ref 3, .ref 4, .ref 5, .ref 6, .ref 7], vm := .none },
  { cls := 6, slots := #[.null, .int 0, .int 0, .int 1], vm := .none },
  { cls := 6, slots := #[.null, .int 0, .int 0, .int 2], vm := .none },
  { cls := 6, slots := #[.null, .int 0, .int 0, .int 3], vm := .none },
  { cls := 6, slots := #[.null, .int 0, .int 0, .int 4], vm := .none },
  { cls := 6, slots := #[.null, .int 0, .int 0, .int 5], vm := .none },
  { cls := 6, slots := #[.null, .int 0, .int 0, .int 6], vm := .none }]
def classes : Array Class := #[k0, k1, k2, k3, k4, k5, k6, k7, k8, k9, k10, k11, k12]
def interned : List (Array UInt16 × Addr) := []
def slotsUsed : Nat := 37
def theMethod : MethodId := ⟨1, 1⟩
def args0 : Array Value := #[.int 5, .int 6]
def aboutOver (below : List Frame) : State where
  vm := { classes := classes, interned := interned.toArray }
  heap := heap
  slotsUsed := slotsUsed
  threads := #[{ frames := .invoking theMethod args0 :: below }]
def below0 : List Frame := [.native { method := ⟨0, 0⟩, args := #[] }]
def about1 : State := aboutOver below0
def p0 : Program := .bare "" "" ""
def e0 : Env := launch0.env 0 0 0
theorem w_frames : about1.frames = Frame.invoking theMethod args0 :: below0 := rfl
set_option maxRecDepth 65536 in
theorem w_args : argsFit about1.vm theMethod args0 = true := by decide +kernel
set_option maxRecDepth 65536 in
theorem w_heap : heapFits about1 = true := by decide +kernel
set_option maxRecDepth 65536 in
theorem w_runnable : about1.curStatus? = some .runnable := by decide +kernel
set_option maxRecDepth 65536 in
theorem w_alone : about1.alone = true := by decide +kernel
set_option maxRecDepth 65536 in
theorem w_named : about1.methodNamed? x = some theMethod := by decide +kernel
set_option maxRecDepth 65536 in
theorem w_hears : about1.hears theMethod below0 = true := by decide +kernel
set_option maxRecDepth 65536 in
theorem w_ripe : about1.ripe theMethod args0 below0 = true := by decide +kernel
theorem w_running : about1.status = .running := rfl
set_option maxRecDepth 65536 in
theorem w_room : about1.hasRoom e0.platform room_1 = true :=
  launch0.hasRoom_least _ room_1 (by decide +kernel) (by decide +kernel) (by decide +kernel) (by decide +kernel) (by decide +kernel) (by decide +kernel)
theorem allAtoms_all (ts : List Jvm.Cond) (a : Array Jvm.Value) (st : Jvm.State) : (allAtoms ts).before a st = ts.all (fun c => c.before a st) := by
  induction ts with
  | nil => rfl
  | cons c t ih =>
    show (Jvm.Cond.and c (allAtoms t)).before a st = _
    rw [Jvm.Cond.before_and, ih, List.all_cons]
def words1 : List Jvm.Cond := Jvm.Cond.code x code maxLocals ret :: tables_1
/-- a 'code' word, met by the world's own term for the bytes: nothing is compared byte by byte -/
theorem code_word {y : MethodName} {bytes : ByteArray} {mx : Nat} {rt : Option FieldType} {a : Array Value} {s : State} {m : MethodId} {meth : Method} {c : Code} (h1 : s.methodNamed? y = some m) (h2 : s.vm.method? m = some meth) (h3 : meth.code = some c) (h4 : c.code = bytes)
    (h5 : (c.maxLocals == mx && c.exceptionTable.isEmpty && decide (c.maxStack ≤ mostOperands) && decide (meth.sig.returnType = rt) && !meth.locks && decide (parseMethodDescriptor y.desc = some meth.sig)) = true) : (Jvm.Cond.code y bytes mx rt).before a s = true := by
  simp only [Bool.and_eq_true, beq_iff_eq, Bool.not_eq_true', decide_eq_true_eq] at h5
  obtain ⟨⟨⟨⟨⟨g1, g2⟩, g3⟩, g4⟩, g5⟩, g6⟩ := h5
  simp [Cond.before, Cond.holds, Cond.value, h1, h2, h3, h4, g1, g2, g3, g4, g5, g6]
def isCode : Jvm.Cond → Bool
  | .code _ _ _ _ => true
  | _ => false
theorem all_split {L : List Jvm.Cond} {P : Jvm.Cond → Bool} (h1 : L.all (fun c => isCode c || P c) = true) (h2 : ∀ c ∈ L.filter isCode, P c = true) : L.all P = true := by
  refine List.all_eq_true.mpr fun c hc => ?_
  have h := List.all_eq_true.mp h1 c hc
  rcases Bool.eq_false_or_eq_true (isCode c) with hi | hi
  · exact h2 c (List.mem_filter.mpr ⟨hc, hi⟩)
  · simpa [hi] using h
set_option maxRecDepth 65536 in
theorem w_c0 : (Jvm.Cond.code x code maxLocals ret).before args0 about1 = true := code_word (m := ⟨1, 1⟩) (meth := k1m1) (c := k1c1) (by decide +kernel) rfl rfl rfl (by decide +kernel)
set_option maxRecDepth 65536 in
theorem w_c1 : (Jvm.Cond.code ({ cls := "com/example/vasto/vasto/messaging/VerbOfPinLaw", name := "expectedOf", desc := "(I)Lcom/example/vasto/vasto/messaging/Verb;" } : Jvm.MethodName) method_3_code (1 : Nat) (Option.some (Jvm.ClassFile.FieldType.object "com/example/vasto/vasto/messaging/Verb"))).before args0 about1 = true := code_word (m := ⟨1, 2⟩) (meth := k1m2) (c := k1c2) (by decide +kernel) rfl rfl rfl (by decide +kernel)
set_option maxRecDepth 65536 in
theorem w_c2 : (Jvm.Cond.code ({ cls := "com/example/vasto/vasto/messaging/Verb", name := "of", desc := "(I)Lcom/example/vasto/vasto/messaging/Verb;" } : Jvm.MethodName) prog_20_method_5_code (5 : Nat) (Option.some (Jvm.ClassFile.FieldType.object "com/example/vasto/vasto/messaging/Verb"))).before args0 about1 = true := code_word (m := ⟨6, 2⟩) (meth := k6m2) (c := k6c2) (by decide +kernel) rfl rfl rfl (by decide +kernel)
set_option maxRecDepth 65536 in
theorem w_c3 : (Jvm.Cond.code ({ cls := "com/example/vasto/vasto/messaging/Verb", name := "values", desc := "()[Lcom/example/vasto/vasto/messaging/Verb;" } : Jvm.MethodName) prog_20_method_1_code (0 : Nat) (Option.some (Jvm.ClassFile.FieldType.array (Jvm.ClassFile.FieldType.object "com/example/vasto/vasto/messaging/Verb")))).before args0 about1 = true := code_word (m := ⟨6, 0⟩) (meth := k6m0) (c := k6c0) (by decide +kernel) rfl rfl rfl (by decide +kernel)
set_option maxRecDepth 65536 in
theorem w_c4 : (Jvm.Cond.code ({ cls := "com/example/vasto/vasto/messaging/Verb", name := "code", desc := "()I" } : Jvm.MethodName) prog_20_method_4_code (1 : Nat) (Option.some Jvm.ClassFile.FieldType.int)).before args0 about1 = true := code_word (m := ⟨6, 1⟩) (meth := k6m1) (c := k6c1) (by decide +kernel) rfl rfl rfl (by decide +kernel)
def codes1 : List Jvm.Cond := [Jvm.Cond.code x code maxLocals ret, Jvm.Cond.code ({ cls := "com/example/vasto/vasto/messaging/VerbOfPinLaw", name := "expectedOf", desc := "(I)Lcom/example/vasto/vasto/messaging/Verb;" } : Jvm.MethodName) method_3_code (1 : Nat) (Option.some (Jvm.ClassFile.FieldType.object "com/example/vasto/vasto/messaging/Verb")), Jvm.Cond.code ({ cls := "com/example/vasto/vasto/messaging/Verb", name := "of", desc := "(I)Lcom/example/vasto/vasto/messaging/Verb;" } : Jvm.MethodName) prog_20_method_5_code (5 : Nat) (Option.some (Jvm.ClassFile.FieldType.object "com/example/vasto/vasto/messaging/Verb")), Jvm.Cond.code ({ cls := "com/example/vasto/vasto/messaging/Verb", name := "values", desc := "()[Lcom/example/vasto/vasto/messaging/Verb;" } : Jvm.MethodName) prog_20_method_1_code (0 : Nat) (Option.some (Jvm.ClassFile.FieldType.array (Jvm.ClassFile.FieldType.object "com/example/vasto/vasto/messaging/Verb"))), Jvm.Cond.code ({ cls := "com/example/vasto/vasto/messaging/Verb", name := "code", desc := "()I" } : Jvm.MethodName) prog_20_method_4_code (1 : Nat) (Option.some Jvm.ClassFile.FieldType.int)]
set_option maxRecDepth 65536 in
theorem codes_eq : words1.filter isCode = codes1 := rfl
theorem w_codes : ∀ c ∈ words1.filter isCode, c.before args0 about1 = true := by
  rw [codes_eq]
  intro c hc
  simp only [codes1, List.mem_cons, List.not_mem_nil, or_false] at hc
  rcases hc with rfl | rfl | rfl | rfl | rfl
  · exact w_c0
  · exact w_c1
  · exact w_c2
  · exact w_c3
  · exact w_c4
set_option maxRecDepth 65536 in
theorem w_t1 : (words1.take 24).all (fun c => isCode c || c.before args0 about1) = true := by decide +kernel
set_option maxRecDepth 65536 in
theorem w_t2 : (words1.drop 24).all (fun c => isCode c || c.before args0 about1) = true := by decide +kernel
theorem w_tables : (allAtoms (Jvm.Cond.code x code maxLocals ret :: tables_1)).before args0 about1 = true := by
  rw [allAtoms_all]
  show words1.all (fun c => c.before args0 about1) = true
  refine all_split ?_ w_codes
  rw [← List.take_append_drop 24 words1, List.all_append, w_t1, w_t2]
  rfl
set_option maxRecDepth 65536 in
theorem w_case : (Jvm.Cond.and given_1 narrow_1).before args0 about1 = true := by decide +kernel
theorem w_applies : (headSpec (Jvm.Cond.code x code maxLocals ret :: tables_1) room_1).applies x e0.platform about1 = true :=
  (Spec.applies_iff w_frames).mpr ⟨w_running, w_runnable, w_alone, w_named, w_hears, w_ripe, w_room, w_tables⟩
theorem atStart : AtStart classFile x code maxLocals ret World_1 tables_1 room_1 Calls_1 rest_1 Pre_1 launch0 p0 e0 about1 theMethod args0 below0 :=
  ⟨lists_1, trivial, launch0.admits_env _ _ _, launch0.least_env, fairChoices_fair.cas, fairChoices_fair.clock, w_frames, w_args, w_heap, w_applies, trivial, trivial, w_case⟩
end start1
theorem witness_1 : WitnessClaimed_1 := ⟨start1.p0, start1.e0, start1.about1, start1.theMethod, start1.args0, start1.below0, start1.atStart⟩
end Jvm.Pilot.@@N@@
