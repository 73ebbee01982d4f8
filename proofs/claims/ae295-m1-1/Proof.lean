import JvmDerived
import JvmDerived.Pilot.@@N@@Statement
import JvmDerived.Pilot.@@N@@Code
set_option linter.unusedVariables false
set_option linter.unusedSimpArgs false
namespace Jvm.Pilot.@@N@@
open Jvm Jvm.ClassFile Sem Op Lib Jvm.Free Jvm.Stand Jvm.LawKit Jvm.RoadKit Bundle Jvm.Pilot.@@N@@.Jvm.D
/-- from the frame g at T the run reaches a state of which P holds -/
def own_Go (p : Program) (e : Env) (below : List Frame) (P : State → Outcome → Prop) (T : State) (g : JFrame) : Prop := ∃ t o, Steps p.tables e below (T.setTop g) t ∧ P t o
/-- the run has left the method: what it returned, the heap and the places written are as Q says -/
def own_P (s : State) (below : List Frame) (R : Room) (Q : Option Value → Heap → List Loc → Prop) (t : State) (o : Outcome) : Prop := t.status = .running ∧ Ended t below o ∧ ∃ v L, o = .returned v ∧ Q v t.heap L ∧ FrameEnd s o t L R.cells R.slots
section OwnKit
variable {p : Program} {l : Launch} {e : Env} {R : Room} {s : State} {m : MethodId} {args : Array Value} {below : List Frame} {meth : Method} {c : Code} {T T' : State} {locs : List Loc} {cells slots : Nat} {P : State → Outcome → Prop} {g g' : JFrame}
theorem own_by (k : ∀ t, Steps p.tables e below (T'.setTop g') t → Steps p.tables e below (T.setTop g) t) (h : own_Go p e below P T' g') : own_Go p e below P T g := by
  obtain ⟨t, o, st, q⟩ := h
  exact ⟨t, o, k t st, q⟩
theorem own_via (k : Steps p.tables e below (T.setTop g) (T'.setTop g')) (h : own_Go p e below P T' g') : own_Go p e below P T g := own_by (fun _ st => k.trans st) h
theorem own_in (q : g = g') (h : own_Go p e below P T g') : own_Go p e below P T g := q ▸ h
theorem own_out {v : Option Value} {Q : Option Value → Heap → List Loc → Prop} (X : Stand p l e R s m args below meth c T locs cells slots) (hv : meth.sig.returnType = none → v = none) (hlk : meth.locks = false) (hc : cells ≤ R.cells) (hs : slots ≤ R.slots) (q : Q v T.heap locs)
    (k : ∀ fs, (∀ (f : JFrame) (acts : List Action), f.method = m → f.locked = none → f.entered = [] → (doReturn e (T.setTop f) acts v).1 = T.setFrames fs) → Steps p.tables e below (T.setTop g) (T.setFrames fs)) : own_Go p e below (own_P s below R Q) T g := by
  obtain ⟨fs, hr, hrun, hended, hW, hsame⟩ := X.leave (v := v) hv hlk
  exact ⟨_, _, k fs hr, hrun, hended, _, _, rfl, q, ⟨_, rfl⟩, hW, hsame.mono hc hs⟩
theorem own_some {t : FieldType} {w : Value} (h : meth.sig.returnType = some t) : meth.sig.returnType = none → some w = none := fun q => by rw [h] at q; cases q
theorem own_retN {pc : Nat} {Ls : Array Slot} {z : Int32} {t : FieldType} {rest : List Value} {Q : Option Value → Heap → List Loc → Prop} (X : Stand p l e R s m args below meth c T locs cells slots) (hx : p.tables.exec = Jvm.exec) (hret : meth.sig.returnType = some t) (ht : t = .boolean ∨ t = .byte ∨ t = .char ∨ t = .short)
    (hd : decode c.code pc = .ok (.ireturn, 1)) (hlk : meth.locks = false) (hc : cells ≤ R.cells) (hs : slots ≤ R.slots) (q : Q (some (.int (nar t z))) T.heap locs) : own_Go p e below (own_P s below R Q) T (mkF m pc Ls (.int z :: rest)) :=
  own_out X (own_some hret) hlk hc hs q fun _ hr => retN X hx hret ht hd hr
theorem own_retI {pc : Nat} {Ls : Array Slot} {z : Int32} {rest : List Value} {Q : Option Value → Heap → List Loc → Prop} (X : Stand p l e R s m args below meth c T locs cells slots) (hx : p.tables.exec = Jvm.exec) (hret : meth.sig.returnType = some .int)
    (hd : decode c.code pc = .ok (.ireturn, 1)) (hlk : meth.locks = false) (hc : cells ≤ R.cells) (hs : slots ≤ R.slots) (q : Q (some (.int z)) T.heap locs) : own_Go p e below (own_P s below R Q) T (mkF m pc Ls (.int z :: rest)) :=
  own_out X (own_some hret) hlk hc hs q fun _ hr => retOut X hx hret rfl (Or.inl ⟨rfl, Or.inl rfl, _, rfl⟩) hd hr
theorem own_retJ {pc : Nat} {Ls : Array Slot} {z : Int64} {rest : List Value} {Q : Option Value → Heap → List Loc → Prop} (X : Stand p l e R s m args below meth c T locs cells slots) (hx : p.tables.exec = Jvm.exec) (hret : meth.sig.returnType = some .long)
    (hd : decode c.code pc = .ok (.lreturn, 1)) (hlk : meth.locks = false) (hc : cells ≤ R.cells) (hs : slots ≤ R.slots) (q : Q (some (.long z)) T.heap locs) : own_Go p e below (own_P s below R Q) T (mkF m pc Ls (.long z :: rest)) :=
  own_out X (own_some hret) hlk hc hs q fun _ hr => retOut X hx hret rfl (Or.inr (Or.inl ⟨rfl, rfl, _, rfl⟩)) hd hr
theorem own_retR {pc : Nat} {Ls : Array Slot} {w : Value} {t : FieldType} {rest : List Value} {Q : Option Value → Heap → List Loc → Prop} (X : Stand p l e R s m args below meth c T locs cells slots) (hx : p.tables.exec = Jvm.exec) (hret : meth.sig.returnType = some t) (ht : t.isReference = true) (hw : w.isRef = true) (hn : narrow t w = w)
    (hd : decode c.code pc = .ok (.areturn, 1)) (hlk : meth.locks = false) (hc : cells ≤ R.cells) (hs : slots ≤ R.slots) (q : Q (some w) T.heap locs) : own_Go p e below (own_P s below R Q) T (mkF m pc Ls (w :: rest)) :=
  own_out X (own_some hret) hlk hc hs q fun _ hr => retOut X hx hret hn (Or.inr (Or.inr (Or.inr (Or.inr ⟨rfl, ht, hw⟩)))) hd hr
theorem own_ret0 {pc : Nat} {Ls : Array Slot} {Q : Option Value → Heap → List Loc → Prop} (X : Stand p l e R s m args below meth c T locs cells slots) (hx : p.tables.exec = Jvm.exec) (hret : meth.sig.returnType = none)
    (hd : decode c.code pc = .ok (.return_, 1)) (hlk : meth.locks = false) (hc : cells ≤ R.cells) (hs : slots ≤ R.slots) (q : Q none T.heap locs) : own_Go p e below (own_P s below R Q) T (mkF m pc Ls []) :=
  own_out X (fun _ => rfl) hlk hc hs q fun _ hr => X.returnOut hx hret hd hr
theorem own_fitsR {C : String} {v : Value} (h : v.isRef = true) : fits (.object C) v = true := by
  cases v <;> first | rfl | (simp [Value.isRef] at h)
theorem own_tab (xs : List Int32) (d : Int32) (k : Nat) : (xs.map Value.int).getD k (.int d) = .int (xs.getD k d) := by
  simp only [List.getD_eq_getElem?_getD, List.getElem?_map]
  cases xs[k]? <;> rfl
end OwnKit
def own_EN (Z : State) (wCOARSE : Addr) (wDEEP : Addr) (wFINE : Addr) : Prop := Sta Z Z.heap "com/example/rundown/rundown/symbolic/Precision" "COARSE" "Lcom/example/rundown/rundown/symbolic/Precision;" (.ref wCOARSE) ∧ Exa Z Z.heap wCOARSE "com/example/rundown/rundown/symbolic/Precision" ∧ Fld Z Z.heap wCOARSE "com/example/rundown/rundown/symbolic/Precision" "deepArrivals" "I" (.int (0 : Int32)) ∧ Fld Z Z.heap wCOARSE "com/example/rundown/rundown/symbolic/Precision" "constantArrivals" "I" (.int (0 : Int32)) ∧ Sta Z Z.heap "com/example/rundown/rundown/symbolic/Precision" "DEEP" "Lcom/example/rundown/rundown/symbolic/Precision;" (.ref wDEEP) ∧ Exa Z Z.heap wDEEP "com/example/rundown/rundown/symbolic/Precision" ∧ Fld Z Z.heap wDEEP "com/example/rundown/rundown/symbolic/Precision" "deepArrivals" "I" (.int (33 : Int32)) ∧ Fld Z Z.heap wDEEP "com/example/rundown/rundown/symbolic/Precision" "constantArrivals" "I" (.int (256 : Int32)) ∧ Sta Z Z.heap "com/example/rundown/rundown/symbolic/Precision" "FINE" "Lcom/example/rundown/rundown/symbolic/Precision;" (.ref wFINE) ∧ Exa Z Z.heap wFINE "com/example/rundown/rundown/symbolic/Precision" ∧ Fld Z Z.heap wFINE "com/example/rundown/rundown/symbolic/Precision" "deepArrivals" "I" (.int (0 : Int32)) ∧ Fld Z Z.heap wFINE "com/example/rundown/rundown/symbolic/Precision" "constantArrivals" "I" (.int (0 : Int32))
theorem d1_0 : decode prog_113_method_7_code 0 = .ok (.iload_n 1, 1) := by decide +kernel
theorem d1_1 : decode prog_113_method_7_code 1 = .ok (.iconst 2, 1) := by decide +kernel
theorem d1_2 : decode prog_113_method_7_code 2 = .ok (.if_icmp .le 43, 3) := by decide +kernel
theorem d1_5 : decode prog_113_method_7_code 5 = .ok (.iload_n 2, 1) := by decide +kernel
theorem d1_6 : decode prog_113_method_7_code 6 = .ok (.aload_n 0, 1) := by decide +kernel
theorem d1_7 : decode prog_113_method_7_code 7 = .ok (.getfield 32, 3) := by decide +kernel
theorem d1_10 : decode prog_113_method_7_code 10 = .ok (.if_icmp .gt 14, 3) := by decide +kernel
theorem d1_24 : decode prog_113_method_7_code 24 = .ok (.iload_n 2, 1) := by decide +kernel
theorem d1_25 : decode prog_113_method_7_code 25 = .ok (.aload_n 0, 1) := by decide +kernel
theorem d1_26 : decode prog_113_method_7_code 26 = .ok (.getfield 36, 3) := by decide +kernel
theorem d1_29 : decode prog_113_method_7_code 29 = .ok (.if_icmp .gt 20, 3) := by decide +kernel
theorem d1_49 : decode prog_113_method_7_code 49 = .ok (.iconst 0, 1) := by decide +kernel
theorem d1_32 : decode prog_113_method_7_code 32 = .ok (.iload 5, 2) := by decide +kernel
theorem d1_34 : decode prog_113_method_7_code 34 = .ok (.ifCond .eq 15, 3) := by decide +kernel
theorem d1_37 : decode prog_113_method_7_code 37 = .ok (.iload_n 3, 1) := by decide +kernel
theorem d1_38 : decode prog_113_method_7_code 38 = .ok (.aload_n 0, 1) := by decide +kernel
theorem d1_39 : decode prog_113_method_7_code 39 = .ok (.getfield 36, 3) := by decide +kernel
theorem d1_42 : decode prog_113_method_7_code 42 = .ok (.if_icmp .ge 7, 3) := by decide +kernel
theorem d1_45 : decode prog_113_method_7_code 45 = .ok (.iconst 1, 1) := by decide +kernel
theorem d1_46 : decode prog_113_method_7_code 46 = .ok (.goto 4, 3) := by decide +kernel
theorem d1_13 : decode prog_113_method_7_code 13 = .ok (.iload 4, 2) := by decide +kernel
theorem d1_15 : decode prog_113_method_7_code 15 = .ok (.ifCond .eq 9, 3) := by decide +kernel
theorem d1_18 : decode prog_113_method_7_code 18 = .ok (.iload_n 3, 1) := by decide +kernel
theorem d1_19 : decode prog_113_method_7_code 19 = .ok (.bipush 64, 2) := by decide +kernel
theorem d1_21 : decode prog_113_method_7_code 21 = .ok (.if_icmp .lt 24, 3) := by decide +kernel
theorem d1_50 : decode prog_113_method_7_code 50 = .ok (.ireturn, 1) := by decide +kernel
theorem pn_com_example_rundown_rundown_symbolic_Precision : plainName "com/example/rundown/rundown/symbolic/Precision" = true := by first | (simp [plainName, overriddenIn]; done) | decide +kernel
def own_F1 (p1_1 : Int32) (p1_2 : Int32) (p1_3 : Int32) (p1_4 : Int32) (p1_5 : Int32) (w_deepArrivals_a1_0 : Int32) (w_constantArrivals_a1_0 : Int32) : Int32 := (if (2 : Int32) < p1_1 then (if w_deepArrivals_a1_0 < p1_2 then (if w_constantArrivals_a1_0 < p1_2 then (0 : Int32) else (if p1_5 = (0 : Int32) then (0 : Int32) else (if p1_3 < w_constantArrivals_a1_0 then (1 : Int32) else (0 : Int32)))) else (if p1_4 = (0 : Int32) then (if w_constantArrivals_a1_0 < p1_2 then (0 : Int32) else (if p1_5 = (0 : Int32) then (0 : Int32) else (if p1_3 < w_constantArrivals_a1_0 then (1 : Int32) else (0 : Int32)))) else (if p1_3 < (64 : Int32) then (1 : Int32) else (if w_constantArrivals_a1_0 < p1_2 then (0 : Int32) else (if p1_5 = (0 : Int32) then (0 : Int32) else (if p1_3 < w_constantArrivals_a1_0 then (1 : Int32) else (0 : Int32))))))) else (1 : Int32))
theorem own_ef1 (m : MethodId) (x0 : Addr) (x1 : Int32) (x2 : Int32) (x3 : Int32) (x4 : Int32) (x5 : Int32) : entryFrame m #[(.ref x0), (.int x1), (.int x2), (.int x3), (.int x4), (.int x5)] 6 = mkF m 0 #[.val (.ref x0), .val (.int x1), .val (.int x2), .val (.int x3), .val (.int x4), .val (.int x5)] [] := by first | (simp [entryFrame, mkF, argsToLocals, Value.category]; done) | rfl
def own_Q1 (r : Int32) (h0 : Heap) (n0 : Nat) (v : Option Value) (h : Heap) (L : List Loc) : Prop := v = some (.int r) ∧ Fr n0 L ∧ h = h0
set_option maxRecDepth 65536 in
set_option maxHeartbeats 40000000 in
theorem own_rm1 (l : Launch) (Z : State) (a0 : Array Value) (hw : ∀ d ∈ tables_1, d.before a0 Z = true) (ws : List Jvm.Cond) (a1_0 : Addr) (p1_1 : Int32) (p1_2 : Int32) (p1_3 : Int32) (p1_4 : Int32) (p1_5 : Int32) (w_deepArrivals_a1_0 : Int32) (w_constantArrivals_a1_0 : Int32) (h0 : Heap) (n0 : Nat) (Z0 : n0 ≤ h0.size) (F_deepArrivals_a1_0 : Fld Z h0 a1_0 "com/example/rundown/rundown/symbolic/Precision" "deepArrivals" "I" (.int w_deepArrivals_a1_0)) (F_constantArrivals_a1_0 : Fld Z h0 a1_0 "com/example/rundown/rundown/symbolic/Precision" "constantArrivals" "I" (.int w_constantArrivals_a1_0)) :
    MetFree l (⟨"com/example/rundown/rundown/symbolic/Precision", "isExact", "(IIIZZ)Z"⟩ : MethodName) (head1 (Jvm.Cond.code (⟨"com/example/rundown/rundown/symbolic/Precision", "isExact", "(IIIZZ)Z"⟩ : MethodName) prog_113_method_7_code 6 (some .boolean) :: ws) ({ frames := 0, cells := 0, slots := 0, locals := 0 } : Room)) (fun a U => a = #[(.ref a1_0), (.int p1_1), (.int p1_2), (.int p1_3), (.int p1_4), (.int p1_5)] ∧ Z.Warmed39 U.vm ∧ U.heap = h0) (fun _ _ _ _ _ => True) (fun _ U o U' => ∃ v L, o = .returned v ∧ own_Q1 (own_F1 p1_1 p1_2 p1_3 p1_4 p1_5 w_deepArrivals_a1_0 w_constantArrivals_a1_0) h0 n0 v U'.heap L ∧ FrameEnd U o U' L ({ frames := 0, cells := 0, slots := 0, locals := 0 } : Room).cells ({ frames := 0, cells := 0, slots := 0, locals := 0 } : Room).slots) := by
  refine MetFree.of_bodySF (plainFor_of_name pn_com_example_rundown_rundown_symbolic_Precision) hisR ?_
  intro p e s m args below meth c s₁ Bd hml0 hP hK
  obtain ⟨rfl, hZ, hh⟩ := hP
  have hx := Bd.exec
  have hby := Bd.bytes
  have hlk : meth.locks = false := BodyLoose.notSynchronized Bd
  have hml : c.maxLocals = 6 := hml0
  have hown : s.vm.findClass "com/example/rundown/rundown/symbolic/Precision" = some m.cls := findClass_of_methodNamed Bd.named
  have hnm := (name_of_methodNamed Bd.named Bd.method).1
  have X0 : Stand p l e ({ frames := 0, cells := 0, slots := 0, locals := 0 } : Room) s m #[(.ref a1_0), (.int p1_1), (.int p1_2), (.int p1_3), (.int p1_4), (.int p1_5)] below meth c s₁ [] 0 0 := Stand.of_body Bd
  have e0 : s₁.heap = h0 := by rw [← hh, Bd.state]; rfl
  have N0 := Fr.nil n0
  show own_Go p e below (own_P s below ({ frames := 0, cells := 0, slots := 0, locals := 0 } : Room) (own_Q1 (own_F1 p1_1 p1_2 p1_3 p1_4 p1_5 w_deepArrivals_a1_0 w_constantArrivals_a1_0) h0 n0)) s₁ (entryFrame m #[(.ref a1_0), (.int p1_1), (.int p1_2), (.int p1_3), (.int p1_4), (.int p1_5)] 6)
  refine own_in (own_ef1 m a1_0 p1_1 p1_2 p1_3 p1_4 p1_5) ?_
  refine own_by (T' := s₁) (g' := (mkF m 2 #[.val (.ref a1_0), .val (.int p1_1), .val (.int p1_2), .val (.int p1_3), .val (.int p1_4), .val (.int p1_5)] [(.int (2 : Int32)), (.int p1_1)])) (fun t k => ?_) ?_
  · show Steps p.tables e below (s₁.setTop (mkF m 0 #[.val (.ref a1_0), .val (.int p1_1), .val (.int p1_2), .val (.int p1_3), .val (.int p1_4), .val (.int p1_5)] [])) t
    refine XS.iloadN X0.here hx rfl (hb hby d1_0) rfl ?_
    show Steps p.tables e below (s₁.setTop (mkF m 1 #[.val (.ref a1_0), .val (.int p1_1), .val (.int p1_2), .val (.int p1_3), .val (.int p1_4), .val (.int p1_5)] [(.int p1_1)])) t
    refine XS.iconst X0.here hx rfl (hb hby d1_1) ?_
    show Steps p.tables e below (s₁.setTop (mkF m 2 #[.val (.ref a1_0), .val (.int p1_1), .val (.int p1_2), .val (.int p1_3), .val (.int p1_4), .val (.int p1_5)] [(.int (2 : Int32)), (.int p1_1)])) t
    exact k
  by_cases hc1 : (2 : Int32) < p1_1
  · skip
    refine own_by (T' := s₁) (g' := (mkF m 7 #[.val (.ref a1_0), .val (.int p1_1), .val (.int p1_2), .val (.int p1_3), .val (.int p1_4), .val (.int p1_5)] [(.ref a1_0), (.int p1_2)])) (fun t k => ?_) ?_
    · show Steps p.tables e below (s₁.setTop (mkF m 2 #[.val (.ref a1_0), .val (.int p1_1), .val (.int p1_2), .val (.int p1_3), .val (.int p1_4), .val (.int p1_5)] [(.int (2 : Int32)), (.int p1_1)])) t
      refine XS.icmpNo X0.here hx rfl (hb hby d1_2) rfl (tlt hc1).2.2.2 ?_
      show Steps p.tables e below (s₁.setTop (mkF m 5 #[.val (.ref a1_0), .val (.int p1_1), .val (.int p1_2), .val (.int p1_3), .val (.int p1_4), .val (.int p1_5)] [])) t
      refine XS.iloadN X0.here hx rfl (hb hby d1_5) rfl ?_
      show Steps p.tables e below (s₁.setTop (mkF m 6 #[.val (.ref a1_0), .val (.int p1_1), .val (.int p1_2), .val (.int p1_3), .val (.int p1_4), .val (.int p1_5)] [(.int p1_2)])) t
      refine XS.aloadN X0.here hx rfl (hb hby d1_6) rfl rfl ?_
      show Steps p.tables e below (s₁.setTop (mkF m 7 #[.val (.ref a1_0), .val (.int p1_1), .val (.int p1_2), .val (.int p1_3), .val (.int p1_4), .val (.int p1_5)] [(.ref a1_0), (.int p1_2)])) t
      exact k
    obtain ⟨T21, X21, e21, st21⟩ := getF X0 hx hZ hown (host := "") (Or.inl (hw _ (List.mem_of_getElem? (i := 9) rfl))) Via.refl e0 F_deepArrivals_a1_0 (g := (mkF m 7 #[.val (.ref a1_0), .val (.int p1_1), .val (.int p1_2), .val (.int p1_3), .val (.int p1_4), .val (.int p1_5)] [(.ref a1_0), (.int p1_2)])) rfl rfl (hb hby d1_7)
    refine own_by (T' := T21) (g' := (mkF m 10 #[.val (.ref a1_0), .val (.int p1_1), .val (.int p1_2), .val (.int p1_3), .val (.int p1_4), .val (.int p1_5)] [(.int w_deepArrivals_a1_0), (.int p1_2)])) st21 ?_
    by_cases hc22 : w_deepArrivals_a1_0 < p1_2
    · skip
      refine own_by (T' := T21) (g' := (mkF m 26 #[.val (.ref a1_0), .val (.int p1_1), .val (.int p1_2), .val (.int p1_3), .val (.int p1_4), .val (.int p1_5)] [(.ref a1_0), (.int p1_2)])) (fun t k => ?_) ?_
      · show Steps p.tables e below (T21.setTop (mkF m 10 #[.val (.ref a1_0), .val (.int p1_1), .val (.int p1_2), .val (.int p1_3), .val (.int p1_4), .val (.int p1_5)] [(.int w_deepArrivals_a1_0), (.int p1_2)])) t
        refine XS.icmpYes X21.here hx rfl (pc0 := 10) (pc' := 24) rfl (hb hby d1_10) rfl (tlt hc22).2.2.1 (by decide) (by decide) ?_
        show Steps p.tables e below (T21.setTop (mkF m 24 #[.val (.ref a1_0), .val (.int p1_1), .val (.int p1_2), .val (.int p1_3), .val (.int p1_4), .val (.int p1_5)] [])) t
        refine XS.iloadN X21.here hx rfl (hb hby d1_24) rfl ?_
        show Steps p.tables e below (T21.setTop (mkF m 25 #[.val (.ref a1_0), .val (.int p1_1), .val (.int p1_2), .val (.int p1_3), .val (.int p1_4), .val (.int p1_5)] [(.int p1_2)])) t
        refine XS.aloadN X21.here hx rfl (hb hby d1_25) rfl rfl ?_
        show Steps p.tables e below (T21.setTop (mkF m 26 #[.val (.ref a1_0), .val (.int p1_1), .val (.int p1_2), .val (.int p1_3), .val (.int p1_4), .val (.int p1_5)] [(.ref a1_0), (.int p1_2)])) t
        exact k
      obtain ⟨T40, X40, e40, st40⟩ := getF X21 hx hZ hown (host := "") (Or.inl (hw _ (List.mem_of_getElem? (i := 11) rfl))) Via.refl e21 F_constantArrivals_a1_0 (g := (mkF m 26 #[.val (.ref a1_0), .val (.int p1_1), .val (.int p1_2), .val (.int p1_3), .val (.int p1_4), .val (.int p1_5)] [(.ref a1_0), (.int p1_2)])) rfl rfl (hb hby d1_26)
      refine own_by (T' := T40) (g' := (mkF m 29 #[.val (.ref a1_0), .val (.int p1_1), .val (.int p1_2), .val (.int p1_3), .val (.int p1_4), .val (.int p1_5)] [(.int w_constantArrivals_a1_0), (.int p1_2)])) st40 ?_
      by_cases hc41 : w_constantArrivals_a1_0 < p1_2
      · skip
        refine own_by (T' := T40) (g' := (mkF m 50 #[.val (.ref a1_0), .val (.int p1_1), .val (.int p1_2), .val (.int p1_3), .val (.int p1_4), .val (.int p1_5)] [(.int (0 : Int32))])) (fun t k => ?_) ?_
        · show Steps p.tables e below (T40.setTop (mkF m 29 #[.val (.ref a1_0), .val (.int p1_1), .val (.int p1_2), .val (.int p1_3), .val (.int p1_4), .val (.int p1_5)] [(.int w_constantArrivals_a1_0), (.int p1_2)])) t
          refine XS.icmpYes X40.here hx rfl (pc0 := 29) (pc' := 49) rfl (hb hby d1_29) rfl (tlt hc41).2.2.1 (by decide) (by decide) ?_
          show Steps p.tables e below (T40.setTop (mkF m 49 #[.val (.ref a1_0), .val (.int p1_1), .val (.int p1_2), .val (.int p1_3), .val (.int p1_4), .val (.int p1_5)] [])) t
          refine XS.iconst X40.here hx rfl (hb hby d1_49) ?_
          show Steps p.tables e below (T40.setTop (mkF m 50 #[.val (.ref a1_0), .val (.int p1_1), .val (.int p1_2), .val (.int p1_3), .val (.int p1_4), .val (.int p1_5)] [(.int (0 : Int32))])) t
          exact k
        rw [show own_F1 p1_1 p1_2 p1_3 p1_4 p1_5 w_deepArrivals_a1_0 w_constantArrivals_a1_0 = (0 : Int32) from ((if_pos hc1).trans ((if_pos hc22).trans ((if_pos hc41).trans rfl)))]
        exact own_retN X40 hx (t := .boolean) Bd.returns (by simp) (hb hby d1_50) hlk (by decide) (by decide) ⟨rfl, N0, e40⟩
      · skip
        refine own_by (T' := T40) (g' := (mkF m 34 #[.val (.ref a1_0), .val (.int p1_1), .val (.int p1_2), .val (.int p1_3), .val (.int p1_4), .val (.int p1_5)] [(.int p1_5)])) (fun t k => ?_) ?_
        · show Steps p.tables e below (T40.setTop (mkF m 29 #[.val (.ref a1_0), .val (.int p1_1), .val (.int p1_2), .val (.int p1_3), .val (.int p1_4), .val (.int p1_5)] [(.int w_constantArrivals_a1_0), (.int p1_2)])) t
          refine XS.icmpNo X40.here hx rfl (hb hby d1_29) rfl (flt hc41).2.2.1 ?_
          show Steps p.tables e below (T40.setTop (mkF m 32 #[.val (.ref a1_0), .val (.int p1_1), .val (.int p1_2), .val (.int p1_3), .val (.int p1_4), .val (.int p1_5)] [])) t
          refine XS.iload X40.here hx rfl (hb hby d1_32) rfl ?_
          show Steps p.tables e below (T40.setTop (mkF m 34 #[.val (.ref a1_0), .val (.int p1_1), .val (.int p1_2), .val (.int p1_3), .val (.int p1_4), .val (.int p1_5)] [(.int p1_5)])) t
          exact k
        by_cases hc45 : p1_5 = (0 : Int32)
        · skip
          refine own_by (T' := T40) (g' := (mkF m 50 #[.val (.ref a1_0), .val (.int p1_1), .val (.int p1_2), .val (.int p1_3), .val (.int p1_4), .val (.int p1_5)] [(.int (0 : Int32))])) (fun t k => ?_) ?_
          · show Steps p.tables e below (T40.setTop (mkF m 34 #[.val (.ref a1_0), .val (.int p1_1), .val (.int p1_2), .val (.int p1_3), .val (.int p1_4), .val (.int p1_5)] [(.int p1_5)])) t
            refine XS.ifYes X40.here hx rfl (pc0 := 34) (pc' := 49) rfl (hb hby d1_34) rfl ((if0 _ _).trans (teq hc45).1) (by decide) (by decide) ?_
            show Steps p.tables e below (T40.setTop (mkF m 49 #[.val (.ref a1_0), .val (.int p1_1), .val (.int p1_2), .val (.int p1_3), .val (.int p1_4), .val (.int p1_5)] [])) t
            refine XS.iconst X40.here hx rfl (hb hby d1_49) ?_
            show Steps p.tables e below (T40.setTop (mkF m 50 #[.val (.ref a1_0), .val (.int p1_1), .val (.int p1_2), .val (.int p1_3), .val (.int p1_4), .val (.int p1_5)] [(.int (0 : Int32))])) t
            exact k
          rw [show own_F1 p1_1 p1_2 p1_3 p1_4 p1_5 w_deepArrivals_a1_0 w_constantArrivals_a1_0 = (0 : Int32) from ((if_pos hc1).trans ((if_pos hc22).trans ((if_neg hc41).trans ((if_pos hc45).trans rfl))))]
          exact own_retN X40 hx (t := .boolean) Bd.returns (by simp) (hb hby d1_50) hlk (by decide) (by decide) ⟨rfl, N0, e40⟩
        · skip
          refine own_by (T' := T40) (g' := (mkF m 39 #[.val (.ref a1_0), .val (.int p1_1), .val (.int p1_2), .val (.int p1_3), .val (.int p1_4), .val (.int p1_5)] [(.ref a1_0), (.int p1_3)])) (fun t k => ?_) ?_
          · show Steps p.tables e below (T40.setTop (mkF m 34 #[.val (.ref a1_0), .val (.int p1_1), .val (.int p1_2), .val (.int p1_3), .val (.int p1_4), .val (.int p1_5)] [(.int p1_5)])) t
            refine XS.ifNo X40.here hx rfl (hb hby d1_34) rfl ((if0 _ _).trans (feq hc45).1) ?_
            show Steps p.tables e below (T40.setTop (mkF m 37 #[.val (.ref a1_0), .val (.int p1_1), .val (.int p1_2), .val (.int p1_3), .val (.int p1_4), .val (.int p1_5)] [])) t
            refine XS.iloadN X40.here hx rfl (hb hby d1_37) rfl ?_
            show Steps p.tables e below (T40.setTop (mkF m 38 #[.val (.ref a1_0), .val (.int p1_1), .val (.int p1_2), .val (.int p1_3), .val (.int p1_4), .val (.int p1_5)] [(.int p1_3)])) t
            refine XS.aloadN X40.here hx rfl (hb hby d1_38) rfl rfl ?_
            show Steps p.tables e below (T40.setTop (mkF m 39 #[.val (.ref a1_0), .val (.int p1_1), .val (.int p1_2), .val (.int p1_3), .val (.int p1_4), .val (.int p1_5)] [(.ref a1_0), (.int p1_3)])) t
            exact k
          obtain ⟨T48, X48, e48, st48⟩ := getF X40 hx hZ hown (host := "") (Or.inl (hw _ (List.mem_of_getElem? (i := 11) rfl))) Via.refl e40 F_constantArrivals_a1_0 (g := (mkF m 39 #[.val (.ref a1_0), .val (.int p1_1), .val (.int p1_2), .val (.int p1_3), .val (.int p1_4), .val (.int p1_5)] [(.ref a1_0), (.int p1_3)])) rfl rfl (hb hby d1_39)
          refine own_by (T' := T48) (g' := (mkF m 42 #[.val (.ref a1_0), .val (.int p1_1), .val (.int p1_2), .val (.int p1_3), .val (.int p1_4), .val (.int p1_5)] [(.int w_constantArrivals_a1_0), (.int p1_3)])) st48 ?_
          by_cases hc49 : p1_3 < w_constantArrivals_a1_0
          · skip
            refine own_by (T' := T48) (g' := (mkF m 50 #[.val (.ref a1_0), .val (.int p1_1), .val (.int p1_2), .val (.int p1_3), .val (.int p1_4), .val (.int p1_5)] [(.int (1 : Int32))])) (fun t k => ?_) ?_
            · show Steps p.tables e below (T48.setTop (mkF m 42 #[.val (.ref a1_0), .val (.int p1_1), .val (.int p1_2), .val (.int p1_3), .val (.int p1_4), .val (.int p1_5)] [(.int w_constantArrivals_a1_0), (.int p1_3)])) t
              refine XS.icmpNo X48.here hx rfl (hb hby d1_42) rfl (tlt hc49).2.1 ?_
              show Steps p.tables e below (T48.setTop (mkF m 45 #[.val (.ref a1_0), .val (.int p1_1), .val (.int p1_2), .val (.int p1_3), .val (.int p1_4), .val (.int p1_5)] [])) t
              refine XS.iconst X48.here hx rfl (hb hby d1_45) ?_
              show Steps p.tables e below (T48.setTop (mkF m 46 #[.val (.ref a1_0), .val (.int p1_1), .val (.int p1_2), .val (.int p1_3), .val (.int p1_4), .val (.int p1_5)] [(.int (1 : Int32))])) t
              refine XS.goto X48.here hx rfl (pc0 := 46) (pc' := 50) rfl (hb hby d1_46) (by decide) (by decide) ?_
              show Steps p.tables e below (T48.setTop (mkF m 50 #[.val (.ref a1_0), .val (.int p1_1), .val (.int p1_2), .val (.int p1_3), .val (.int p1_4), .val (.int p1_5)] [(.int (1 : Int32))])) t
              exact k
            rw [show own_F1 p1_1 p1_2 p1_3 p1_4 p1_5 w_deepArrivals_a1_0 w_constantArrivals_a1_0 = (1 : Int32) from ((if_pos hc1).trans ((if_pos hc22).trans ((if_neg hc41).trans ((if_neg hc45).trans ((if_pos hc49).trans rfl)))))]
            exact own_retN X48 hx (t := .boolean) Bd.returns (by simp) (hb hby d1_50) hlk (by decide) (by decide) ⟨rfl, N0, e48⟩
          · skip
            refine own_by (T' := T48) (g' := (mkF m 50 #[.val (.ref a1_0), .val (.int p1_1), .val (.int p1_2), .val (.int p1_3), .val (.int p1_4), .val (.int p1_5)] [(.int (0 : Int32))])) (fun t k => ?_) ?_
            · show Steps p.tables e below (T48.setTop (mkF m 42 #[.val (.ref a1_0), .val (.int p1_1), .val (.int p1_2), .val (.int p1_3), .val (.int p1_4), .val (.int p1_5)] [(.int w_constantArrivals_a1_0), (.int p1_3)])) t
              refine XS.icmpYes X48.here hx rfl (pc0 := 42) (pc' := 49) rfl (hb hby d1_42) rfl (flt hc49).2.1 (by decide) (by decide) ?_
              show Steps p.tables e below (T48.setTop (mkF m 49 #[.val (.ref a1_0), .val (.int p1_1), .val (.int p1_2), .val (.int p1_3), .val (.int p1_4), .val (.int p1_5)] [])) t
              refine XS.iconst X48.here hx rfl (hb hby d1_49) ?_
              show Steps p.tables e below (T48.setTop (mkF m 50 #[.val (.ref a1_0), .val (.int p1_1), .val (.int p1_2), .val (.int p1_3), .val (.int p1_4), .val (.int p1_5)] [(.int (0 : Int32))])) t
              exact k
            rw [show own_F1 p1_1 p1_2 p1_3 p1_4 p1_5 w_deepArrivals_a1_0 w_constantArrivals_a1_0 = (0 : Int32) from ((if_pos hc1).trans ((if_pos hc22).trans ((if_neg hc41).trans ((if_neg hc45).trans ((if_neg hc49).trans rfl)))))]
            exact own_retN X48 hx (t := .boolean) Bd.returns (by simp) (hb hby d1_50) hlk (by decide) (by decide) ⟨rfl, N0, e48⟩
    · skip
      refine own_by (T' := T21) (g' := (mkF m 15 #[.val (.ref a1_0), .val (.int p1_1), .val (.int p1_2), .val (.int p1_3), .val (.int p1_4), .val (.int p1_5)] [(.int p1_4)])) (fun t k => ?_) ?_
      · show Steps p.tables e below (T21.setTop (mkF m 10 #[.val (.ref a1_0), .val (.int p1_1), .val (.int p1_2), .val (.int p1_3), .val (.int p1_4), .val (.int p1_5)] [(.int w_deepArrivals_a1_0), (.int p1_2)])) t
        refine XS.icmpNo X21.here hx rfl (hb hby d1_10) rfl (flt hc22).2.2.1 ?_
        show Steps p.tables e below (T21.setTop (mkF m 13 #[.val (.ref a1_0), .val (.int p1_1), .val (.int p1_2), .val (.int p1_3), .val (.int p1_4), .val (.int p1_5)] [])) t
        refine XS.iload X21.here hx rfl (hb hby d1_13) rfl ?_
        show Steps p.tables e below (T21.setTop (mkF m 15 #[.val (.ref a1_0), .val (.int p1_1), .val (.int p1_2), .val (.int p1_3), .val (.int p1_4), .val (.int p1_5)] [(.int p1_4)])) t
        exact k
      by_cases hc50 : p1_4 = (0 : Int32)
      · skip
        refine own_by (T' := T21) (g' := (mkF m 26 #[.val (.ref a1_0), .val (.int p1_1), .val (.int p1_2), .val (.int p1_3), .val (.int p1_4), .val (.int p1_5)] [(.ref a1_0), (.int p1_2)])) (fun t k => ?_) ?_
        · show Steps p.tables e below (T21.setTop (mkF m 15 #[.val (.ref a1_0), .val (.int p1_1), .val (.int p1_2), .val (.int p1_3), .val (.int p1_4), .val (.int p1_5)] [(.int p1_4)])) t
          refine XS.ifYes X21.here hx rfl (pc0 := 15) (pc' := 24) rfl (hb hby d1_15) rfl ((if0 _ _).trans (teq hc50).1) (by decide) (by decide) ?_
          show Steps p.tables e below (T21.setTop (mkF m 24 #[.val (.ref a1_0), .val (.int p1_1), .val (.int p1_2), .val (.int p1_3), .val (.int p1_4), .val (.int p1_5)] [])) t
          refine XS.iloadN X21.here hx rfl (hb hby d1_24) rfl ?_
          show Steps p.tables e below (T21.setTop (mkF m 25 #[.val (.ref a1_0), .val (.int p1_1), .val (.int p1_2), .val (.int p1_3), .val (.int p1_4), .val (.int p1_5)] [(.int p1_2)])) t
          refine XS.aloadN X21.here hx rfl (hb hby d1_25) rfl rfl ?_
          show Steps p.tables e below (T21.setTop (mkF m 26 #[.val (.ref a1_0), .val (.int p1_1), .val (.int p1_2), .val (.int p1_3), .val (.int p1_4), .val (.int p1_5)] [(.ref a1_0), (.int p1_2)])) t
          exact k
        obtain ⟨T62, X62, e62, st62⟩ := getF X21 hx hZ hown (host := "") (Or.inl (hw _ (List.mem_of_getElem? (i := 11) rfl))) Via.refl e21 F_constantArrivals_a1_0 (g := (mkF m 26 #[.val (.ref a1_0), .val (.int p1_1), .val (.int p1_2), .val (.int p1_3), .val (.int p1_4), .val (.int p1_5)] [(.ref a1_0), (.int p1_2)])) rfl rfl (hb hby d1_26)
        refine own_by (T' := T62) (g' := (mkF m 29 #[.val (.ref a1_0), .val (.int p1_1), .val (.int p1_2), .val (.int p1_3), .val (.int p1_4), .val (.int p1_5)] [(.int w_constantArrivals_a1_0), (.int p1_2)])) st62 ?_
        by_cases hc63 : w_constantArrivals_a1_0 < p1_2
        · skip
          refine own_by (T' := T62) (g' := (mkF m 50 #[.val (.ref a1_0), .val (.int p1_1), .val (.int p1_2), .val (.int p1_3), .val (.int p1_4), .val (.int p1_5)] [(.int (0 : Int32))])) (fun t k => ?_) ?_
          · show Steps p.tables e below (T62.setTop (mkF m 29 #[.val (.ref a1_0), .val (.int p1_1), .val (.int p1_2), .val (.int p1_3), .val (.int p1_4), .val (.int p1_5)] [(.int w_constantArrivals_a1_0), (.int p1_2)])) t
            refine XS.icmpYes X62.here hx rfl (pc0 := 29) (pc' := 49) rfl (hb hby d1_29) rfl (tlt hc63).2.2.1 (by decide) (by decide) ?_
            show Steps p.tables e below (T62.setTop (mkF m 49 #[.val (.ref a1_0), .val (.int p1_1), .val (.int p1_2), .val (.int p1_3), .val (.int p1_4), .val (.int p1_5)] [])) t
            refine XS.iconst X62.here hx rfl (hb hby d1_49) ?_
            show Steps p.tables e below (T62.setTop (mkF m 50 #[.val (.ref a1_0), .val (.int p1_1), .val (.int p1_2), .val (.int p1_3), .val (.int p1_4), .val (.int p1_5)] [(.int (0 : Int32))])) t
            exact k
          rw [show own_F1 p1_1 p1_2 p1_3 p1_4 p1_5 w_deepArrivals_a1_0 w_constantArrivals_a1_0 = (0 : Int32) from ((if_pos hc1).trans ((if_neg hc22).trans ((if_pos hc50).trans ((if_pos hc63).trans rfl))))]
          exact own_retN X62 hx (t := .boolean) Bd.returns (by simp) (hb hby d1_50) hlk (by decide) (by decide) ⟨rfl, N0, e62⟩
        · skip
          refine own_by (T' := T62) (g' := (mkF m 34 #[.val (.ref a1_0), .val (.int p1_1), .val (.int p1_2), .val (.int p1_3), .val (.int p1_4), .val (.int p1_5)] [(.int p1_5)])) (fun t k => ?_) ?_
          · show Steps p.tables e below (T62.setTop (mkF m 29 #[.val (.ref a1_0), .val (.int p1_1), .val (.int p1_2), .val (.int p1_3), .val (.int p1_4), .val (.int p1_5)] [(.int w_constantArrivals_a1_0), (.int p1_2)])) t
            refine XS.icmpNo X62.here hx rfl (hb hby d1_29) rfl (flt hc63).2.2.1 ?_
            show Steps p.tables e below (T62.setTop (mkF m 32 #[.val (.ref a1_0), .val (.int p1_1), .val (.int p1_2), .val (.int p1_3), .val (.int p1_4), .val (.int p1_5)] [])) t
            refine XS.iload X62.here hx rfl (hb hby d1_32) rfl ?_
            show Steps p.tables e below (T62.setTop (mkF m 34 #[.val (.ref a1_0), .val (.int p1_1), .val (.int p1_2), .val (.int p1_3), .val (.int p1_4), .val (.int p1_5)] [(.int p1_5)])) t
            exact k
          by_cases hc67 : p1_5 = (0 : Int32)
          · skip
            refine own_by (T' := T62) (g' := (mkF m 50 #[.val (.ref a1_0), .val (.int p1_1), .val (.int p1_2), .val (.int p1_3), .val (.int p1_4), .val (.int p1_5)] [(.int (0 : Int32))])) (fun t k => ?_) ?_
            · show Steps p.tables e below (T62.setTop (mkF m 34 #[.val (.ref a1_0), .val (.int p1_1), .val (.int p1_2), .val (.int p1_3), .val (.int p1_4), .val (.int p1_5)] [(.int p1_5)])) t
              refine XS.ifYes X62.here hx rfl (pc0 := 34) (pc' := 49) rfl (hb hby d1_34) rfl ((if0 _ _).trans (teq hc67).1) (by decide) (by decide) ?_
              show Steps p.tables e below (T62.setTop (mkF m 49 #[.val (.ref a1_0), .val (.int p1_1), .val (.int p1_2), .val (.int p1_3), .val (.int p1_4), .val (.int p1_5)] [])) t
              refine XS.iconst X62.here hx rfl (hb hby d1_49) ?_
              show Steps p.tables e below (T62.setTop (mkF m 50 #[.val (.ref a1_0), .val (.int p1_1), .val (.int p1_2), .val (.int p1_3), .val (.int p1_4), .val (.int p1_5)] [(.int (0 : Int32))])) t
              exact k
            rw [show own_F1 p1_1 p1_2 p1_3 p1_4 p1_5 w_deepArrivals_a1_0 w_constantArrivals_a1_0 = (0 : Int32) from ((if_pos hc1).trans ((if_neg hc22).trans ((if_pos hc50).trans ((if_neg hc63).trans ((if_pos hc67).trans rfl)))))]
            exact own_retN X62 hx (t := .boolean) Bd.returns (by simp) (hb hby d1_50) hlk (by decide) (by decide) ⟨rfl, N0, e62⟩
          · skip
            refine own_by (T' := T62) (g' := (mkF m 39 #[.val (.ref a1_0), .val (.int p1_1), .val (.int p1_2), .val (.int p1_3), .val (.int p1_4), .val (.int p1_5)] [(.ref a1_0), (.int p1_3)])) (fun t k => ?_) ?_
            · show Steps p.tables e below (T62.setTop (mkF m 34 #[.val (.ref a1_0), .val (.int p1_1), .val (.int p1_2), .val (.int p1_3), .val (.int p1_4), .val (.int p1_5)] [(.int p1_5)])) t
              refine XS.ifNo X62.here hx rfl (hb hby d1_34) rfl ((if0 _ _).trans (feq hc67).1) ?_
              show Steps p.tables e below (T62.setTop (mkF m 37 #[.val (.ref a1_0), .val (.int p1_1), .val (.int p1_2), .val (.int p1_3), .val (.int p1_4), .val (.int p1_5)] [])) t
              refine XS.iloadN X62.here hx rfl (hb hby d1_37) rfl ?_
              show Steps p.tables e below (T62.setTop (mkF m 38 #[.val (.ref a1_0), .val (.int p1_1), .val (.int p1_2), .val (.int p1_3), .val (.int p1_4), .val (.int p1_5)] [(.int p1_3)])) t
              refine XS.aloadN X62.here hx rfl (hb hby d1_38) rfl rfl ?_
              show Steps p.tables e below (T62.setTop (mkF m 39 #[.val (.ref a1_0), .val (.int p1_1), .val (.int p1_2), .val (.int p1_3), .val (.int p1_4), .val (.int p1_5)] [(.ref a1_0), (.int p1_3)])) t
              exact k
            obtain ⟨T70, X70, e70, st70⟩ := getF X62 hx hZ hown (host := "") (Or.inl (hw _ (List.mem_of_getElem? (i := 11) rfl))) Via.refl e62 F_constantArrivals_a1_0 (g := (mkF m 39 #[.val (.ref a1_0), .val (.int p1_1), .val (.int p1_2), .val (.int p1_3), .val (.int p1_4), .val (.int p1_5)] [(.ref a1_0), (.int p1_3)])) rfl rfl (hb hby d1_39)
            refine own_by (T' := T70) (g' := (mkF m 42 #[.val (.ref a1_0), .val (.int p1_1), .val (.int p1_2), .val (.int p1_3), .val (.int p1_4), .val (.int p1_5)] [(.int w_constantArrivals_a1_0), (.int p1_3)])) st70 ?_
            by_cases hc71 : p1_3 < w_constantArrivals_a1_0
            · skip
              refine own_by (T' := T70) (g' := (mkF m 50 #[.val (.ref a1_0), .val (.int p1_1), .val (.int p1_2), .val (.int p1_3), .val (.int p1_4), .val (.int p1_5)] [(.int (1 : Int32))])) (fun t k => ?_) ?_
              · show Steps p.tables e below (T70.setTop (mkF m 42 #[.val (.ref a1_0), .val (.int p1_1), .val (.int p1_2), .val (.int p1_3), .val (.int p1_4), .val (.int p1_5)] [(.int w_constantArrivals_a1_0), (.int p1_3)])) t
                refine XS.icmpNo X70.here hx rfl (hb hby d1_42) rfl (tlt hc71).2.1 ?_
                show Steps p.tables e below (T70.setTop (mkF m 45 #[.val (.ref a1_0), .val (.int p1_1), .val (.int p1_2), .val (.int p1_3), .val (.int p1_4), .val (.int p1_5)] [])) t
                refine XS.iconst X70.here hx rfl (hb hby d1_45) ?_
                show Steps p.tables e below (T70.setTop (mkF m 46 #[.val (.ref a1_0), .val (.int p1_1), .val (.int p1_2), .val (.int p1_3), .val (.int p1_4), .val (.int p1_5)] [(.int (1 : Int32))])) t
                refine XS.goto X70.here hx rfl (pc0 := 46) (pc' := 50) rfl (hb hby d1_46) (by decide) (by decide) ?_
                show Steps p.tables e below (T70.setTop (mkF m 50 #[.val (.ref a1_0), .val (.int p1_1), .val (.int p1_2), .val (.int p1_3), .val (.int p1_4), .val (.int p1_5)] [(.int (1 : Int32))])) t
                exact k
              rw [show own_F1 p1_1 p1_2 p1_3 p1_4 p1_5 w_deepArrivals_a1_0 w_constantArrivals_a1_0 = (1 : Int32) from ((if_pos hc1).trans ((if_neg hc22).trans ((if_pos hc50).trans ((if_neg hc63).trans ((if_neg hc67).trans ((if_pos hc71).trans rfl))))))]
              exact own_retN X70 hx (t := .boolean) Bd.returns (by simp) (hb hby d1_50) hlk (by decide) (by decide) ⟨rfl, N0, e70⟩
            · skip
              refine own_by (T' := T70) (g' := (mkF m 50 #[.val (.ref a1_0), .val (.int p1_1), .val (.int p1_2), .val (.int p1_3), .val (.int p1_4), .val (.int p1_5)] [(.int (0 : Int32))])) (fun t k => ?_) ?_
              · show Steps p.tables e below (T70.setTop (mkF m 42 #[.val (.ref a1_0), .val (.int p1_1), .val (.int p1_2), .val (.int p1_3), .val (.int p1_4), .val (.int p1_5)] [(.int w_constantArrivals_a1_0), (.int p1_3)])) t
                refine XS.icmpYes X70.here hx rfl (pc0 := 42) (pc' := 49) rfl (hb hby d1_42) rfl (flt hc71).2.1 (by decide) (by decide) ?_
                show Steps p.tables e below (T70.setTop (mkF m 49 #[.val (.ref a1_0), .val (.int p1_1), .val (.int p1_2), .val (.int p1_3), .val (.int p1_4), .val (.int p1_5)] [])) t
                refine XS.iconst X70.here hx rfl (hb hby d1_49) ?_
                show Steps p.tables e below (T70.setTop (mkF m 50 #[.val (.ref a1_0), .val (.int p1_1), .val (.int p1_2), .val (.int p1_3), .val (.int p1_4), .val (.int p1_5)] [(.int (0 : Int32))])) t
                exact k
              rw [show own_F1 p1_1 p1_2 p1_3 p1_4 p1_5 w_deepArrivals_a1_0 w_constantArrivals_a1_0 = (0 : Int32) from ((if_pos hc1).trans ((if_neg hc22).trans ((if_pos hc50).trans ((if_neg hc63).trans ((if_neg hc67).trans ((if_neg hc71).trans rfl))))))]
              exact own_retN X70 hx (t := .boolean) Bd.returns (by simp) (hb hby d1_50) hlk (by decide) (by decide) ⟨rfl, N0, e70⟩
      · skip
        refine own_by (T' := T21) (g' := (mkF m 21 #[.val (.ref a1_0), .val (.int p1_1), .val (.int p1_2), .val (.int p1_3), .val (.int p1_4), .val (.int p1_5)] [(.int (64 : Int32)), (.int p1_3)])) (fun t k => ?_) ?_
        · show Steps p.tables e below (T21.setTop (mkF m 15 #[.val (.ref a1_0), .val (.int p1_1), .val (.int p1_2), .val (.int p1_3), .val (.int p1_4), .val (.int p1_5)] [(.int p1_4)])) t
          refine XS.ifNo X21.here hx rfl (hb hby d1_15) rfl ((if0 _ _).trans (feq hc50).1) ?_
          show Steps p.tables e below (T21.setTop (mkF m 18 #[.val (.ref a1_0), .val (.int p1_1), .val (.int p1_2), .val (.int p1_3), .val (.int p1_4), .val (.int p1_5)] [])) t
          refine XS.iloadN X21.here hx rfl (hb hby d1_18) rfl ?_
          show Steps p.tables e below (T21.setTop (mkF m 19 #[.val (.ref a1_0), .val (.int p1_1), .val (.int p1_2), .val (.int p1_3), .val (.int p1_4), .val (.int p1_5)] [(.int p1_3)])) t
          refine XS.bipush X21.here hx rfl (hb hby d1_19) ?_
          show Steps p.tables e below (T21.setTop (mkF m 21 #[.val (.ref a1_0), .val (.int p1_1), .val (.int p1_2), .val (.int p1_3), .val (.int p1_4), .val (.int p1_5)] [(.int (64 : Int32)), (.int p1_3)])) t
          exact k
        by_cases hc72 : p1_3 < (64 : Int32)
        · skip
          refine own_by (T' := T21) (g' := (mkF m 50 #[.val (.ref a1_0), .val (.int p1_1), .val (.int p1_2), .val (.int p1_3), .val (.int p1_4), .val (.int p1_5)] [(.int (1 : Int32))])) (fun t k => ?_) ?_
          · show Steps p.tables e below (T21.setTop (mkF m 21 #[.val (.ref a1_0), .val (.int p1_1), .val (.int p1_2), .val (.int p1_3), .val (.int p1_4), .val (.int p1_5)] [(.int (64 : Int32)), (.int p1_3)])) t
            refine XS.icmpYes X21.here hx rfl (pc0 := 21) (pc' := 45) rfl (hb hby d1_21) rfl (tlt hc72).1 (by decide) (by decide) ?_
            show Steps p.tables e below (T21.setTop (mkF m 45 #[.val (.ref a1_0), .val (.int p1_1), .val (.int p1_2), .val (.int p1_3), .val (.int p1_4), .val (.int p1_5)] [])) t
            refine XS.iconst X21.here hx rfl (hb hby d1_45) ?_
            show Steps p.tables e below (T21.setTop (mkF m 46 #[.val (.ref a1_0), .val (.int p1_1), .val (.int p1_2), .val (.int p1_3), .val (.int p1_4), .val (.int p1_5)] [(.int (1 : Int32))])) t
            refine XS.goto X21.here hx rfl (pc0 := 46) (pc' := 50) rfl (hb hby d1_46) (by decide) (by decide) ?_
            show Steps p.tables e below (T21.setTop (mkF m 50 #[.val (.ref a1_0), .val (.int p1_1), .val (.int p1_2), .val (.int p1_3), .val (.int p1_4), .val (.int p1_5)] [(.int (1 : Int32))])) t
            exact k
          rw [show own_F1 p1_1 p1_2 p1_3 p1_4 p1_5 w_deepArrivals_a1_0 w_constantArrivals_a1_0 = (1 : Int32) from ((if_pos hc1).trans ((if_neg hc22).trans ((if_neg hc50).trans ((if_pos hc72).trans rfl))))]
          exact own_retN X21 hx (t := .boolean) Bd.returns (by simp) (hb hby d1_50) hlk (by decide) (by decide) ⟨rfl, N0, e21⟩
        · skip
          refine own_by (T' := T21) (g' := (mkF m 26 #[.val (.ref a1_0), .val (.int p1_1), .val (.int p1_2), .val (.int p1_3), .val (.int p1_4), .val (.int p1_5)] [(.ref a1_0), (.int p1_2)])) (fun t k => ?_) ?_
          · show Steps p.tables e below (T21.setTop (mkF m 21 #[.val (.ref a1_0), .val (.int p1_1), .val (.int p1_2), .val (.int p1_3), .val (.int p1_4), .val (.int p1_5)] [(.int (64 : Int32)), (.int p1_3)])) t
            refine XS.icmpNo X21.here hx rfl (hb hby d1_21) rfl (flt hc72).1 ?_
            show Steps p.tables e below (T21.setTop (mkF m 24 #[.val (.ref a1_0), .val (.int p1_1), .val (.int p1_2), .val (.int p1_3), .val (.int p1_4), .val (.int p1_5)] [])) t
            refine XS.iloadN X21.here hx rfl (hb hby d1_24) rfl ?_
            show Steps p.tables e below (T21.setTop (mkF m 25 #[.val (.ref a1_0), .val (.int p1_1), .val (.int p1_2), .val (.int p1_3), .val (.int p1_4), .val (.int p1_5)] [(.int p1_2)])) t
            refine XS.aloadN X21.here hx rfl (hb hby d1_25) rfl rfl ?_
            show Steps p.tables e below (T21.setTop (mkF m 26 #[.val (.ref a1_0), .val (.int p1_1), .val (.int p1_2), .val (.int p1_3), .val (.int p1_4), .val (.int p1_5)] [(.ref a1_0), (.int p1_2)])) t
            exact k
          obtain ⟨T78, X78, e78, st78⟩ := getF X21 hx hZ hown (host := "") (Or.inl (hw _ (List.mem_of_getElem? (i := 11) rfl))) Via.refl e21 F_constantArrivals_a1_0 (g := (mkF m 26 #[.val (.ref a1_0), .val (.int p1_1), .val (.int p1_2), .val (.int p1_3), .val (.int p1_4), .val (.int p1_5)] [(.ref a1_0), (.int p1_2)])) rfl rfl (hb hby d1_26)
          refine own_by (T' := T78) (g' := (mkF m 29 #[.val (.ref a1_0), .val (.int p1_1), .val (.int p1_2), .val (.int p1_3), .val (.int p1_4), .val (.int p1_5)] [(.int w_constantArrivals_a1_0), (.int p1_2)])) st78 ?_
          by_cases hc79 : w_constantArrivals_a1_0 < p1_2
          · skip
            refine own_by (T' := T78) (g' := (mkF m 50 #[.val (.ref a1_0), .val (.int p1_1), .val (.int p1_2), .val (.int p1_3), .val (.int p1_4), .val (.int p1_5)] [(.int (0 : Int32))])) (fun t k => ?_) ?_
            · show Steps p.tables e below (T78.setTop (mkF m 29 #[.val (.ref a1_0), .val (.int p1_1), .val (.int p1_2), .val (.int p1_3), .val (.int p1_4), .val (.int p1_5)] [(.int w_constantArrivals_a1_0), (.int p1_2)])) t
              refine XS.icmpYes X78.here hx rfl (pc0 := 29) (pc' := 49) rfl (hb hby d1_29) rfl (tlt hc79).2.2.1 (by decide) (by decide) ?_
              show Steps p.tables e below (T78.setTop (mkF m 49 #[.val (.ref a1_0), .val (.int p1_1), .val (.int p1_2), .val (.int p1_3), .val (.int p1_4), .val (.int p1_5)] [])) t
              refine XS.iconst X78.here hx rfl (hb hby d1_49) ?_
              show Steps p.tables e below (T78.setTop (mkF m 50 #[.val (.ref a1_0), .val (.int p1_1), .val (.int p1_2), .val (.int p1_3), .val (.int p1_4), .val (.int p1_5)] [(.int (0 : Int32))])) t
              exact k
            rw [show own_F1 p1_1 p1_2 p1_3 p1_4 p1_5 w_deepArrivals_a1_0 w_constantArrivals_a1_0 = (0 : Int32) from ((if_pos hc1).trans ((if_neg hc22).trans ((if_neg hc50).trans ((if_neg hc72).trans ((if_pos hc79).trans rfl)))))]
            exact own_retN X78 hx (t := .boolean) Bd.returns (by simp) (hb hby d1_50) hlk (by decide) (by decide) ⟨rfl, N0, e78⟩
          · skip
            refine own_by (T' := T78) (g' := (mkF m 34 #[.val (.ref a1_0), .val (.int p1_1), .val (.int p1_2), .val (.int p1_3), .val (.int p1_4), .val (.int p1_5)] [(.int p1_5)])) (fun t k => ?_) ?_
            · show Steps p.tables e below (T78.setTop (mkF m 29 #[.val (.ref a1_0), .val (.int p1_1), .val (.int p1_2), .val (.int p1_3), .val (.int p1_4), .val (.int p1_5)] [(.int w_constantArrivals_a1_0), (.int p1_2)])) t
              refine XS.icmpNo X78.here hx rfl (hb hby d1_29) rfl (flt hc79).2.2.1 ?_
              show Steps p.tables e below (T78.setTop (mkF m 32 #[.val (.ref a1_0), .val (.int p1_1), .val (.int p1_2), .val (.int p1_3), .val (.int p1_4), .val (.int p1_5)] [])) t
              refine XS.iload X78.here hx rfl (hb hby d1_32) rfl ?_
              show Steps p.tables e below (T78.setTop (mkF m 34 #[.val (.ref a1_0), .val (.int p1_1), .val (.int p1_2), .val (.int p1_3), .val (.int p1_4), .val (.int p1_5)] [(.int p1_5)])) t
              exact k
            by_cases hc83 : p1_5 = (0 : Int32)
            · skip
              refine own_by (T' := T78) (g' := (mkF m 50 #[.val (.ref a1_0), .val (.int p1_1), .val (.int p1_2), .val (.int p1_3), .val (.int p1_4), .val (.int p1_5)] [(.int (0 : Int32))])) (fun t k => ?_) ?_
              · show Steps p.tables e below (T78.setTop (mkF m 34 #[.val (.ref a1_0), .val (.int p1_1), .val (.int p1_2), .val (.int p1_3), .val (.int p1_4), .val (.int p1_5)] [(.int p1_5)])) t
                refine XS.ifYes X78.here hx rfl (pc0 := 34) (pc' := 49) rfl (hb hby d1_34) rfl ((if0 _ _).trans (teq hc83).1) (by decide) (by decide) ?_
                show Steps p.tables e below (T78.setTop (mkF m 49 #[.val (.ref a1_0), .val (.int p1_1), .val (.int p1_2), .val (.int p1_3), .val (.int p1_4), .val (.int p1_5)] [])) t
                refine XS.iconst X78.here hx rfl (hb hby d1_49) ?_
                show Steps p.tables e below (T78.setTop (mkF m 50 #[.val (.ref a1_0), .val (.int p1_1), .val (.int p1_2), .val (.int p1_3), .val (.int p1_4), .val (.int p1_5)] [(.int (0 : Int32))])) t
                exact k
              rw [show own_F1 p1_1 p1_2 p1_3 p1_4 p1_5 w_deepArrivals_a1_0 w_constantArrivals_a1_0 = (0 : Int32) from ((if_pos hc1).trans ((if_neg hc22).trans ((if_neg hc50).trans ((if_neg hc72).trans ((if_neg hc79).trans ((if_pos hc83).trans rfl))))))]
              exact own_retN X78 hx (t := .boolean) Bd.returns (by simp) (hb hby d1_50) hlk (by decide) (by decide) ⟨rfl, N0, e78⟩
            · skip
              refine own_by (T' := T78) (g' := (mkF m 39 #[.val (.ref a1_0), .val (.int p1_1), .val (.int p1_2), .val (.int p1_3), .val (.int p1_4), .val (.int p1_5)] [(.ref a1_0), (.int p1_3)])) (fun t k => ?_) ?_
              · show Steps p.tables e below (T78.setTop (mkF m 34 #[.val (.ref a1_0), .val (.int p1_1), .val (.int p1_2), .val (.int p1_3), .val (.int p1_4), .val (.int p1_5)] [(.int p1_5)])) t
                refine XS.ifNo X78.here hx rfl (hb hby d1_34) rfl ((if0 _ _).trans (feq hc83).1) ?_
                show Steps p.tables e below (T78.setTop (mkF m 37 #[.val (.ref a1_0), .val (.int p1_1), .val (.int p1_2), .val (.int p1_3), .val (.int p1_4), .val (.int p1_5)] [])) t
                refine XS.iloadN X78.here hx rfl (hb hby d1_37) rfl ?_
                show Steps p.tables e below (T78.setTop (mkF m 38 #[.val (.ref a1_0), .val (.int p1_1), .val (.int p1_2), .val (.int p1_3), .val (.int p1_4), .val (.int p1_5)] [(.int p1_3)])) t
                refine XS.aloadN X78.here hx rfl (hb hby d1_38) rfl rfl ?_
                show Steps p.tables e below (T78.setTop (mkF m 39 #[.val (.ref a1_0), .val (.int p1_1), .val (.int p1_2), .val (.int p1_3), .val (.int p1_4), .val (.int p1_5)] [(.ref a1_0), (.int p1_3)])) t
                exact k
              obtain ⟨T86, X86, e86, st86⟩ := getF X78 hx hZ hown (host := "") (Or.inl (hw _ (List.mem_of_getElem? (i := 11) rfl))) Via.refl e78 F_constantArrivals_a1_0 (g := (mkF m 39 #[.val (.ref a1_0), .val (.int p1_1), .val (.int p1_2), .val (.int p1_3), .val (.int p1_4), .val (.int p1_5)] [(.ref a1_0), (.int p1_3)])) rfl rfl (hb hby d1_39)
              refine own_by (T' := T86) (g' := (mkF m 42 #[.val (.ref a1_0), .val (.int p1_1), .val (.int p1_2), .val (.int p1_3), .val (.int p1_4), .val (.int p1_5)] [(.int w_constantArrivals_a1_0), (.int p1_3)])) st86 ?_
              by_cases hc87 : p1_3 < w_constantArrivals_a1_0
              · skip
                refine own_by (T' := T86) (g' := (mkF m 50 #[.val (.ref a1_0), .val (.int p1_1), .val (.int p1_2), .val (.int p1_3), .val (.int p1_4), .val (.int p1_5)] [(.int (1 : Int32))])) (fun t k => ?_) ?_
                · show Steps p.tables e below (T86.setTop (mkF m 42 #[.val (.ref a1_0), .val (.int p1_1), .val (.int p1_2), .val (.int p1_3), .val (.int p1_4), .val (.int p1_5)] [(.int w_constantArrivals_a1_0), (.int p1_3)])) t
                  refine XS.icmpNo X86.here hx rfl (hb hby d1_42) rfl (tlt hc87).2.1 ?_
                  show Steps p.tables e below (T86.setTop (mkF m 45 #[.val (.ref a1_0), .val (.int p1_1), .val (.int p1_2), .val (.int p1_3), .val (.int p1_4), .val (.int p1_5)] [])) t
                  refine XS.iconst X86.here hx rfl (hb hby d1_45) ?_
                  show Steps p.tables e below (T86.setTop (mkF m 46 #[.val (.ref a1_0), .val (.int p1_1), .val (.int p1_2), .val (.int p1_3), .val (.int p1_4), .val (.int p1_5)] [(.int (1 : Int32))])) t
                  refine XS.goto X86.here hx rfl (pc0 := 46) (pc' := 50) rfl (hb hby d1_46) (by decide) (by decide) ?_
                  show Steps p.tables e below (T86.setTop (mkF m 50 #[.val (.ref a1_0), .val (.int p1_1), .val (.int p1_2), .val (.int p1_3), .val (.int p1_4), .val (.int p1_5)] [(.int (1 : Int32))])) t
                  exact k
                rw [show own_F1 p1_1 p1_2 p1_3 p1_4 p1_5 w_deepArrivals_a1_0 w_constantArrivals_a1_0 = (1 : Int32) from ((if_pos hc1).trans ((if_neg hc22).trans ((if_neg hc50).trans ((if_neg hc72).trans ((if_neg hc79).trans ((if_neg hc83).trans ((if_pos hc87).trans rfl)))))))]
                exact own_retN X86 hx (t := .boolean) Bd.returns (by simp) (hb hby d1_50) hlk (by decide) (by decide) ⟨rfl, N0, e86⟩
              · skip
                refine own_by (T' := T86) (g' := (mkF m 50 #[.val (.ref a1_0), .val (.int p1_1), .val (.int p1_2), .val (.int p1_3), .val (.int p1_4), .val (.int p1_5)] [(.int (0 : Int32))])) (fun t k => ?_) ?_
                · show Steps p.tables e below (T86.setTop (mkF m 42 #[.val (.ref a1_0), .val (.int p1_1), .val (.int p1_2), .val (.int p1_3), .val (.int p1_4), .val (.int p1_5)] [(.int w_constantArrivals_a1_0), (.int p1_3)])) t
                  refine XS.icmpYes X86.here hx rfl (pc0 := 42) (pc' := 49) rfl (hb hby d1_42) rfl (flt hc87).2.1 (by decide) (by decide) ?_
                  show Steps p.tables e below (T86.setTop (mkF m 49 #[.val (.ref a1_0), .val (.int p1_1), .val (.int p1_2), .val (.int p1_3), .val (.int p1_4), .val (.int p1_5)] [])) t
                  refine XS.iconst X86.here hx rfl (hb hby d1_49) ?_
                  show Steps p.tables e below (T86.setTop (mkF m 50 #[.val (.ref a1_0), .val (.int p1_1), .val (.int p1_2), .val (.int p1_3), .val (.int p1_4), .val (.int p1_5)] [(.int (0 : Int32))])) t
                  exact k
                rw [show own_F1 p1_1 p1_2 p1_3 p1_4 p1_5 w_deepArrivals_a1_0 w_constantArrivals_a1_0 = (0 : Int32) from ((if_pos hc1).trans ((if_neg hc22).trans ((if_neg hc50).trans ((if_neg hc72).trans ((if_neg hc79).trans ((if_neg hc83).trans ((if_neg hc87).trans rfl)))))))]
                exact own_retN X86 hx (t := .boolean) Bd.returns (by simp) (hb hby d1_50) hlk (by decide) (by decide) ⟨rfl, N0, e86⟩
  · skip
    refine own_by (T' := s₁) (g' := (mkF m 50 #[.val (.ref a1_0), .val (.int p1_1), .val (.int p1_2), .val (.int p1_3), .val (.int p1_4), .val (.int p1_5)] [(.int (1 : Int32))])) (fun t k => ?_) ?_
    · show Steps p.tables e below (s₁.setTop (mkF m 2 #[.val (.ref a1_0), .val (.int p1_1), .val (.int p1_2), .val (.int p1_3), .val (.int p1_4), .val (.int p1_5)] [(.int (2 : Int32)), (.int p1_1)])) t
      refine XS.icmpYes X0.here hx rfl (pc0 := 2) (pc' := 45) rfl (hb hby d1_2) rfl (flt hc1).2.2.2 (by decide) (by decide) ?_
      show Steps p.tables e below (s₁.setTop (mkF m 45 #[.val (.ref a1_0), .val (.int p1_1), .val (.int p1_2), .val (.int p1_3), .val (.int p1_4), .val (.int p1_5)] [])) t
      refine XS.iconst X0.here hx rfl (hb hby d1_45) ?_
      show Steps p.tables e below (s₁.setTop (mkF m 46 #[.val (.ref a1_0), .val (.int p1_1), .val (.int p1_2), .val (.int p1_3), .val (.int p1_4), .val (.int p1_5)] [(.int (1 : Int32))])) t
      refine XS.goto X0.here hx rfl (pc0 := 46) (pc' := 50) rfl (hb hby d1_46) (by decide) (by decide) ?_
      show Steps p.tables e below (s₁.setTop (mkF m 50 #[.val (.ref a1_0), .val (.int p1_1), .val (.int p1_2), .val (.int p1_3), .val (.int p1_4), .val (.int p1_5)] [(.int (1 : Int32))])) t
      exact k
    rw [show own_F1 p1_1 p1_2 p1_3 p1_4 p1_5 w_deepArrivals_a1_0 w_constantArrivals_a1_0 = (1 : Int32) from ((if_neg hc1).trans rfl)]
    exact own_retN X0 hx (t := .boolean) Bd.returns (by simp) (hb hby d1_50) hlk (by decide) (by decide) ⟨rfl, N0, e0⟩
theorem d2_0 : decode method_3_code 0 = .ok (.iload_n 1, 1) := by decide +kernel
theorem d2_1 : decode method_3_code 1 = .ok (.iconst 2, 1) := by decide +kernel
theorem d2_2 : decode method_3_code 2 = .ok (.if_icmp .gt 5, 3) := by decide +kernel
theorem d2_7 : decode method_3_code 7 = .ok (.iload_n 0, 1) := by decide +kernel
theorem d2_8 : decode method_3_code 8 = .ok (.iconst 2, 1) := by decide +kernel
theorem d2_9 : decode method_3_code 9 = .ok (.if_icmp .ne 15, 3) := by decide +kernel
theorem d2_12 : decode method_3_code 12 = .ok (.bipush 33, 2) := by decide +kernel
theorem d2_14 : decode method_3_code 14 = .ok (.istore 6, 2) := by decide +kernel
theorem d2_16 : decode method_3_code 16 = .ok (.sipush 256, 3) := by decide +kernel
theorem d2_19 : decode method_3_code 19 = .ok (.istore 7, 2) := by decide +kernel
theorem d2_21 : decode method_3_code 21 = .ok (.goto 9, 3) := by decide +kernel
theorem d2_24 : decode method_3_code 24 = .ok (.iconst 0, 1) := by decide +kernel
theorem d2_25 : decode method_3_code 25 = .ok (.istore 6, 2) := by decide +kernel
theorem d2_27 : decode method_3_code 27 = .ok (.iconst 0, 1) := by decide +kernel
theorem d2_28 : decode method_3_code 28 = .ok (.istore 7, 2) := by decide +kernel
theorem d2_30 : decode method_3_code 30 = .ok (.iload 4, 2) := by decide +kernel
theorem d2_32 : decode method_3_code 32 = .ok (.ifCond .eq 17, 3) := by decide +kernel
theorem d2_49 : decode method_3_code 49 = .ok (.iload 5, 2) := by decide +kernel
theorem d2_51 : decode method_3_code 51 = .ok (.ifCond .eq 17, 3) := by decide +kernel
theorem d2_68 : decode method_3_code 68 = .ok (.iconst 0, 1) := by decide +kernel
theorem d2_69 : decode method_3_code 69 = .ok (.ireturn, 1) := by decide +kernel
theorem d2_54 : decode method_3_code 54 = .ok (.iload_n 3, 1) := by decide +kernel
theorem d2_55 : decode method_3_code 55 = .ok (.iload 7, 2) := by decide +kernel
theorem d2_57 : decode method_3_code 57 = .ok (.if_icmp .ge 11, 3) := by decide +kernel
theorem d2_60 : decode method_3_code 60 = .ok (.iload_n 2, 1) := by decide +kernel
theorem d2_61 : decode method_3_code 61 = .ok (.iload 7, 2) := by decide +kernel
theorem d2_63 : decode method_3_code 63 = .ok (.if_icmp .gt 5, 3) := by decide +kernel
theorem d2_66 : decode method_3_code 66 = .ok (.iconst 1, 1) := by decide +kernel
theorem d2_67 : decode method_3_code 67 = .ok (.ireturn, 1) := by decide +kernel
theorem d2_35 : decode method_3_code 35 = .ok (.iload_n 3, 1) := by decide +kernel
theorem d2_36 : decode method_3_code 36 = .ok (.bipush 64, 2) := by decide +kernel
theorem d2_38 : decode method_3_code 38 = .ok (.if_icmp .ge 11, 3) := by decide +kernel
theorem d2_41 : decode method_3_code 41 = .ok (.iload_n 2, 1) := by decide +kernel
theorem d2_42 : decode method_3_code 42 = .ok (.iload 6, 2) := by decide +kernel
theorem d2_44 : decode method_3_code 44 = .ok (.if_icmp .gt 5, 3) := by decide +kernel
theorem d2_47 : decode method_3_code 47 = .ok (.iconst 1, 1) := by decide +kernel
theorem d2_48 : decode method_3_code 48 = .ok (.ireturn, 1) := by decide +kernel
theorem d2_5 : decode method_3_code 5 = .ok (.iconst 1, 1) := by decide +kernel
theorem d2_6 : decode method_3_code 6 = .ok (.ireturn, 1) := by decide +kernel
theorem pn_com_example_rundown_rundown_symbolic_PrecisionIsExactPinLaw : plainName "com/example/rundown/rundown/symbolic/PrecisionIsExactPinLaw" = true := by first | (simp [plainName, overriddenIn]; done) | decide +kernel
def own_F2_30_1 (p2_0 : Int32) (p2_1 : Int32) (p2_2 : Int32) (p2_3 : Int32) (p2_4 : Int32) (p2_5 : Int32) (i90 : Int32) (i91 : Int32) : Int32 := (if p2_4 = (0 : Int32) then (if p2_5 = (0 : Int32) then (0 : Int32) else (if p2_3 < i91 then (if i91 < p2_2 then (0 : Int32) else (1 : Int32)) else (0 : Int32))) else (if p2_3 < (64 : Int32) then (if i90 < p2_2 then (if p2_5 = (0 : Int32) then (0 : Int32) else (if p2_3 < i91 then (if i91 < p2_2 then (0 : Int32) else (1 : Int32)) else (0 : Int32))) else (1 : Int32)) else (if p2_5 = (0 : Int32) then (0 : Int32) else (if p2_3 < i91 then (if i91 < p2_2 then (0 : Int32) else (1 : Int32)) else (0 : Int32)))))
def own_F2 (p2_0 : Int32) (p2_1 : Int32) (p2_2 : Int32) (p2_3 : Int32) (p2_4 : Int32) (p2_5 : Int32) : Int32 := (if (2 : Int32) < p2_1 then (if p2_0 = (2 : Int32) then (own_F2_30_1 p2_0 p2_1 p2_2 p2_3 p2_4 p2_5 (33 : Int32) (256 : Int32)) else (own_F2_30_1 p2_0 p2_1 p2_2 p2_3 p2_4 p2_5 (0 : Int32) (0 : Int32))) else (1 : Int32))
theorem own_ef2 (m : MethodId) (x0 : Int32) (x1 : Int32) (x2 : Int32) (x3 : Int32) (x4 : Int32) (x5 : Int32) : entryFrame m #[(.int x0), (.int x1), (.int x2), (.int x3), (.int x4), (.int x5)] 8 = mkF m 0 #[.val (.int x0), .val (.int x1), .val (.int x2), .val (.int x3), .val (.int x4), .val (.int x5), .unset, .unset] [] := by first | (simp [entryFrame, mkF, argsToLocals, Value.category]; done) | rfl
def own_Q2 (r : Int32) (h0 : Heap) (n0 : Nat) (v : Option Value) (h : Heap) (L : List Loc) : Prop := v = some (.int r) ∧ Fr n0 L ∧ h = h0
set_option maxRecDepth 65536 in
set_option maxHeartbeats 40000000 in
theorem own_rm2 (l : Launch) (Z : State) (a0 : Array Value) (hw : ∀ d ∈ tables_1, d.before a0 Z = true) (ws : List Jvm.Cond) (p2_0 : Int32) (p2_1 : Int32) (p2_2 : Int32) (p2_3 : Int32) (p2_4 : Int32) (p2_5 : Int32) (h0 : Heap) (n0 : Nat) (Z0 : n0 ≤ h0.size) :
    MetFree l (⟨"com/example/rundown/rundown/symbolic/PrecisionIsExactPinLaw", "expected", "(IIIIZZ)Z"⟩ : MethodName) (head1 (Jvm.Cond.code (⟨"com/example/rundown/rundown/symbolic/PrecisionIsExactPinLaw", "expected", "(IIIIZZ)Z"⟩ : MethodName) method_3_code 8 (some .boolean) :: ws) ({ frames := 0, cells := 0, slots := 0, locals := 0 } : Room)) (fun a U => a = #[(.int p2_0), (.int p2_1), (.int p2_2), (.int p2_3), (.int p2_4), (.int p2_5)] ∧ Z.Warmed39 U.vm ∧ U.heap = h0) (fun _ _ _ _ _ => True) (fun _ U o U' => ∃ v L, o = .returned v ∧ own_Q2 (own_F2 p2_0 p2_1 p2_2 p2_3 p2_4 p2_5) h0 n0 v U'.heap L ∧ FrameEnd U o U' L ({ frames := 0, cells := 0, slots := 0, locals := 0 } : Room).cells ({ frames := 0, cells := 0, slots := 0, locals := 0 } : Room).slots) := by
  refine MetFree.of_bodySF (plainFor_of_name pn_com_example_rundown_rundown_symbolic_PrecisionIsExactPinLaw) hisR ?_
  intro p e s m args below meth c s₁ Bd hml0 hP hK
  obtain ⟨rfl, hZ, hh⟩ := hP
  have hx := Bd.exec
  have hby := Bd.bytes
  have hlk : meth.locks = false := BodyLoose.notSynchronized Bd
  have hml : c.maxLocals = 8 := hml0
  have hown : s.vm.findClass "com/example/rundown/rundown/symbolic/PrecisionIsExactPinLaw" = some m.cls := findClass_of_methodNamed Bd.named
  have hnm := (name_of_methodNamed Bd.named Bd.method).1
  have X0 : Stand p l e ({ frames := 0, cells := 0, slots := 0, locals := 0 } : Room) s m #[(.int p2_0), (.int p2_1), (.int p2_2), (.int p2_3), (.int p2_4), (.int p2_5)] below meth c s₁ [] 0 0 := Stand.of_body Bd
  have e0 : s₁.heap = h0 := by rw [← hh, Bd.state]; rfl
  have N0 := Fr.nil n0
  show own_Go p e below (own_P s below ({ frames := 0, cells := 0, slots := 0, locals := 0 } : Room) (own_Q2 (own_F2 p2_0 p2_1 p2_2 p2_3 p2_4 p2_5) h0 n0)) s₁ (entryFrame m #[(.int p2_0), (.int p2_1), (.int p2_2), (.int p2_3), (.int p2_4), (.int p2_5)] 8)
  refine own_in (own_ef2 m p2_0 p2_1 p2_2 p2_3 p2_4 p2_5) ?_
  refine own_by (T' := s₁) (g' := (mkF m 2 #[.val (.int p2_0), .val (.int p2_1), .val (.int p2_2), .val (.int p2_3), .val (.int p2_4), .val (.int p2_5), .unset, .unset] [(.int (2 : Int32)), (.int p2_1)])) (fun t k => ?_) ?_
  · show Steps p.tables e below (s₁.setTop (mkF m 0 #[.val (.int p2_0), .val (.int p2_1), .val (.int p2_2), .val (.int p2_3), .val (.int p2_4), .val (.int p2_5), .unset, .unset] [])) t
    refine XS.iloadN X0.here hx rfl (hb hby d2_0) rfl ?_
    show Steps p.tables e below (s₁.setTop (mkF m 1 #[.val (.int p2_0), .val (.int p2_1), .val (.int p2_2), .val (.int p2_3), .val (.int p2_4), .val (.int p2_5), .unset, .unset] [(.int p2_1)])) t
    refine XS.iconst X0.here hx rfl (hb hby d2_1) ?_
    show Steps p.tables e below (s₁.setTop (mkF m 2 #[.val (.int p2_0), .val (.int p2_1), .val (.int p2_2), .val (.int p2_3), .val (.int p2_4), .val (.int p2_5), .unset, .unset] [(.int (2 : Int32)), (.int p2_1)])) t
    exact k
  by_cases hc88 : (2 : Int32) < p2_1
  · skip
    refine own_by (T' := s₁) (g' := (mkF m 9 #[.val (.int p2_0), .val (.int p2_1), .val (.int p2_2), .val (.int p2_3), .val (.int p2_4), .val (.int p2_5), .unset, .unset] [(.int (2 : Int32)), (.int p2_0)])) (fun t k => ?_) ?_
    · show Steps p.tables e below (s₁.setTop (mkF m 2 #[.val (.int p2_0), .val (.int p2_1), .val (.int p2_2), .val (.int p2_3), .val (.int p2_4), .val (.int p2_5), .unset, .unset] [(.int (2 : Int32)), (.int p2_1)])) t
      refine XS.icmpYes X0.here hx rfl (pc0 := 2) (pc' := 7) rfl (hb hby d2_2) rfl (tlt hc88).2.2.1 (by decide) (by decide) ?_
      show Steps p.tables e below (s₁.setTop (mkF m 7 #[.val (.int p2_0), .val (.int p2_1), .val (.int p2_2), .val (.int p2_3), .val (.int p2_4), .val (.int p2_5), .unset, .unset] [])) t
      refine XS.iloadN X0.here hx rfl (hb hby d2_7) rfl ?_
      show Steps p.tables e below (s₁.setTop (mkF m 8 #[.val (.int p2_0), .val (.int p2_1), .val (.int p2_2), .val (.int p2_3), .val (.int p2_4), .val (.int p2_5), .unset, .unset] [(.int p2_0)])) t
      refine XS.iconst X0.here hx rfl (hb hby d2_8) ?_
      show Steps p.tables e below (s₁.setTop (mkF m 9 #[.val (.int p2_0), .val (.int p2_1), .val (.int p2_2), .val (.int p2_3), .val (.int p2_4), .val (.int p2_5), .unset, .unset] [(.int (2 : Int32)), (.int p2_0)])) t
      exact k
    have J2_1 : ∀ (T92 : State) (L92 : List Loc) (i90 : Int32) (i91 : Int32), Stand p l e ({ frames := 0, cells := 0, slots := 0, locals := 0 } : Room) s m #[(.int p2_0), (.int p2_1), (.int p2_2), (.int p2_3), (.int p2_4), (.int p2_5)] below meth c T92 L92 0 0 → T92.heap = h0 → Fr n0 L92 → own_Go p e below (own_P s below ({ frames := 0, cells := 0, slots := 0, locals := 0 } : Room) (own_Q2 (own_F2_30_1 p2_0 p2_1 p2_2 p2_3 p2_4 p2_5 i90 i91) h0 n0)) T92 (mkF m 30 #[.val (.int p2_0), .val (.int p2_1), .val (.int p2_2), .val (.int p2_3), .val (.int p2_4), .val (.int p2_5), .val (.int i90), .val (.int i91)] []) := by
      intro T92 L92 i90 i91 X92 e92 N92
      refine own_by (T' := T92) (g' := (mkF m 32 #[.val (.int p2_0), .val (.int p2_1), .val (.int p2_2), .val (.int p2_3), .val (.int p2_4), .val (.int p2_5), .val (.int i90), .val (.int i91)] [(.int p2_4)])) (fun t k => ?_) ?_
      · show Steps p.tables e below (T92.setTop (mkF m 30 #[.val (.int p2_0), .val (.int p2_1), .val (.int p2_2), .val (.int p2_3), .val (.int p2_4), .val (.int p2_5), .val (.int i90), .val (.int i91)] [])) t
        refine XS.iload X92.here hx rfl (hb hby d2_30) rfl ?_
        show Steps p.tables e below (T92.setTop (mkF m 32 #[.val (.int p2_0), .val (.int p2_1), .val (.int p2_2), .val (.int p2_3), .val (.int p2_4), .val (.int p2_5), .val (.int i90), .val (.int i91)] [(.int p2_4)])) t
        exact k
      by_cases hc93 : p2_4 = (0 : Int32)
      · skip
        refine own_by (T' := T92) (g' := (mkF m 51 #[.val (.int p2_0), .val (.int p2_1), .val (.int p2_2), .val (.int p2_3), .val (.int p2_4), .val (.int p2_5), .val (.int i90), .val (.int i91)] [(.int p2_5)])) (fun t k => ?_) ?_
        · show Steps p.tables e below (T92.setTop (mkF m 32 #[.val (.int p2_0), .val (.int p2_1), .val (.int p2_2), .val (.int p2_3), .val (.int p2_4), .val (.int p2_5), .val (.int i90), .val (.int i91)] [(.int p2_4)])) t
          refine XS.ifYes X92.here hx rfl (pc0 := 32) (pc' := 49) rfl (hb hby d2_32) rfl ((if0 _ _).trans (teq hc93).1) (by decide) (by decide) ?_
          show Steps p.tables e below (T92.setTop (mkF m 49 #[.val (.int p2_0), .val (.int p2_1), .val (.int p2_2), .val (.int p2_3), .val (.int p2_4), .val (.int p2_5), .val (.int i90), .val (.int i91)] [])) t
          refine XS.iload X92.here hx rfl (hb hby d2_49) rfl ?_
          show Steps p.tables e below (T92.setTop (mkF m 51 #[.val (.int p2_0), .val (.int p2_1), .val (.int p2_2), .val (.int p2_3), .val (.int p2_4), .val (.int p2_5), .val (.int i90), .val (.int i91)] [(.int p2_5)])) t
          exact k
        by_cases hc94 : p2_5 = (0 : Int32)
        · skip
          refine own_by (T' := T92) (g' := (mkF m 69 #[.val (.int p2_0), .val (.int p2_1), .val (.int p2_2), .val (.int p2_3), .val (.int p2_4), .val (.int p2_5), .val (.int i90), .val (.int i91)] [(.int (0 : Int32))])) (fun t k => ?_) ?_
          · show Steps p.tables e below (T92.setTop (mkF m 51 #[.val (.int p2_0), .val (.int p2_1), .val (.int p2_2), .val (.int p2_3), .val (.int p2_4), .val (.int p2_5), .val (.int i90), .val (.int i91)] [(.int p2_5)])) t
            refine XS.ifYes X92.here hx rfl (pc0 := 51) (pc' := 68) rfl (hb hby d2_51) rfl ((if0 _ _).trans (teq hc94).1) (by decide) (by decide) ?_
            show Steps p.tables e below (T92.setTop (mkF m 68 #[.val (.int p2_0), .val (.int p2_1), .val (.int p2_2), .val (.int p2_3), .val (.int p2_4), .val (.int p2_5), .val (.int i90), .val (.int i91)] [])) t
            refine XS.iconst X92.here hx rfl (hb hby d2_68) ?_
            show Steps p.tables e below (T92.setTop (mkF m 69 #[.val (.int p2_0), .val (.int p2_1), .val (.int p2_2), .val (.int p2_3), .val (.int p2_4), .val (.int p2_5), .val (.int i90), .val (.int i91)] [(.int (0 : Int32))])) t
            exact k
          rw [show own_F2_30_1 p2_0 p2_1 p2_2 p2_3 p2_4 p2_5 i90 i91 = (0 : Int32) from ((if_pos hc93).trans ((if_pos hc94).trans rfl))]
          exact own_retN X92 hx (t := .boolean) Bd.returns (by simp) (hb hby d2_69) hlk (by decide) (by decide) ⟨rfl, N92, e92⟩
        · skip
          refine own_by (T' := T92) (g' := (mkF m 57 #[.val (.int p2_0), .val (.int p2_1), .val (.int p2_2), .val (.int p2_3), .val (.int p2_4), .val (.int p2_5), .val (.int i90), .val (.int i91)] [(.int i91), (.int p2_3)])) (fun t k => ?_) ?_
          · show Steps p.tables e below (T92.setTop (mkF m 51 #[.val (.int p2_0), .val (.int p2_1), .val (.int p2_2), .val (.int p2_3), .val (.int p2_4), .val (.int p2_5), .val (.int i90), .val (.int i91)] [(.int p2_5)])) t
            refine XS.ifNo X92.here hx rfl (hb hby d2_51) rfl ((if0 _ _).trans (feq hc94).1) ?_
            show Steps p.tables e below (T92.setTop (mkF m 54 #[.val (.int p2_0), .val (.int p2_1), .val (.int p2_2), .val (.int p2_3), .val (.int p2_4), .val (.int p2_5), .val (.int i90), .val (.int i91)] [])) t
            refine XS.iloadN X92.here hx rfl (hb hby d2_54) rfl ?_
            show Steps p.tables e below (T92.setTop (mkF m 55 #[.val (.int p2_0), .val (.int p2_1), .val (.int p2_2), .val (.int p2_3), .val (.int p2_4), .val (.int p2_5), .val (.int i90), .val (.int i91)] [(.int p2_3)])) t
            refine XS.iload X92.here hx rfl (hb hby d2_55) rfl ?_
            show Steps p.tables e below (T92.setTop (mkF m 57 #[.val (.int p2_0), .val (.int p2_1), .val (.int p2_2), .val (.int p2_3), .val (.int p2_4), .val (.int p2_5), .val (.int i90), .val (.int i91)] [(.int i91), (.int p2_3)])) t
            exact k
          by_cases hc95 : p2_3 < i91
          · skip
            refine own_by (T' := T92) (g' := (mkF m 63 #[.val (.int p2_0), .val (.int p2_1), .val (.int p2_2), .val (.int p2_3), .val (.int p2_4), .val (.int p2_5), .val (.int i90), .val (.int i91)] [(.int i91), (.int p2_2)])) (fun t k => ?_) ?_
            · show Steps p.tables e below (T92.setTop (mkF m 57 #[.val (.int p2_0), .val (.int p2_1), .val (.int p2_2), .val (.int p2_3), .val (.int p2_4), .val (.int p2_5), .val (.int i90), .val (.int i91)] [(.int i91), (.int p2_3)])) t
              refine XS.icmpNo X92.here hx rfl (hb hby d2_57) rfl (tlt hc95).2.1 ?_
              show Steps p.tables e below (T92.setTop (mkF m 60 #[.val (.int p2_0), .val (.int p2_1), .val (.int p2_2), .val (.int p2_3), .val (.int p2_4), .val (.int p2_5), .val (.int i90), .val (.int i91)] [])) t
              refine XS.iloadN X92.here hx rfl (hb hby d2_60) rfl ?_
              show Steps p.tables e below (T92.setTop (mkF m 61 #[.val (.int p2_0), .val (.int p2_1), .val (.int p2_2), .val (.int p2_3), .val (.int p2_4), .val (.int p2_5), .val (.int i90), .val (.int i91)] [(.int p2_2)])) t
              refine XS.iload X92.here hx rfl (hb hby d2_61) rfl ?_
              show Steps p.tables e below (T92.setTop (mkF m 63 #[.val (.int p2_0), .val (.int p2_1), .val (.int p2_2), .val (.int p2_3), .val (.int p2_4), .val (.int p2_5), .val (.int i90), .val (.int i91)] [(.int i91), (.int p2_2)])) t
              exact k
            by_cases hc96 : i91 < p2_2
            · skip
              refine own_by (T' := T92) (g' := (mkF m 69 #[.val (.int p2_0), .val (.int p2_1), .val (.int p2_2), .val (.int p2_3), .val (.int p2_4), .val (.int p2_5), .val (.int i90), .val (.int i91)] [(.int (0 : Int32))])) (fun t k => ?_) ?_
              · show Steps p.tables e below (T92.setTop (mkF m 63 #[.val (.int p2_0), .val (.int p2_1), .val (.int p2_2), .val (.int p2_3), .val (.int p2_4), .val (.int p2_5), .val (.int i90), .val (.int i91)] [(.int i91), (.int p2_2)])) t
                refine XS.icmpYes X92.here hx rfl (pc0 := 63) (pc' := 68) rfl (hb hby d2_63) rfl (tlt hc96).2.2.1 (by decide) (by decide) ?_
                show Steps p.tables e below (T92.setTop (mkF m 68 #[.val (.int p2_0), .val (.int p2_1), .val (.int p2_2), .val (.int p2_3), .val (.int p2_4), .val (.int p2_5), .val (.int i90), .val (.int i91)] [])) t
                refine XS.iconst X92.here hx rfl (hb hby d2_68) ?_
                show Steps p.tables e below (T92.setTop (mkF m 69 #[.val (.int p2_0), .val (.int p2_1), .val (.int p2_2), .val (.int p2_3), .val (.int p2_4), .val (.int p2_5), .val (.int i90), .val (.int i91)] [(.int (0 : Int32))])) t
                exact k
              rw [show own_F2_30_1 p2_0 p2_1 p2_2 p2_3 p2_4 p2_5 i90 i91 = (0 : Int32) from ((if_pos hc93).trans ((if_neg hc94).trans ((if_pos hc95).trans ((if_pos hc96).trans rfl))))]
              exact own_retN X92 hx (t := .boolean) Bd.returns (by simp) (hb hby d2_69) hlk (by decide) (by decide) ⟨rfl, N92, e92⟩
            · skip
              refine own_by (T' := T92) (g' := (mkF m 67 #[.val (.int p2_0), .val (.int p2_1), .val (.int p2_2), .val (.int p2_3), .val (.int p2_4), .val (.int p2_5), .val (.int i90), .val (.int i91)] [(.int (1 : Int32))])) (fun t k => ?_) ?_
              · show Steps p.tables e below (T92.setTop (mkF m 63 #[.val (.int p2_0), .val (.int p2_1), .val (.int p2_2), .val (.int p2_3), .val (.int p2_4), .val (.int p2_5), .val (.int i90), .val (.int i91)] [(.int i91), (.int p2_2)])) t
                refine XS.icmpNo X92.here hx rfl (hb hby d2_63) rfl (flt hc96).2.2.1 ?_
                show Steps p.tables e below (T92.setTop (mkF m 66 #[.val (.int p2_0), .val (.int p2_1), .val (.int p2_2), .val (.int p2_3), .val (.int p2_4), .val (.int p2_5), .val (.int i90), .val (.int i91)] [])) t
                refine XS.iconst X92.here hx rfl (hb hby d2_66) ?_
                show Steps p.tables e below (T92.setTop (mkF m 67 #[.val (.int p2_0), .val (.int p2_1), .val (.int p2_2), .val (.int p2_3), .val (.int p2_4), .val (.int p2_5), .val (.int i90), .val (.int i91)] [(.int (1 : Int32))])) t
                exact k
              rw [show own_F2_30_1 p2_0 p2_1 p2_2 p2_3 p2_4 p2_5 i90 i91 = (1 : Int32) from ((if_pos hc93).trans ((if_neg hc94).trans ((if_pos hc95).trans ((if_neg hc96).trans rfl))))]
              exact own_retN X92 hx (t := .boolean) Bd.returns (by simp) (hb hby d2_67) hlk (by decide) (by decide) ⟨rfl, N92, e92⟩
          · skip
            refine own_by (T' := T92) (g' := (mkF m 69 #[.val (.int p2_0), .val (.int p2_1), .val (.int p2_2), .val (.int p2_3), .val (.int p2_4), .val (.int p2_5), .val (.int i90), .val (.int i91)] [(.int (0 : Int32))])) (fun t k => ?_) ?_
            · show Steps p.tables e below (T92.setTop (mkF m 57 #[.val (.int p2_0), .val (.int p2_1), .val (.int p2_2), .val (.int p2_3), .val (.int p2_4), .val (.int p2_5), .val (.int i90), .val (.int i91)] [(.int i91), (.int p2_3)])) t
              refine XS.icmpYes X92.here hx rfl (pc0 := 57) (pc' := 68) rfl (hb hby d2_57) rfl (flt hc95).2.1 (by decide) (by decide) ?_
              show Steps p.tables e below (T92.setTop (mkF m 68 #[.val (.int p2_0), .val (.int p2_1), .val (.int p2_2), .val (.int p2_3), .val (.int p2_4), .val (.int p2_5), .val (.int i90), .val (.int i91)] [])) t
              refine XS.iconst X92.here hx rfl (hb hby d2_68) ?_
              show Steps p.tables e below (T92.setTop (mkF m 69 #[.val (.int p2_0), .val (.int p2_1), .val (.int p2_2), .val (.int p2_3), .val (.int p2_4), .val (.int p2_5), .val (.int i90), .val (.int i91)] [(.int (0 : Int32))])) t
              exact k
            rw [show own_F2_30_1 p2_0 p2_1 p2_2 p2_3 p2_4 p2_5 i90 i91 = (0 : Int32) from ((if_pos hc93).trans ((if_neg hc94).trans ((if_neg hc95).trans rfl)))]
            exact own_retN X92 hx (t := .boolean) Bd.returns (by simp) (hb hby d2_69) hlk (by decide) (by decide) ⟨rfl, N92, e92⟩
      · skip
        refine own_by (T' := T92) (g' := (mkF m 38 #[.val (.int p2_0), .val (.int p2_1), .val (.int p2_2), .val (.int p2_3), .val (.int p2_4), .val (.int p2_5), .val (.int i90), .val (.int i91)] [(.int (64 : Int32)), (.int p2_3)])) (fun t k => ?_) ?_
        · show Steps p.tables e below (T92.setTop (mkF m 32 #[.val (.int p2_0), .val (.int p2_1), .val (.int p2_2), .val (.int p2_3), .val (.int p2_4), .val (.int p2_5), .val (.int i90), .val (.int i91)] [(.int p2_4)])) t
          refine XS.ifNo X92.here hx rfl (hb hby d2_32) rfl ((if0 _ _).trans (feq hc93).1) ?_
          show Steps p.tables e below (T92.setTop (mkF m 35 #[.val (.int p2_0), .val (.int p2_1), .val (.int p2_2), .val (.int p2_3), .val (.int p2_4), .val (.int p2_5), .val (.int i90), .val (.int i91)] [])) t
          refine XS.iloadN X92.here hx rfl (hb hby d2_35) rfl ?_
          show Steps p.tables e below (T92.setTop (mkF m 36 #[.val (.int p2_0), .val (.int p2_1), .val (.int p2_2), .val (.int p2_3), .val (.int p2_4), .val (.int p2_5), .val (.int i90), .val (.int i91)] [(.int p2_3)])) t
          refine XS.bipush X92.here hx rfl (hb hby d2_36) ?_
          show Steps p.tables e below (T92.setTop (mkF m 38 #[.val (.int p2_0), .val (.int p2_1), .val (.int p2_2), .val (.int p2_3), .val (.int p2_4), .val (.int p2_5), .val (.int i90), .val (.int i91)] [(.int (64 : Int32)), (.int p2_3)])) t
          exact k
        by_cases hc97 : p2_3 < (64 : Int32)
        · skip
          refine own_by (T' := T92) (g' := (mkF m 44 #[.val (.int p2_0), .val (.int p2_1), .val (.int p2_2), .val (.int p2_3), .val (.int p2_4), .val (.int p2_5), .val (.int i90), .val (.int i91)] [(.int i90), (.int p2_2)])) (fun t k => ?_) ?_
          · show Steps p.tables e below (T92.setTop (mkF m 38 #[.val (.int p2_0), .val (.int p2_1), .val (.int p2_2), .val (.int p2_3), .val (.int p2_4), .val (.int p2_5), .val (.int i90), .val (.int i91)] [(.int (64 : Int32)), (.int p2_3)])) t
            refine XS.icmpNo X92.here hx rfl (hb hby d2_38) rfl (tlt hc97).2.1 ?_
            show Steps p.tables e below (T92.setTop (mkF m 41 #[.val (.int p2_0), .val (.int p2_1), .val (.int p2_2), .val (.int p2_3), .val (.int p2_4), .val (.int p2_5), .val (.int i90), .val (.int i91)] [])) t
            refine XS.iloadN X92.here hx rfl (hb hby d2_41) rfl ?_
            show Steps p.tables e below (T92.setTop (mkF m 42 #[.val (.int p2_0), .val (.int p2_1), .val (.int p2_2), .val (.int p2_3), .val (.int p2_4), .val (.int p2_5), .val (.int i90), .val (.int i91)] [(.int p2_2)])) t
            refine XS.iload X92.here hx rfl (hb hby d2_42) rfl ?_
            show Steps p.tables e below (T92.setTop (mkF m 44 #[.val (.int p2_0), .val (.int p2_1), .val (.int p2_2), .val (.int p2_3), .val (.int p2_4), .val (.int p2_5), .val (.int i90), .val (.int i91)] [(.int i90), (.int p2_2)])) t
            exact k
          by_cases hc98 : i90 < p2_2
          · skip
            refine own_by (T' := T92) (g' := (mkF m 51 #[.val (.int p2_0), .val (.int p2_1), .val (.int p2_2), .val (.int p2_3), .val (.int p2_4), .val (.int p2_5), .val (.int i90), .val (.int i91)] [(.int p2_5)])) (fun t k => ?_) ?_
            · show Steps p.tables e below (T92.setTop (mkF m 44 #[.val (.int p2_0), .val (.int p2_1), .val (.int p2_2), .val (.int p2_3), .val (.int p2_4), .val (.int p2_5), .val (.int i90), .val (.int i91)] [(.int i90), (.int p2_2)])) t
              refine XS.icmpYes X92.here hx rfl (pc0 := 44) (pc' := 49) rfl (hb hby d2_44) rfl (tlt hc98).2.2.1 (by decide) (by decide) ?_
              show Steps p.tables e below (T92.setTop (mkF m 49 #[.val (.int p2_0), .val (.int p2_1), .val (.int p2_2), .val (.int p2_3), .val (.int p2_4), .val (.int p2_5), .val (.int i90), .val (.int i91)] [])) t
              refine XS.iload X92.here hx rfl (hb hby d2_49) rfl ?_
              show Steps p.tables e below (T92.setTop (mkF m 51 #[.val (.int p2_0), .val (.int p2_1), .val (.int p2_2), .val (.int p2_3), .val (.int p2_4), .val (.int p2_5), .val (.int i90), .val (.int i91)] [(.int p2_5)])) t
              exact k
            by_cases hc99 : p2_5 = (0 : Int32)
            · skip
              refine own_by (T' := T92) (g' := (mkF m 69 #[.val (.int p2_0), .val (.int p2_1), .val (.int p2_2), .val (.int p2_3), .val (.int p2_4), .val (.int p2_5), .val (.int i90), .val (.int i91)] [(.int (0 : Int32))])) (fun t k => ?_) ?_
              · show Steps p.tables e below (T92.setTop (mkF m 51 #[.val (.int p2_0), .val (.int p2_1), .val (.int p2_2), .val (.int p2_3), .val (.int p2_4), .val (.int p2_5), .val (.int i90), .val (.int i91)] [(.int p2_5)])) t
                refine XS.ifYes X92.here hx rfl (pc0 := 51) (pc' := 68) rfl (hb hby d2_51) rfl ((if0 _ _).trans (teq hc99).1) (by decide) (by decide) ?_
                show Steps p.tables e below (T92.setTop (mkF m 68 #[.val (.int p2_0), .val (.int p2_1), .val (.int p2_2), .val (.int p2_3), .val (.int p2_4), .val (.int p2_5), .val (.int i90), .val (.int i91)] [])) t
                refine XS.iconst X92.here hx rfl (hb hby d2_68) ?_
                show Steps p.tables e below (T92.setTop (mkF m 69 #[.val (.int p2_0), .val (.int p2_1), .val (.int p2_2), .val (.int p2_3), .val (.int p2_4), .val (.int p2_5), .val (.int i90), .val (.int i91)] [(.int (0 : Int32))])) t
                exact k
              rw [show own_F2_30_1 p2_0 p2_1 p2_2 p2_3 p2_4 p2_5 i90 i91 = (0 : Int32) from ((if_neg hc93).trans ((if_pos hc97).trans ((if_pos hc98).trans ((if_pos hc99).trans rfl))))]
              exact own_retN X92 hx (t := .boolean) Bd.returns (by simp) (hb hby d2_69) hlk (by decide) (by decide) ⟨rfl, N92, e92⟩
            · skip
              refine own_by (T' := T92) (g' := (mkF m 57 #[.val (.int p2_0), .val (.int p2_1), .val (.int p2_2), .val (.int p2_3), .val (.int p2_4), .val (.int p2_5), .val (.int i90), .val (.int i91)] [(.int i91), (.int p2_3)])) (fun t k => ?_) ?_
              · show Steps p.tables e below (T92.setTop (mkF m 51 #[.val (.int p2_0), .val (.int p2_1), .val (.int p2_2), .val (.int p2_3), .val (.int p2_4), .val (.int p2_5), .val (.int i90), .val (.int i91)] [(.int p2_5)])) t
                refine XS.ifNo X92.here hx rfl (hb hby d2_51) rfl ((if0 _ _).trans (feq hc99).1) ?_
                show Steps p.tables e below (T92.setTop (mkF m 54 #[.val (.int p2_0), .val (.int p2_1), .val (.int p2_2), .val (.int p2_3), .val (.int p2_4), .val (.int p2_5), .val (.int i90), .val (.int i91)] [])) t
                refine XS.iloadN X92.here hx rfl (hb hby d2_54) rfl ?_
                show Steps p.tables e below (T92.setTop (mkF m 55 #[.val (.int p2_0), .val (.int p2_1), .val (.int p2_2), .val (.int p2_3), .val (.int p2_4), .val (.int p2_5), .val (.int i90), .val (.int i91)] [(.int p2_3)])) t
                refine XS.iload X92.here hx rfl (hb hby d2_55) rfl ?_
                show Steps p.tables e below (T92.setTop (mkF m 57 #[.val (.int p2_0), .val (.int p2_1), .val (.int p2_2), .val (.int p2_3), .val (.int p2_4), .val (.int p2_5), .val (.int i90), .val (.int i91)] [(.int i91), (.int p2_3)])) t
                exact k
              by_cases hc100 : p2_3 < i91
              · skip
                refine own_by (T' := T92) (g' := (mkF m 63 #[.val (.int p2_0), .val (.int p2_1), .val (.int p2_2), .val (.int p2_3), .val (.int p2_4), .val (.int p2_5), .val (.int i90), .val (.int i91)] [(.int i91), (.int p2_2)])) (fun t k => ?_) ?_
                · show Steps p.tables e below (T92.setTop (mkF m 57 #[.val (.int p2_0), .val (.int p2_1), .val (.int p2_2), .val (.int p2_3), .val (.int p2_4), .val (.int p2_5), .val (.int i90), .val (.int i91)] [(.int i91), (.int p2_3)])) t
                  refine XS.icmpNo X92.here hx rfl (hb hby d2_57) rfl (tlt hc100).2.1 ?_
                  show Steps p.tables e below (T92.setTop (mkF m 60 #[.val (.int p2_0), .val (.int p2_1), .val (.int p2_2), .val (.int p2_3), .val (.int p2_4), .val (.int p2_5), .val (.int i90), .val (.int i91)] [])) t
                  refine XS.iloadN X92.here hx rfl (hb hby d2_60) rfl ?_
                  show Steps p.tables e below (T92.setTop (mkF m 61 #[.val (.int p2_0), .val (.int p2_1), .val (.int p2_2), .val (.int p2_3), .val (.int p2_4), .val (.int p2_5), .val (.int i90), .val (.int i91)] [(.int p2_2)])) t
                  refine XS.iload X92.here hx rfl (hb hby d2_61) rfl ?_
                  show Steps p.tables e below (T92.setTop (mkF m 63 #[.val (.int p2_0), .val (.int p2_1), .val (.int p2_2), .val (.int p2_3), .val (.int p2_4), .val (.int p2_5), .val (.int i90), .val (.int i91)] [(.int i91), (.int p2_2)])) t
                  exact k
                by_cases hc101 : i91 < p2_2
                · skip
                  refine own_by (T' := T92) (g' := (mkF m 69 #[.val (.int p2_0), .val (.int p2_1), .val (.int p2_2), .val (.int p2_3), .val (.int p2_4), .val (.int p2_5), .val (.int i90), .val (.int i91)] [(.int (0 : Int32))])) (fun t k => ?_) ?_
                  · show Steps p.tables e below (T92.setTop (mkF m 63 #[.val (.int p2_0), .val (.int p2_1), .val (.int p2_2), .val (.int p2_3), .val (.int p2_4), .val (.int p2_5), .val (.int i90), .val (.int i91)] [(.int i91), (.int p2_2)])) t
                    refine XS.icmpYes X92.here hx rfl (pc0 := 63) (pc' := 68) rfl (hb hby d2_63) rfl (tlt hc101).2.2.1 (by decide) (by decide) ?_
                    show Steps p.tables e below (T92.setTop (mkF m 68 #[.val (.int p2_0), .val (.int p2_1), .val (.int p2_2), .val (.int p2_3), .val (.int p2_4), .val (.int p2_5), .val (.int i90), .val (.int i91)] [])) t
                    refine XS.iconst X92.here hx rfl (hb hby d2_68) ?_
                    show Steps p.tables e below (T92.setTop (mkF m 69 #[.val (.int p2_0), .val (.int p2_1), .val (.int p2_2), .val (.int p2_3), .val (.int p2_4), .val (.int p2_5), .val (.int i90), .val (.int i91)] [(.int (0 : Int32))])) t
                    exact k
                  rw [show own_F2_30_1 p2_0 p2_1 p2_2 p2_3 p2_4 p2_5 i90 i91 = (0 : Int32) from ((if_neg hc93).trans ((if_pos hc97).trans ((if_pos hc98).trans ((if_neg hc99).trans ((if_pos hc100).trans ((if_pos hc101).trans rfl))))))]
                  exact own_retN X92 hx (t := .boolean) Bd.returns (by simp) (hb hby d2_69) hlk (by decide) (by decide) ⟨rfl, N92, e92⟩
                · skip
                  refine own_by (T' := T92) (g' := (mkF m 67 #[.val (.int p2_0), .val (.int p2_1), .val (.int p2_2), .val (.int p2_3), .val (.int p2_4), .val (.int p2_5), .val (.int i90), .val (.int i91)] [(.int (1 : Int32))])) (fun t k => ?_) ?_
                  · show Steps p.tables e below (T92.setTop (mkF m 63 #[.val (.int p2_0), .val (.int p2_1), .val (.int p2_2), .val (.int p2_3), .val (.int p2_4), .val (.int p2_5), .val (.int i90), .val (.int i91)] [(.int i91), (.int p2_2)])) t
                    refine XS.icmpNo X92.here hx rfl (hb hby d2_63) rfl (flt hc101).2.2.1 ?_
                    show Steps p.tables e below (T92.setTop (mkF m 66 #[.val (.int p2_0), .val (.int p2_1), .val (.int p2_2), .val (.int p2_3), .val (.int p2_4), .val (.int p2_5), .val (.int i90), .val (.int i91)] [])) t
                    refine XS.iconst X92.here hx rfl (hb hby d2_66) ?_
                    show Steps p.tables e below (T92.setTop (mkF m 67 #[.val (.int p2_0), .val (.int p2_1), .val (.int p2_2), .val (.int p2_3), .val (.int p2_4), .val (.int p2_5), .val (.int i90), .val (.int i91)] [(.int (1 : Int32))])) t
                    exact k
                  rw [show own_F2_30_1 p2_0 p2_1 p2_2 p2_3 p2_4 p2_5 i90 i91 = (1 : Int32) from ((if_neg hc93).trans ((if_pos hc97).trans ((if_pos hc98).trans ((if_neg hc99).trans ((if_pos hc100).trans ((if_neg hc101).trans rfl))))))]
                  exact own_retN X92 hx (t := .boolean) Bd.returns (by simp) (hb hby d2_67) hlk (by decide) (by decide) ⟨rfl, N92, e92⟩
              · skip
                refine own_by (T' := T92) (g' := (mkF m 69 #[.val (.int p2_0), .val (.int p2_1), .val (.int p2_2), .val (.int p2_3), .val (.int p2_4), .val (.int p2_5), .val (.int i90), .val (.int i91)] [(.int (0 : Int32))])) (fun t k => ?_) ?_
                · show Steps p.tables e below (T92.setTop (mkF m 57 #[.val (.int p2_0), .val (.int p2_1), .val (.int p2_2), .val (.int p2_3), .val (.int p2_4), .val (.int p2_5), .val (.int i90), .val (.int i91)] [(.int i91), (.int p2_3)])) t
                  refine XS.icmpYes X92.here hx rfl (pc0 := 57) (pc' := 68) rfl (hb hby d2_57) rfl (flt hc100).2.1 (by decide) (by decide) ?_
                  show Steps p.tables e below (T92.setTop (mkF m 68 #[.val (.int p2_0), .val (.int p2_1), .val (.int p2_2), .val (.int p2_3), .val (.int p2_4), .val (.int p2_5), .val (.int i90), .val (.int i91)] [])) t
                  refine XS.iconst X92.here hx rfl (hb hby d2_68) ?_
                  show Steps p.tables e below (T92.setTop (mkF m 69 #[.val (.int p2_0), .val (.int p2_1), .val (.int p2_2), .val (.int p2_3), .val (.int p2_4), .val (.int p2_5), .val (.int i90), .val (.int i91)] [(.int (0 : Int32))])) t
                  exact k
                rw [show own_F2_30_1 p2_0 p2_1 p2_2 p2_3 p2_4 p2_5 i90 i91 = (0 : Int32) from ((if_neg hc93).trans ((if_pos hc97).trans ((if_pos hc98).trans ((if_neg hc99).trans ((if_neg hc100).trans rfl)))))]
                exact own_retN X92 hx (t := .boolean) Bd.returns (by simp) (hb hby d2_69) hlk (by decide) (by decide) ⟨rfl, N92, e92⟩
          · skip
            refine own_by (T' := T92) (g' := (mkF m 48 #[.val (.int p2_0), .val (.int p2_1), .val (.int p2_2), .val (.int p2_3), .val (.int p2_4), .val (.int p2_5), .val (.int i90), .val (.int i91)] [(.int (1 : Int32))])) (fun t k => ?_) ?_
            · show Steps p.tables e below (T92.setTop (mkF m 44 #[.val (.int p2_0), .val (.int p2_1), .val (.int p2_2), .val (.int p2_3), .val (.int p2_4), .val (.int p2_5), .val (.int i90), .val (.int i91)] [(.int i90), (.int p2_2)])) t
              refine XS.icmpNo X92.here hx rfl (hb hby d2_44) rfl (flt hc98).2.2.1 ?_
              show Steps p.tables e below (T92.setTop (mkF m 47 #[.val (.int p2_0), .val (.int p2_1), .val (.int p2_2), .val (.int p2_3), .val (.int p2_4), .val (.int p2_5), .val (.int i90), .val (.int i91)] [])) t
              refine XS.iconst X92.here hx rfl (hb hby d2_47) ?_
              show Steps p.tables e below (T92.setTop (mkF m 48 #[.val (.int p2_0), .val (.int p2_1), .val (.int p2_2), .val (.int p2_3), .val (.int p2_4), .val (.int p2_5), .val (.int i90), .val (.int i91)] [(.int (1 : Int32))])) t
              exact k
            rw [show own_F2_30_1 p2_0 p2_1 p2_2 p2_3 p2_4 p2_5 i90 i91 = (1 : Int32) from ((if_neg hc93).trans ((if_pos hc97).trans ((if_neg hc98).trans rfl)))]
            exact own_retN X92 hx (t := .boolean) Bd.returns (by simp) (hb hby d2_48) hlk (by decide) (by decide) ⟨rfl, N92, e92⟩
        · skip
          refine own_by (T' := T92) (g' := (mkF m 51 #[.val (.int p2_0), .val (.int p2_1), .val (.int p2_2), .val (.int p2_3), .val (.int p2_4), .val (.int p2_5), .val (.int i90), .val (.int i91)] [(.int p2_5)])) (fun t k => ?_) ?_
          · show Steps p.tables e below (T92.setTop (mkF m 38 #[.val (.int p2_0), .val (.int p2_1), .val (.int p2_2), .val (.int p2_3), .val (.int p2_4), .val (.int p2_5), .val (.int i90), .val (.int i91)] [(.int (64 : Int32)), (.int p2_3)])) t
            refine XS.icmpYes X92.here hx rfl (pc0 := 38) (pc' := 49) rfl (hb hby d2_38) rfl (flt hc97).2.1 (by decide) (by decide) ?_
            show Steps p.tables e below (T92.setTop (mkF m 49 #[.val (.int p2_0), .val (.int p2_1), .val (.int p2_2), .val (.int p2_3), .val (.int p2_4), .val (.int p2_5), .val (.int i90), .val (.int i91)] [])) t
            refine XS.iload X92.here hx rfl (hb hby d2_49) rfl ?_
            show Steps p.tables e below (T92.setTop (mkF m 51 #[.val (.int p2_0), .val (.int p2_1), .val (.int p2_2), .val (.int p2_3), .val (.int p2_4), .val (.int p2_5), .val (.int i90), .val (.int i91)] [(.int p2_5)])) t
            exact k
          by_cases hc102 : p2_5 = (0 : Int32)
          · skip
            refine own_by (T' := T92) (g' := (mkF m 69 #[.val (.int p2_0), .val (.int p2_1), .val (.int p2_2), .val (.int p2_3), .val (.int p2_4), .val (.int p2_5), .val (.int i90), .val (.int i91)] [(.int (0 : Int32))])) (fun t k => ?_) ?_
            · show Steps p.tables e below (T92.setTop (mkF m 51 #[.val (.int p2_0), .val (.int p2_1), .val (.int p2_2), .val (.int p2_3), .val (.int p2_4), .val (.int p2_5), .val (.int i90), .val (.int i91)] [(.int p2_5)])) t
              refine XS.ifYes X92.here hx rfl (pc0 := 51) (pc' := 68) rfl (hb hby d2_51) rfl ((if0 _ _).trans (teq hc102).1) (by decide) (by decide) ?_
              show Steps p.tables e below (T92.setTop (mkF m 68 #[.val (.int p2_0), .val (.int p2_1), .val (.int p2_2), .val (.int p2_3), .val (.int p2_4), .val (.int p2_5), .val (.int i90), .val (.int i91)] [])) t
              refine XS.iconst X92.here hx rfl (hb hby d2_68) ?_
              show Steps p.tables e below (T92.setTop (mkF m 69 #[.val (.int p2_0), .val (.int p2_1), .val (.int p2_2), .val (.int p2_3), .val (.int p2_4), .val (.int p2_5), .val (.int i90), .val (.int i91)] [(.int (0 : Int32))])) t
              exact k
            rw [show own_F2_30_1 p2_0 p2_1 p2_2 p2_3 p2_4 p2_5 i90 i91 = (0 : Int32) from ((if_neg hc93).trans ((if_neg hc97).trans ((if_pos hc102).trans rfl)))]
            exact own_retN X92 hx (t := .boolean) Bd.returns (by simp) (hb hby d2_69) hlk (by decide) (by decide) ⟨rfl, N92, e92⟩
          · skip
            refine own_by (T' := T92) (g' := (mkF m 57 #[.val (.int p2_0), .val (.int p2_1), .val (.int p2_2), .val (.int p2_3), .val (.int p2_4), .val (.int p2_5), .val (.int i90), .val (.int i91)] [(.int i91), (.int p2_3)])) (fun t k => ?_) ?_
            · show Steps p.tables e below (T92.setTop (mkF m 51 #[.val (.int p2_0), .val (.int p2_1), .val (.int p2_2), .val (.int p2_3), .val (.int p2_4), .val (.int p2_5), .val (.int i90), .val (.int i91)] [(.int p2_5)])) t
              refine XS.ifNo X92.here hx rfl (hb hby d2_51) rfl ((if0 _ _).trans (feq hc102).1) ?_
              show Steps p.tables e below (T92.setTop (mkF m 54 #[.val (.int p2_0), .val (.int p2_1), .val (.int p2_2), .val (.int p2_3), .val (.int p2_4), .val (.int p2_5), .val (.int i90), .val (.int i91)] [])) t
              refine XS.iloadN X92.here hx rfl (hb hby d2_54) rfl ?_
              show Steps p.tables e below (T92.setTop (mkF m 55 #[.val (.int p2_0), .val (.int p2_1), .val (.int p2_2), .val (.int p2_3), .val (.int p2_4), .val (.int p2_5), .val (.int i90), .val (.int i91)] [(.int p2_3)])) t
              refine XS.iload X92.here hx rfl (hb hby d2_55) rfl ?_
              show Steps p.tables e below (T92.setTop (mkF m 57 #[.val (.int p2_0), .val (.int p2_1), .val (.int p2_2), .val (.int p2_3), .val (.int p2_4), .val (.int p2_5), .val (.int i90), .val (.int i91)] [(.int i91), (.int p2_3)])) t
              exact k
            by_cases hc103 : p2_3 < i91
            · skip
              refine own_by (T' := T92) (g' := (mkF m 63 #[.val (.int p2_0), .val (.int p2_1), .val (.int p2_2), .val (.int p2_3), .val (.int p2_4), .val (.int p2_5), .val (.int i90), .val (.int i91)] [(.int i91), (.int p2_2)])) (fun t k => ?_) ?_
              · show Steps p.tables e below (T92.setTop (mkF m 57 #[.val (.int p2_0), .val (.int p2_1), .val (.int p2_2), .val (.int p2_3), .val (.int p2_4), .val (.int p2_5), .val (.int i90), .val (.int i91)] [(.int i91), (.int p2_3)])) t
                refine XS.icmpNo X92.here hx rfl (hb hby d2_57) rfl (tlt hc103).2.1 ?_
                show Steps p.tables e below (T92.setTop (mkF m 60 #[.val (.int p2_0), .val (.int p2_1), .val (.int p2_2), .val (.int p2_3), .val (.int p2_4), .val (.int p2_5), .val (.int i90), .val (.int i91)] [])) t
                refine XS.iloadN X92.here hx rfl (hb hby d2_60) rfl ?_
                show Steps p.tables e below (T92.setTop (mkF m 61 #[.val (.int p2_0), .val (.int p2_1), .val (.int p2_2), .val (.int p2_3), .val (.int p2_4), .val (.int p2_5), .val (.int i90), .val (.int i91)] [(.int p2_2)])) t
                refine XS.iload X92.here hx rfl (hb hby d2_61) rfl ?_
                show Steps p.tables e below (T92.setTop (mkF m 63 #[.val (.int p2_0), .val (.int p2_1), .val (.int p2_2), .val (.int p2_3), .val (.int p2_4), .val (.int p2_5), .val (.int i90), .val (.int i91)] [(.int i91), (.int p2_2)])) t
                exact k
              by_cases hc104 : i91 < p2_2
              · skip
                refine own_by (T' := T92) (g' := (mkF m 69 #[.val (.int p2_0), .val (.int p2_1), .val (.int p2_2), .val (.int p2_3), .val (.int p2_4), .val (.int p2_5), .val (.int i90), .val (.int i91)] [(.int (0 : Int32))])) (fun t k => ?_) ?_
                · show Steps p.tables e below (T92.setTop (mkF m 63 #[.val (.int p2_0), .val (.int p2_1), .val (.int p2_2), .val (.int p2_3), .val (.int p2_4), .val (.int p2_5), .val (.int i90), .val (.int i91)] [(.int i91), (.int p2_2)])) t
                  refine XS.icmpYes X92.here hx rfl (pc0 := 63) (pc' := 68) rfl (hb hby d2_63) rfl (tlt hc104).2.2.1 (by decide) (by decide) ?_
                  show Steps p.tables e below (T92.setTop (mkF m 68 #[.val (.int p2_0), .val (.int p2_1), .val (.int p2_2), .val (.int p2_3), .val (.int p2_4), .val (.int p2_5), .val (.int i90), .val (.int i91)] [])) t
                  refine XS.iconst X92.here hx rfl (hb hby d2_68) ?_
                  show Steps p.tables e below (T92.setTop (mkF m 69 #[.val (.int p2_0), .val (.int p2_1), .val (.int p2_2), .val (.int p2_3), .val (.int p2_4), .val (.int p2_5), .val (.int i90), .val (.int i91)] [(.int (0 : Int32))])) t
                  exact k
                rw [show own_F2_30_1 p2_0 p2_1 p2_2 p2_3 p2_4 p2_5 i90 i91 = (0 : Int32) from ((if_neg hc93).trans ((if_neg hc97).trans ((if_neg hc102).trans ((if_pos hc103).trans ((if_pos hc104).trans rfl)))))]
                exact own_retN X92 hx (t := .boolean) Bd.returns (by simp) (hb hby d2_69) hlk (by decide) (by decide) ⟨rfl, N92, e92⟩
              · skip
                refine own_by (T' := T92) (g' := (mkF m 67 #[.val (.int p2_0), .val (.int p2_1), .val (.int p2_2), .val (.int p2_3), .val (.int p2_4), .val (.int p2_5), .val (.int i90), .val (.int i91)] [(.int (1 : Int32))])) (fun t k => ?_) ?_
                · show Steps p.tables e below (T92.setTop (mkF m 63 #[.val (.int p2_0), .val (.int p2_1), .val (.int p2_2), .val (.int p2_3), .val (.int p2_4), .val (.int p2_5), .val (.int i90), .val (.int i91)] [(.int i91), (.int p2_2)])) t
                  refine XS.icmpNo X92.here hx rfl (hb hby d2_63) rfl (flt hc104).2.2.1 ?_
                  show Steps p.tables e below (T92.setTop (mkF m 66 #[.val (.int p2_0), .val (.int p2_1), .val (.int p2_2), .val (.int p2_3), .val (.int p2_4), .val (.int p2_5), .val (.int i90), .val (.int i91)] [])) t
                  refine XS.iconst X92.here hx rfl (hb hby d2_66) ?_
                  show Steps p.tables e below (T92.setTop (mkF m 67 #[.val (.int p2_0), .val (.int p2_1), .val (.int p2_2), .val (.int p2_3), .val (.int p2_4), .val (.int p2_5), .val (.int i90), .val (.int i91)] [(.int (1 : Int32))])) t
                  exact k
                rw [show own_F2_30_1 p2_0 p2_1 p2_2 p2_3 p2_4 p2_5 i90 i91 = (1 : Int32) from ((if_neg hc93).trans ((if_neg hc97).trans ((if_neg hc102).trans ((if_pos hc103).trans ((if_neg hc104).trans rfl)))))]
                exact own_retN X92 hx (t := .boolean) Bd.returns (by simp) (hb hby d2_67) hlk (by decide) (by decide) ⟨rfl, N92, e92⟩
            · skip
              refine own_by (T' := T92) (g' := (mkF m 69 #[.val (.int p2_0), .val (.int p2_1), .val (.int p2_2), .val (.int p2_3), .val (.int p2_4), .val (.int p2_5), .val (.int i90), .val (.int i91)] [(.int (0 : Int32))])) (fun t k => ?_) ?_
              · show Steps p.tables e below (T92.setTop (mkF m 57 #[.val (.int p2_0), .val (.int p2_1), .val (.int p2_2), .val (.int p2_3), .val (.int p2_4), .val (.int p2_5), .val (.int i90), .val (.int i91)] [(.int i91), (.int p2_3)])) t
                refine XS.icmpYes X92.here hx rfl (pc0 := 57) (pc' := 68) rfl (hb hby d2_57) rfl (flt hc103).2.1 (by decide) (by decide) ?_
                show Steps p.tables e below (T92.setTop (mkF m 68 #[.val (.int p2_0), .val (.int p2_1), .val (.int p2_2), .val (.int p2_3), .val (.int p2_4), .val (.int p2_5), .val (.int i90), .val (.int i91)] [])) t
                refine XS.iconst X92.here hx rfl (hb hby d2_68) ?_
                show Steps p.tables e below (T92.setTop (mkF m 69 #[.val (.int p2_0), .val (.int p2_1), .val (.int p2_2), .val (.int p2_3), .val (.int p2_4), .val (.int p2_5), .val (.int i90), .val (.int i91)] [(.int (0 : Int32))])) t
                exact k
              rw [show own_F2_30_1 p2_0 p2_1 p2_2 p2_3 p2_4 p2_5 i90 i91 = (0 : Int32) from ((if_neg hc93).trans ((if_neg hc97).trans ((if_neg hc102).trans ((if_neg hc103).trans rfl))))]
              exact own_retN X92 hx (t := .boolean) Bd.returns (by simp) (hb hby d2_69) hlk (by decide) (by decide) ⟨rfl, N92, e92⟩
    by_cases hc89 : p2_0 = (2 : Int32)
    · skip
      refine own_by (T' := s₁) (g' := (mkF m 30 #[.val (.int p2_0), .val (.int p2_1), .val (.int p2_2), .val (.int p2_3), .val (.int p2_4), .val (.int p2_5), .val (.int (33 : Int32)), .val (.int (256 : Int32))] [])) (fun t k => ?_) ?_
      · show Steps p.tables e below (s₁.setTop (mkF m 9 #[.val (.int p2_0), .val (.int p2_1), .val (.int p2_2), .val (.int p2_3), .val (.int p2_4), .val (.int p2_5), .unset, .unset] [(.int (2 : Int32)), (.int p2_0)])) t
        refine XS.icmpNo X0.here hx rfl (hb hby d2_9) rfl (teq hc89).2 ?_
        show Steps p.tables e below (s₁.setTop (mkF m 12 #[.val (.int p2_0), .val (.int p2_1), .val (.int p2_2), .val (.int p2_3), .val (.int p2_4), .val (.int p2_5), .unset, .unset] [])) t
        refine XS.bipush X0.here hx rfl (hb hby d2_12) ?_
        show Steps p.tables e below (s₁.setTop (mkF m 14 #[.val (.int p2_0), .val (.int p2_1), .val (.int p2_2), .val (.int p2_3), .val (.int p2_4), .val (.int p2_5), .unset, .unset] [(.int (33 : Int32))])) t
        refine XS.istore X0.here hx rfl (hb hby d2_14) rfl (l' := #[.val (.int p2_0), .val (.int p2_1), .val (.int p2_2), .val (.int p2_3), .val (.int p2_4), .val (.int p2_5), .val (.int (33 : Int32)), .unset]) rfl ?_
        show Steps p.tables e below (s₁.setTop (mkF m 16 #[.val (.int p2_0), .val (.int p2_1), .val (.int p2_2), .val (.int p2_3), .val (.int p2_4), .val (.int p2_5), .val (.int (33 : Int32)), .unset] [])) t
        refine XS.sipush X0.here hx rfl (hb hby d2_16) ?_
        show Steps p.tables e below (s₁.setTop (mkF m 19 #[.val (.int p2_0), .val (.int p2_1), .val (.int p2_2), .val (.int p2_3), .val (.int p2_4), .val (.int p2_5), .val (.int (33 : Int32)), .unset] [(.int (256 : Int32))])) t
        refine XS.istore X0.here hx rfl (hb hby d2_19) rfl (l' := #[.val (.int p2_0), .val (.int p2_1), .val (.int p2_2), .val (.int p2_3), .val (.int p2_4), .val (.int p2_5), .val (.int (33 : Int32)), .val (.int (256 : Int32))]) rfl ?_
        show Steps p.tables e below (s₁.setTop (mkF m 21 #[.val (.int p2_0), .val (.int p2_1), .val (.int p2_2), .val (.int p2_3), .val (.int p2_4), .val (.int p2_5), .val (.int (33 : Int32)), .val (.int (256 : Int32))] [])) t
        refine XS.goto X0.here hx rfl (pc0 := 21) (pc' := 30) rfl (hb hby d2_21) (by decide) (by decide) ?_
        show Steps p.tables e below (s₁.setTop (mkF m 30 #[.val (.int p2_0), .val (.int p2_1), .val (.int p2_2), .val (.int p2_3), .val (.int p2_4), .val (.int p2_5), .val (.int (33 : Int32)), .val (.int (256 : Int32))] [])) t
        exact k
      rw [show own_F2 p2_0 p2_1 p2_2 p2_3 p2_4 p2_5 = (own_F2_30_1 p2_0 p2_1 p2_2 p2_3 p2_4 p2_5 (33 : Int32) (256 : Int32)) from ((if_pos hc88).trans ((if_pos hc89).trans rfl))]
      exact J2_1 _ _ (33 : Int32) (256 : Int32) X0 e0 N0
    · skip
      refine own_by (T' := s₁) (g' := (mkF m 30 #[.val (.int p2_0), .val (.int p2_1), .val (.int p2_2), .val (.int p2_3), .val (.int p2_4), .val (.int p2_5), .val (.int (0 : Int32)), .val (.int (0 : Int32))] [])) (fun t k => ?_) ?_
      · show Steps p.tables e below (s₁.setTop (mkF m 9 #[.val (.int p2_0), .val (.int p2_1), .val (.int p2_2), .val (.int p2_3), .val (.int p2_4), .val (.int p2_5), .unset, .unset] [(.int (2 : Int32)), (.int p2_0)])) t
        refine XS.icmpYes X0.here hx rfl (pc0 := 9) (pc' := 24) rfl (hb hby d2_9) rfl (feq hc89).2 (by decide) (by decide) ?_
        show Steps p.tables e below (s₁.setTop (mkF m 24 #[.val (.int p2_0), .val (.int p2_1), .val (.int p2_2), .val (.int p2_3), .val (.int p2_4), .val (.int p2_5), .unset, .unset] [])) t
        refine XS.iconst X0.here hx rfl (hb hby d2_24) ?_
        show Steps p.tables e below (s₁.setTop (mkF m 25 #[.val (.int p2_0), .val (.int p2_1), .val (.int p2_2), .val (.int p2_3), .val (.int p2_4), .val (.int p2_5), .unset, .unset] [(.int (0 : Int32))])) t
        refine XS.istore X0.here hx rfl (hb hby d2_25) rfl (l' := #[.val (.int p2_0), .val (.int p2_1), .val (.int p2_2), .val (.int p2_3), .val (.int p2_4), .val (.int p2_5), .val (.int (0 : Int32)), .unset]) rfl ?_
        show Steps p.tables e below (s₁.setTop (mkF m 27 #[.val (.int p2_0), .val (.int p2_1), .val (.int p2_2), .val (.int p2_3), .val (.int p2_4), .val (.int p2_5), .val (.int (0 : Int32)), .unset] [])) t
        refine XS.iconst X0.here hx rfl (hb hby d2_27) ?_
        show Steps p.tables e below (s₁.setTop (mkF m 28 #[.val (.int p2_0), .val (.int p2_1), .val (.int p2_2), .val (.int p2_3), .val (.int p2_4), .val (.int p2_5), .val (.int (0 : Int32)), .unset] [(.int (0 : Int32))])) t
        refine XS.istore X0.here hx rfl (hb hby d2_28) rfl (l' := #[.val (.int p2_0), .val (.int p2_1), .val (.int p2_2), .val (.int p2_3), .val (.int p2_4), .val (.int p2_5), .val (.int (0 : Int32)), .val (.int (0 : Int32))]) rfl ?_
        show Steps p.tables e below (s₁.setTop (mkF m 30 #[.val (.int p2_0), .val (.int p2_1), .val (.int p2_2), .val (.int p2_3), .val (.int p2_4), .val (.int p2_5), .val (.int (0 : Int32)), .val (.int (0 : Int32))] [])) t
        exact k
      rw [show own_F2 p2_0 p2_1 p2_2 p2_3 p2_4 p2_5 = (own_F2_30_1 p2_0 p2_1 p2_2 p2_3 p2_4 p2_5 (0 : Int32) (0 : Int32)) from ((if_pos hc88).trans ((if_neg hc89).trans rfl))]
      exact J2_1 _ _ (0 : Int32) (0 : Int32) X0 e0 N0
  · skip
    refine own_by (T' := s₁) (g' := (mkF m 6 #[.val (.int p2_0), .val (.int p2_1), .val (.int p2_2), .val (.int p2_3), .val (.int p2_4), .val (.int p2_5), .unset, .unset] [(.int (1 : Int32))])) (fun t k => ?_) ?_
    · show Steps p.tables e below (s₁.setTop (mkF m 2 #[.val (.int p2_0), .val (.int p2_1), .val (.int p2_2), .val (.int p2_3), .val (.int p2_4), .val (.int p2_5), .unset, .unset] [(.int (2 : Int32)), (.int p2_1)])) t
      refine XS.icmpNo X0.here hx rfl (hb hby d2_2) rfl (flt hc88).2.2.1 ?_
      show Steps p.tables e below (s₁.setTop (mkF m 5 #[.val (.int p2_0), .val (.int p2_1), .val (.int p2_2), .val (.int p2_3), .val (.int p2_4), .val (.int p2_5), .unset, .unset] [])) t
      refine XS.iconst X0.here hx rfl (hb hby d2_5) ?_
      show Steps p.tables e below (s₁.setTop (mkF m 6 #[.val (.int p2_0), .val (.int p2_1), .val (.int p2_2), .val (.int p2_3), .val (.int p2_4), .val (.int p2_5), .unset, .unset] [(.int (1 : Int32))])) t
      exact k
    rw [show own_F2 p2_0 p2_1 p2_2 p2_3 p2_4 p2_5 = (1 : Int32) from ((if_neg hc88).trans rfl)]
    exact own_retN X0 hx (t := .boolean) Bd.returns (by simp) (hb hby d2_6) hlk (by decide) (by decide) ⟨rfl, N0, e0⟩
theorem pd__IIIZZ_Z : parseMethodDescriptor "(IIIZZ)Z" = some ⟨[.int, .int, .int, .boolean, .boolean], some .boolean⟩ := by decide +kernel
theorem pd__IIIIZZ_Z : parseMethodDescriptor "(IIIIZZ)Z" = some ⟨[.int, .int, .int, .int, .boolean, .boolean], some .boolean⟩ := by decide +kernel
def own_F0_62_2 (p0_0 : Int32) (p0_1 : Int32) (p0_2 : Int32) (p0_3 : Int32) (p0_4 : Int32) (i112 : Int32) (i115 : Int32) : Int32 := (if (own_F1 p0_1 p0_2 p0_3 i112 i115 (0 : Int32) (0 : Int32)) = (own_F2 ((p0_0 &&& (2147483647 : Int32)) % (3 : Int32)) p0_1 p0_2 p0_3 i112 i115) then (1 : Int32) else (0 : Int32))
def own_F0_48_1 (p0_0 : Int32) (p0_1 : Int32) (p0_2 : Int32) (p0_3 : Int32) (p0_4 : Int32) (i112 : Int32) : Int32 := (if (p0_4 &&& (2 : Int32)) = (0 : Int32) then (own_F0_62_2 p0_0 p0_1 p0_2 p0_3 p0_4 i112 (0 : Int32)) else (own_F0_62_2 p0_0 p0_1 p0_2 p0_3 p0_4 i112 (1 : Int32)))
def own_F0_62_4 (p0_0 : Int32) (p0_1 : Int32) (p0_2 : Int32) (p0_3 : Int32) (p0_4 : Int32) (i127 : Int32) (i130 : Int32) : Int32 := (if (own_F1 p0_1 p0_2 p0_3 i127 i130 (0 : Int32) (0 : Int32)) = (own_F2 ((p0_0 &&& (2147483647 : Int32)) % (3 : Int32)) p0_1 p0_2 p0_3 i127 i130) then (1 : Int32) else (0 : Int32))
def own_F0_48_3 (p0_0 : Int32) (p0_1 : Int32) (p0_2 : Int32) (p0_3 : Int32) (p0_4 : Int32) (i127 : Int32) : Int32 := (if (p0_4 &&& (2 : Int32)) = (0 : Int32) then (own_F0_62_4 p0_0 p0_1 p0_2 p0_3 p0_4 i127 (0 : Int32)) else (own_F0_62_4 p0_0 p0_1 p0_2 p0_3 p0_4 i127 (1 : Int32)))
def own_F0_62_6 (p0_0 : Int32) (p0_1 : Int32) (p0_2 : Int32) (p0_3 : Int32) (p0_4 : Int32) (i139 : Int32) (i142 : Int32) : Int32 := (if (own_F1 p0_1 p0_2 p0_3 i139 i142 (33 : Int32) (256 : Int32)) = (own_F2 ((p0_0 &&& (2147483647 : Int32)) % (3 : Int32)) p0_1 p0_2 p0_3 i139 i142) then (1 : Int32) else (0 : Int32))
def own_F0_48_5 (p0_0 : Int32) (p0_1 : Int32) (p0_2 : Int32) (p0_3 : Int32) (p0_4 : Int32) (i139 : Int32) : Int32 := (if (p0_4 &&& (2 : Int32)) = (0 : Int32) then (own_F0_62_6 p0_0 p0_1 p0_2 p0_3 p0_4 i139 (0 : Int32)) else (own_F0_62_6 p0_0 p0_1 p0_2 p0_3 p0_4 i139 (1 : Int32)))
def own_F0 (p0_0 : Int32) (p0_1 : Int32) (p0_2 : Int32) (p0_3 : Int32) (p0_4 : Int32) : Int32 := (if ((p0_0 &&& (2147483647 : Int32)) % (3 : Int32)) = (0 : Int32) then (if (p0_4 &&& (1 : Int32)) = (0 : Int32) then (own_F0_48_1 p0_0 p0_1 p0_2 p0_3 p0_4 (0 : Int32)) else (own_F0_48_1 p0_0 p0_1 p0_2 p0_3 p0_4 (1 : Int32))) else (if ((p0_0 &&& (2147483647 : Int32)) % (3 : Int32)) = (1 : Int32) then (if (p0_4 &&& (1 : Int32)) = (0 : Int32) then (own_F0_48_3 p0_0 p0_1 p0_2 p0_3 p0_4 (0 : Int32)) else (own_F0_48_3 p0_0 p0_1 p0_2 p0_3 p0_4 (1 : Int32))) else (if (p0_4 &&& (1 : Int32)) = (0 : Int32) then (own_F0_48_5 p0_0 p0_1 p0_2 p0_3 p0_4 (0 : Int32)) else (own_F0_48_5 p0_0 p0_1 p0_2 p0_3 p0_4 (1 : Int32)))))
theorem own_ef0 (m : MethodId) (x0 : Int32) (x1 : Int32) (x2 : Int32) (x3 : Int32) (x4 : Int32) : entryFrame m #[(.int x0), (.int x1), (.int x2), (.int x3), (.int x4)] maxLocals = mkF m 0 #[.val (.int x0), .val (.int x1), .val (.int x2), .val (.int x3), .val (.int x4), .unset, .unset, .unset, .unset, .unset] [] := by first | (simp [entryFrame, mkF, argsToLocals, Value.category, maxLocals]; done) | rfl
def own_Q0 (r : Int32) (h0 : Heap) (n0 : Nat) (v : Option Value) (h : Heap) (L : List Loc) : Prop := v = some (.int r) ∧ Fr n0 L
set_option maxRecDepth 65536 in
set_option maxHeartbeats 40000000 in
theorem own_rm0 (l : Launch) (Z : State) (a0 : Array Value) (hw : ∀ d ∈ tables_1, d.before a0 Z = true) (ws : List Jvm.Cond) (p0_0 : Int32) (p0_1 : Int32) (p0_2 : Int32) (p0_3 : Int32) (p0_4 : Int32) (wCOARSE : Addr) (wDEEP : Addr) (wFINE : Addr) (h0 : Heap) (n0 : Nat) (Z0 : n0 ≤ h0.size) (O0 : Old Z n0 h0) (EN : own_EN Z wCOARSE wDEEP wFINE) :
    MetFree l x (head1 (Jvm.Cond.code x code maxLocals ret :: ws) room_1) (fun a U => a = #[(.int p0_0), (.int p0_1), (.int p0_2), (.int p0_3), (.int p0_4)] ∧ Z.Warmed39 U.vm ∧ U.heap = h0) (fun _ _ _ _ _ => True) (fun _ U o U' => ∃ v L, o = .returned v ∧ own_Q0 (own_F0 p0_0 p0_1 p0_2 p0_3 p0_4) h0 n0 v U'.heap L ∧ FrameEnd U o U' L room_1.cells room_1.slots) := by
  refine MetFree.of_bodySF (plainFor_of_name pn_com_example_rundown_rundown_symbolic_PrecisionIsExactPinLaw) hisR ?_
  intro p e s m args below meth c s₁ Bd hml0 hP hK
  obtain ⟨rfl, hZ, hh⟩ := hP
  have hx := Bd.exec
  have hby := Bd.bytes
  have hlk : meth.locks = false := BodyLoose.notSynchronized Bd
  have hml : c.maxLocals = 10 := hml0
  have hown : s.vm.findClass "com/example/rundown/rundown/symbolic/PrecisionIsExactPinLaw" = some m.cls := findClass_of_methodNamed Bd.named
  have hnm := (name_of_methodNamed Bd.named Bd.method).1
  have X0 : Stand p l e room_1 s m #[(.int p0_0), (.int p0_1), (.int p0_2), (.int p0_3), (.int p0_4)] below meth c s₁ [] 0 0 := Stand.of_body Bd
  have e0 : s₁.heap = h0 := by rw [← hh, Bd.state]; rfl
  have N0 := Fr.nil n0
  show own_Go p e below (own_P s below room_1 (own_Q0 (own_F0 p0_0 p0_1 p0_2 p0_3 p0_4) h0 n0)) s₁ (entryFrame m #[(.int p0_0), (.int p0_1), (.int p0_2), (.int p0_3), (.int p0_4)] maxLocals)
  refine own_in (own_ef0 m p0_0 p0_1 p0_2 p0_3 p0_4) ?_
  refine own_by (T' := s₁) (g' := (mkF m 10 #[.val (.int p0_0), .val (.int p0_1), .val (.int p0_2), .val (.int p0_3), .val (.int p0_4), .val (.int ((p0_0 &&& (2147483647 : Int32)) % (3 : Int32))), .unset, .unset, .unset, .unset] [(.int ((p0_0 &&& (2147483647 : Int32)) % (3 : Int32)))])) (fun t k => ?_) ?_
  · show Steps p.tables e below (s₁.setTop (mkF m 0 #[.val (.int p0_0), .val (.int p0_1), .val (.int p0_2), .val (.int p0_3), .val (.int p0_4), .unset, .unset, .unset, .unset, .unset] [])) t
    refine XS.iloadN X0.here hx rfl (hb hby at_0) rfl ?_
    show Steps p.tables e below (s₁.setTop (mkF m 1 #[.val (.int p0_0), .val (.int p0_1), .val (.int p0_2), .val (.int p0_3), .val (.int p0_4), .unset, .unset, .unset, .unset, .unset] [(.int p0_0)])) t
    refine X0.ldcInt hx hown (mvT hZ (hw _ (List.mem_of_getElem? (i := 0) rfl))) (g := (mkF m 1 #[.val (.int p0_0), .val (.int p0_1), .val (.int p0_2), .val (.int p0_3), .val (.int p0_4), .unset, .unset, .unset, .unset, .unset] [(.int p0_0)])) rfl (hb hby at_1) _ ?_
    show Steps p.tables e below (s₁.setTop (mkF m 3 #[.val (.int p0_0), .val (.int p0_1), .val (.int p0_2), .val (.int p0_3), .val (.int p0_4), .unset, .unset, .unset, .unset, .unset] [(.int (2147483647 : Int32)), (.int p0_0)])) t
    refine XS.iand X0.here hx rfl (hb hby at_3) rfl ?_
    show Steps p.tables e below (s₁.setTop (mkF m 4 #[.val (.int p0_0), .val (.int p0_1), .val (.int p0_2), .val (.int p0_3), .val (.int p0_4), .unset, .unset, .unset, .unset, .unset] [(.int (p0_0 &&& (2147483647 : Int32)))])) t
    refine XS.iconst X0.here hx rfl (hb hby at_4) ?_
    show Steps p.tables e below (s₁.setTop (mkF m 5 #[.val (.int p0_0), .val (.int p0_1), .val (.int p0_2), .val (.int p0_3), .val (.int p0_4), .unset, .unset, .unset, .unset, .unset] [(.int (3 : Int32)), (.int (p0_0 &&& (2147483647 : Int32)))])) t
    refine iremM (g := (mkF m 5 #[.val (.int p0_0), .val (.int p0_1), .val (.int p0_2), .val (.int p0_3), .val (.int p0_4), .unset, .unset, .unset, .unset, .unset] [(.int (3 : Int32)), (.int (p0_0 &&& (2147483647 : Int32)))])) X0 hx rfl (hb hby at_5) rfl (by decide) ?_
    show Steps p.tables e below (s₁.setTop (mkF m 6 #[.val (.int p0_0), .val (.int p0_1), .val (.int p0_2), .val (.int p0_3), .val (.int p0_4), .unset, .unset, .unset, .unset, .unset] [(.int ((p0_0 &&& (2147483647 : Int32)) % (3 : Int32)))])) t
    refine XS.istore X0.here hx rfl (hb hby at_6) rfl (l' := #[.val (.int p0_0), .val (.int p0_1), .val (.int p0_2), .val (.int p0_3), .val (.int p0_4), .val (.int ((p0_0 &&& (2147483647 : Int32)) % (3 : Int32))), .unset, .unset, .unset, .unset]) rfl ?_
    show Steps p.tables e below (s₁.setTop (mkF m 8 #[.val (.int p0_0), .val (.int p0_1), .val (.int p0_2), .val (.int p0_3), .val (.int p0_4), .val (.int ((p0_0 &&& (2147483647 : Int32)) % (3 : Int32))), .unset, .unset, .unset, .unset] [])) t
    refine XS.iload X0.here hx rfl (hb hby at_8) rfl ?_
    show Steps p.tables e below (s₁.setTop (mkF m 10 #[.val (.int p0_0), .val (.int p0_1), .val (.int p0_2), .val (.int p0_3), .val (.int p0_4), .val (.int ((p0_0 &&& (2147483647 : Int32)) % (3 : Int32))), .unset, .unset, .unset, .unset] [(.int ((p0_0 &&& (2147483647 : Int32)) % (3 : Int32)))])) t
    exact k
  by_cases hc105 : ((p0_0 &&& (2147483647 : Int32)) % (3 : Int32)) = (0 : Int32)
  · skip
    refine own_by (T' := s₁) (g' := (mkF m 13 #[.val (.int p0_0), .val (.int p0_1), .val (.int p0_2), .val (.int p0_3), .val (.int p0_4), .val (.int ((p0_0 &&& (2147483647 : Int32)) % (3 : Int32))), .unset, .unset, .unset, .unset] [])) (fun t k => ?_) ?_
    · show Steps p.tables e below (s₁.setTop (mkF m 10 #[.val (.int p0_0), .val (.int p0_1), .val (.int p0_2), .val (.int p0_3), .val (.int p0_4), .val (.int ((p0_0 &&& (2147483647 : Int32)) % (3 : Int32))), .unset, .unset, .unset, .unset] [(.int ((p0_0 &&& (2147483647 : Int32)) % (3 : Int32)))])) t
      refine XS.ifNo X0.here hx rfl (hb hby at_10) rfl ((if0 _ _).trans (teq hc105).2) ?_
      show Steps p.tables e below (s₁.setTop (mkF m 13 #[.val (.int p0_0), .val (.int p0_1), .val (.int p0_2), .val (.int p0_3), .val (.int p0_4), .val (.int ((p0_0 &&& (2147483647 : Int32)) % (3 : Int32))), .unset, .unset, .unset, .unset] [])) t
      exact k
    obtain ⟨T110, X110, e110, st110⟩ := getS2 X0 hx hZ hown (host := "") (Or.inl (hw _ (List.mem_of_getElem? (i := 1) rfl))) Via.refl e0 (EN.1.ext O0.2) (g := (mkF m 13 #[.val (.int p0_0), .val (.int p0_1), .val (.int p0_2), .val (.int p0_3), .val (.int p0_4), .val (.int ((p0_0 &&& (2147483647 : Int32)) % (3 : Int32))), .unset, .unset, .unset, .unset] [])) rfl (hb hby at_13)
    refine own_by (T' := T110) (g' := (mkF m 16 #[.val (.int p0_0), .val (.int p0_1), .val (.int p0_2), .val (.int p0_3), .val (.int p0_4), .val (.int ((p0_0 &&& (2147483647 : Int32)) % (3 : Int32))), .unset, .unset, .unset, .unset] [(.ref wCOARSE)])) st110 ?_
    refine own_by (T' := T110) (g' := (mkF m 40 #[.val (.int p0_0), .val (.int p0_1), .val (.int p0_2), .val (.int p0_3), .val (.int p0_4), .val (.int ((p0_0 &&& (2147483647 : Int32)) % (3 : Int32))), .val (.ref wCOARSE), .unset, .unset, .unset] [(.int (p0_4 &&& (1 : Int32)))])) (fun t k => ?_) ?_
    · show Steps p.tables e below (T110.setTop (mkF m 16 #[.val (.int p0_0), .val (.int p0_1), .val (.int p0_2), .val (.int p0_3), .val (.int p0_4), .val (.int ((p0_0 &&& (2147483647 : Int32)) % (3 : Int32))), .unset, .unset, .unset, .unset] [(.ref wCOARSE)])) t
      refine XS.goto X110.here hx rfl (pc0 := 16) (pc' := 34) rfl (hb hby at_16) (by decide) (by decide) ?_
      show Steps p.tables e below (T110.setTop (mkF m 34 #[.val (.int p0_0), .val (.int p0_1), .val (.int p0_2), .val (.int p0_3), .val (.int p0_4), .val (.int ((p0_0 &&& (2147483647 : Int32)) % (3 : Int32))), .unset, .unset, .unset, .unset] [(.ref wCOARSE)])) t
      refine XS.astore X110.here hx rfl (hb hby at_34) rfl rfl (l' := #[.val (.int p0_0), .val (.int p0_1), .val (.int p0_2), .val (.int p0_3), .val (.int p0_4), .val (.int ((p0_0 &&& (2147483647 : Int32)) % (3 : Int32))), .val (.ref wCOARSE), .unset, .unset, .unset]) rfl ?_
      show Steps p.tables e below (T110.setTop (mkF m 36 #[.val (.int p0_0), .val (.int p0_1), .val (.int p0_2), .val (.int p0_3), .val (.int p0_4), .val (.int ((p0_0 &&& (2147483647 : Int32)) % (3 : Int32))), .val (.ref wCOARSE), .unset, .unset, .unset] [])) t
      refine XS.iload X110.here hx rfl (hb hby at_36) rfl ?_
      show Steps p.tables e below (T110.setTop (mkF m 38 #[.val (.int p0_0), .val (.int p0_1), .val (.int p0_2), .val (.int p0_3), .val (.int p0_4), .val (.int ((p0_0 &&& (2147483647 : Int32)) % (3 : Int32))), .val (.ref wCOARSE), .unset, .unset, .unset] [(.int p0_4)])) t
      refine XS.iconst X110.here hx rfl (hb hby at_38) ?_
      show Steps p.tables e below (T110.setTop (mkF m 39 #[.val (.int p0_0), .val (.int p0_1), .val (.int p0_2), .val (.int p0_3), .val (.int p0_4), .val (.int ((p0_0 &&& (2147483647 : Int32)) % (3 : Int32))), .val (.ref wCOARSE), .unset, .unset, .unset] [(.int (1 : Int32)), (.int p0_4)])) t
      refine XS.iand X110.here hx rfl (hb hby at_39) rfl ?_
      show Steps p.tables e below (T110.setTop (mkF m 40 #[.val (.int p0_0), .val (.int p0_1), .val (.int p0_2), .val (.int p0_3), .val (.int p0_4), .val (.int ((p0_0 &&& (2147483647 : Int32)) % (3 : Int32))), .val (.ref wCOARSE), .unset, .unset, .unset] [(.int (p0_4 &&& (1 : Int32)))])) t
      exact k
    have J0_1 : ∀ (T113 : State) (L113 : List Loc) (i112 : Int32), Stand p l e room_1 s m #[(.int p0_0), (.int p0_1), (.int p0_2), (.int p0_3), (.int p0_4)] below meth c T113 L113 0 0 → T113.heap = h0 → Fr n0 L113 → own_Go p e below (own_P s below room_1 (own_Q0 (own_F0_48_1 p0_0 p0_1 p0_2 p0_3 p0_4 i112) h0 n0)) T113 (mkF m 48 #[.val (.int p0_0), .val (.int p0_1), .val (.int p0_2), .val (.int p0_3), .val (.int p0_4), .val (.int ((p0_0 &&& (2147483647 : Int32)) % (3 : Int32))), .val (.ref wCOARSE), .unset, .unset, .unset] [(.int i112)]) := by
      intro T113 L113 i112 X113 e113 N113
      refine own_by (T' := T113) (g' := (mkF m 54 #[.val (.int p0_0), .val (.int p0_1), .val (.int p0_2), .val (.int p0_3), .val (.int p0_4), .val (.int ((p0_0 &&& (2147483647 : Int32)) % (3 : Int32))), .val (.ref wCOARSE), .val (.int i112), .unset, .unset] [(.int (p0_4 &&& (2 : Int32)))])) (fun t k => ?_) ?_
      · show Steps p.tables e below (T113.setTop (mkF m 48 #[.val (.int p0_0), .val (.int p0_1), .val (.int p0_2), .val (.int p0_3), .val (.int p0_4), .val (.int ((p0_0 &&& (2147483647 : Int32)) % (3 : Int32))), .val (.ref wCOARSE), .unset, .unset, .unset] [(.int i112)])) t
        refine XS.istore X113.here hx rfl (hb hby at_48) rfl (l' := #[.val (.int p0_0), .val (.int p0_1), .val (.int p0_2), .val (.int p0_3), .val (.int p0_4), .val (.int ((p0_0 &&& (2147483647 : Int32)) % (3 : Int32))), .val (.ref wCOARSE), .val (.int i112), .unset, .unset]) rfl ?_
        show Steps p.tables e below (T113.setTop (mkF m 50 #[.val (.int p0_0), .val (.int p0_1), .val (.int p0_2), .val (.int p0_3), .val (.int p0_4), .val (.int ((p0_0 &&& (2147483647 : Int32)) % (3 : Int32))), .val (.ref wCOARSE), .val (.int i112), .unset, .unset] [])) t
        refine XS.iload X113.here hx rfl (hb hby at_50) rfl ?_
        show Steps p.tables e below (T113.setTop (mkF m 52 #[.val (.int p0_0), .val (.int p0_1), .val (.int p0_2), .val (.int p0_3), .val (.int p0_4), .val (.int ((p0_0 &&& (2147483647 : Int32)) % (3 : Int32))), .val (.ref wCOARSE), .val (.int i112), .unset, .unset] [(.int p0_4)])) t
        refine XS.iconst X113.here hx rfl (hb hby at_52) ?_
        show Steps p.tables e below (T113.setTop (mkF m 53 #[.val (.int p0_0), .val (.int p0_1), .val (.int p0_2), .val (.int p0_3), .val (.int p0_4), .val (.int ((p0_0 &&& (2147483647 : Int32)) % (3 : Int32))), .val (.ref wCOARSE), .val (.int i112), .unset, .unset] [(.int (2 : Int32)), (.int p0_4)])) t
        refine XS.iand X113.here hx rfl (hb hby at_53) rfl ?_
        show Steps p.tables e below (T113.setTop (mkF m 54 #[.val (.int p0_0), .val (.int p0_1), .val (.int p0_2), .val (.int p0_3), .val (.int p0_4), .val (.int ((p0_0 &&& (2147483647 : Int32)) % (3 : Int32))), .val (.ref wCOARSE), .val (.int i112), .unset, .unset] [(.int (p0_4 &&& (2 : Int32)))])) t
        exact k
      have J0_2 : ∀ (T116 : State) (L116 : List Loc) (i115 : Int32), Stand p l e room_1 s m #[(.int p0_0), (.int p0_1), (.int p0_2), (.int p0_3), (.int p0_4)] below meth c T116 L116 0 0 → T116.heap = h0 → Fr n0 L116 → own_Go p e below (own_P s below room_1 (own_Q0 (own_F0_62_2 p0_0 p0_1 p0_2 p0_3 p0_4 i112 i115) h0 n0)) T116 (mkF m 62 #[.val (.int p0_0), .val (.int p0_1), .val (.int p0_2), .val (.int p0_3), .val (.int p0_4), .val (.int ((p0_0 &&& (2147483647 : Int32)) % (3 : Int32))), .val (.ref wCOARSE), .val (.int i112), .unset, .unset] [(.int i115)]) := by
        intro T116 L116 i115 X116 e116 N116
        refine own_by (T' := T116) (g' := (mkF m 73 #[.val (.int p0_0), .val (.int p0_1), .val (.int p0_2), .val (.int p0_3), .val (.int p0_4), .val (.int ((p0_0 &&& (2147483647 : Int32)) % (3 : Int32))), .val (.ref wCOARSE), .val (.int i112), .val (.int i115), .unset] [(.int i115), (.int i112), (.int p0_3), (.int p0_2), (.int p0_1), (.ref wCOARSE)])) (fun t k => ?_) ?_
        · show Steps p.tables e below (T116.setTop (mkF m 62 #[.val (.int p0_0), .val (.int p0_1), .val (.int p0_2), .val (.int p0_3), .val (.int p0_4), .val (.int ((p0_0 &&& (2147483647 : Int32)) % (3 : Int32))), .val (.ref wCOARSE), .val (.int i112), .unset, .unset] [(.int i115)])) t
          refine XS.istore X116.here hx rfl (hb hby at_62) rfl (l' := #[.val (.int p0_0), .val (.int p0_1), .val (.int p0_2), .val (.int p0_3), .val (.int p0_4), .val (.int ((p0_0 &&& (2147483647 : Int32)) % (3 : Int32))), .val (.ref wCOARSE), .val (.int i112), .val (.int i115), .unset]) rfl ?_
          show Steps p.tables e below (T116.setTop (mkF m 64 #[.val (.int p0_0), .val (.int p0_1), .val (.int p0_2), .val (.int p0_3), .val (.int p0_4), .val (.int ((p0_0 &&& (2147483647 : Int32)) % (3 : Int32))), .val (.ref wCOARSE), .val (.int i112), .val (.int i115), .unset] [])) t
          refine XS.aload X116.here hx rfl (hb hby at_64) rfl rfl ?_
          show Steps p.tables e below (T116.setTop (mkF m 66 #[.val (.int p0_0), .val (.int p0_1), .val (.int p0_2), .val (.int p0_3), .val (.int p0_4), .val (.int ((p0_0 &&& (2147483647 : Int32)) % (3 : Int32))), .val (.ref wCOARSE), .val (.int i112), .val (.int i115), .unset] [(.ref wCOARSE)])) t
          refine XS.iloadN X116.here hx rfl (hb hby at_66) rfl ?_
          show Steps p.tables e below (T116.setTop (mkF m 67 #[.val (.int p0_0), .val (.int p0_1), .val (.int p0_2), .val (.int p0_3), .val (.int p0_4), .val (.int ((p0_0 &&& (2147483647 : Int32)) % (3 : Int32))), .val (.ref wCOARSE), .val (.int i112), .val (.int i115), .unset] [(.int p0_1), (.ref wCOARSE)])) t
          refine XS.iloadN X116.here hx rfl (hb hby at_67) rfl ?_
          show Steps p.tables e below (T116.setTop (mkF m 68 #[.val (.int p0_0), .val (.int p0_1), .val (.int p0_2), .val (.int p0_3), .val (.int p0_4), .val (.int ((p0_0 &&& (2147483647 : Int32)) % (3 : Int32))), .val (.ref wCOARSE), .val (.int i112), .val (.int i115), .unset] [(.int p0_2), (.int p0_1), (.ref wCOARSE)])) t
          refine XS.iloadN X116.here hx rfl (hb hby at_68) rfl ?_
          show Steps p.tables e below (T116.setTop (mkF m 69 #[.val (.int p0_0), .val (.int p0_1), .val (.int p0_2), .val (.int p0_3), .val (.int p0_4), .val (.int ((p0_0 &&& (2147483647 : Int32)) % (3 : Int32))), .val (.ref wCOARSE), .val (.int i112), .val (.int i115), .unset] [(.int p0_3), (.int p0_2), (.int p0_1), (.ref wCOARSE)])) t
          refine XS.iload X116.here hx rfl (hb hby at_69) rfl ?_
          show Steps p.tables e below (T116.setTop (mkF m 71 #[.val (.int p0_0), .val (.int p0_1), .val (.int p0_2), .val (.int p0_3), .val (.int p0_4), .val (.int ((p0_0 &&& (2147483647 : Int32)) % (3 : Int32))), .val (.ref wCOARSE), .val (.int i112), .val (.int i115), .unset] [(.int i112), (.int p0_3), (.int p0_2), (.int p0_1), (.ref wCOARSE)])) t
          refine XS.iload X116.here hx rfl (hb hby at_71) rfl ?_
          show Steps p.tables e below (T116.setTop (mkF m 73 #[.val (.int p0_0), .val (.int p0_1), .val (.int p0_2), .val (.int p0_3), .val (.int p0_4), .val (.int ((p0_0 &&& (2147483647 : Int32)) % (3 : Int32))), .val (.ref wCOARSE), .val (.int i112), .val (.int i115), .unset] [(.int i115), (.int i112), (.int p0_3), (.int p0_2), (.int p0_1), (.ref wCOARSE)])) t
          exact k
        obtain ⟨cq117, kq117, q117a, q117b, q117c⟩ := isOf hZ e116 (EN.2.1.ext O0.2)
        obtain ⟨v117, _, ⟨T117, L117, k117, n117⟩, -, X117, ⟨Lc117, hQ117, l117, y117, z117⟩, st117⟩ := X116.virtualBack hx (y := (⟨"com/example/rundown/rundown/symbolic/Precision", "isExact", "(IIIZZ)Z"⟩ : MethodName)) (z := (⟨"com/example/rundown/rundown/symbolic/Precision", "isExact", "(IIIZZ)Z"⟩ : MethodName)) hown (mvT hZ (hw _ (List.mem_of_getElem? (i := 4) rfl))) (mvT hZ (hw _ (List.mem_of_getElem? (i := 5) rfl))) (notFace_of_selects (args := #[]) (mvT hZ (hw _ (List.mem_of_getElem? (i := 7) rfl)))) (mvT hZ (hw _ (List.mem_of_getElem? (i := 7) rfl))) (mvT hZ (hw _ (List.mem_of_getElem? (i := 6) rfl))) (by decide) (backOf (W := 0) (own_rm1 l Z a0 hw [] wCOARSE p0_1 p0_2 p0_3 i112 i115 (0 : Int32) (0 : Int32) h0 n0 Z0 (EN.2.2.1.ext O0.2) (EN.2.2.2.1.ext O0.2)) hZ (hw _ (List.mem_of_getElem? (i := 8) rfl)) (hw _ (List.mem_of_getElem? (i := 2) rfl)) (by decide) (by decide)) q117a q117c (g := (mkF m 73 #[.val (.int p0_0), .val (.int p0_1), .val (.int p0_2), .val (.int p0_3), .val (.int p0_4), .val (.int ((p0_0 &&& (2147483647 : Int32)) % (3 : Int32))), .val (.ref wCOARSE), .val (.int i112), .val (.int i115), .unset] [(.int i115), (.int i112), (.int p0_3), (.int p0_2), (.int p0_1), (.ref wCOARSE)])) rfl (by rw [hml]; rfl) (Steps.refl _) (argsL := [(.int p0_1), (.int p0_2), (.int p0_3), (.int i112), (.int i115)]) (rest := []) (lenOf pd__IIIZZ_Z rfl) rfl (by show 2 * 0 + _ ≤ _; exact Nat.le_of_eq rfl) (hb hby at_73) (fun _ _ => ⟨rfl, e116, (by decide : 0 + 0 ≤ _), (by decide : 0 + 0 ≤ _)⟩)
        dsimp only [Pt.U, Pt.locs, Pt.cells, Pt.slots] at X117 l117 y117 z117 st117 hQ117
        subst l117 y117 z117
        obtain ⟨rfl, M117, e117⟩ := hQ117
        have N118 := Fr.app N116 M117
        refine own_via (T' := T117) (g' := (mkF m 76 #[.val (.int p0_0), .val (.int p0_1), .val (.int p0_2), .val (.int p0_3), .val (.int p0_4), .val (.int ((p0_0 &&& (2147483647 : Int32)) % (3 : Int32))), .val (.ref wCOARSE), .val (.int i112), .val (.int i115), .unset] [(.int (own_F1 p0_1 p0_2 p0_3 i112 i115 (0 : Int32) (0 : Int32)))])) st117 ?_
        refine own_by (T' := T117) (g' := (mkF m 89 #[.val (.int p0_0), .val (.int p0_1), .val (.int p0_2), .val (.int p0_3), .val (.int p0_4), .val (.int ((p0_0 &&& (2147483647 : Int32)) % (3 : Int32))), .val (.ref wCOARSE), .val (.int i112), .val (.int i115), .val (.int (own_F1 p0_1 p0_2 p0_3 i112 i115 (0 : Int32) (0 : Int32)))] [(.int i115), (.int i112), (.int p0_3), (.int p0_2), (.int p0_1), (.int ((p0_0 &&& (2147483647 : Int32)) % (3 : Int32))), (.int (own_F1 p0_1 p0_2 p0_3 i112 i115 (0 : Int32) (0 : Int32)))])) (fun t k => ?_) ?_
        · show Steps p.tables e below (T117.setTop (mkF m 76 #[.val (.int p0_0), .val (.int p0_1), .val (.int p0_2), .val (.int p0_3), .val (.int p0_4), .val (.int ((p0_0 &&& (2147483647 : Int32)) % (3 : Int32))), .val (.ref wCOARSE), .val (.int i112), .val (.int i115), .unset] [(.int (own_F1 p0_1 p0_2 p0_3 i112 i115 (0 : Int32) (0 : Int32)))])) t
          refine XS.istore X117.here hx rfl (hb hby at_76) rfl (l' := #[.val (.int p0_0), .val (.int p0_1), .val (.int p0_2), .val (.int p0_3), .val (.int p0_4), .val (.int ((p0_0 &&& (2147483647 : Int32)) % (3 : Int32))), .val (.ref wCOARSE), .val (.int i112), .val (.int i115), .val (.int (own_F1 p0_1 p0_2 p0_3 i112 i115 (0 : Int32) (0 : Int32)))]) rfl ?_
          show Steps p.tables e below (T117.setTop (mkF m 78 #[.val (.int p0_0), .val (.int p0_1), .val (.int p0_2), .val (.int p0_3), .val (.int p0_4), .val (.int ((p0_0 &&& (2147483647 : Int32)) % (3 : Int32))), .val (.ref wCOARSE), .val (.int i112), .val (.int i115), .val (.int (own_F1 p0_1 p0_2 p0_3 i112 i115 (0 : Int32) (0 : Int32)))] [])) t
          refine XS.iload X117.here hx rfl (hb hby at_78) rfl ?_
          show Steps p.tables e below (T117.setTop (mkF m 80 #[.val (.int p0_0), .val (.int p0_1), .val (.int p0_2), .val (.int p0_3), .val (.int p0_4), .val (.int ((p0_0 &&& (2147483647 : Int32)) % (3 : Int32))), .val (.ref wCOARSE), .val (.int i112), .val (.int i115), .val (.int (own_F1 p0_1 p0_2 p0_3 i112 i115 (0 : Int32) (0 : Int32)))] [(.int (own_F1 p0_1 p0_2 p0_3 i112 i115 (0 : Int32) (0 : Int32)))])) t
          refine XS.iload X117.here hx rfl (hb hby at_80) rfl ?_
          show Steps p.tables e below (T117.setTop (mkF m 82 #[.val (.int p0_0), .val (.int p0_1), .val (.int p0_2), .val (.int p0_3), .val (.int p0_4), .val (.int ((p0_0 &&& (2147483647 : Int32)) % (3 : Int32))), .val (.ref wCOARSE), .val (.int i112), .val (.int i115), .val (.int (own_F1 p0_1 p0_2 p0_3 i112 i115 (0 : Int32) (0 : Int32)))] [(.int ((p0_0 &&& (2147483647 : Int32)) % (3 : Int32))), (.int (own_F1 p0_1 p0_2 p0_3 i112 i115 (0 : Int32) (0 : Int32)))])) t
          refine XS.iloadN X117.here hx rfl (hb hby at_82) rfl ?_
          show Steps p.tables e below (T117.setTop (mkF m 83 #[.val (.int p0_0), .val (.int p0_1), .val (.int p0_2), .val (.int p0_3), .val (.int p0_4), .val (.int ((p0_0 &&& (2147483647 : Int32)) % (3 : Int32))), .val (.ref wCOARSE), .val (.int i112), .val (.int i115), .val (.int (own_F1 p0_1 p0_2 p0_3 i112 i115 (0 : Int32) (0 : Int32)))] [(.int p0_1), (.int ((p0_0 &&& (2147483647 : Int32)) % (3 : Int32))), (.int (own_F1 p0_1 p0_2 p0_3 i112 i115 (0 : Int32) (0 : Int32)))])) t
          refine XS.iloadN X117.here hx rfl (hb hby at_83) rfl ?_
          show Steps p.tables e below (T117.setTop (mkF m 84 #[.val (.int p0_0), .val (.int p0_1), .val (.int p0_2), .val (.int p0_3), .val (.int p0_4), .val (.int ((p0_0 &&& (2147483647 : Int32)) % (3 : Int32))), .val (.ref wCOARSE), .val (.int i112), .val (.int i115), .val (.int (own_F1 p0_1 p0_2 p0_3 i112 i115 (0 : Int32) (0 : Int32)))] [(.int p0_2), (.int p0_1), (.int ((p0_0 &&& (2147483647 : Int32)) % (3 : Int32))), (.int (own_F1 p0_1 p0_2 p0_3 i112 i115 (0 : Int32) (0 : Int32)))])) t
          refine XS.iloadN X117.here hx rfl (hb hby at_84) rfl ?_
          show Steps p.tables e below (T117.setTop (mkF m 85 #[.val (.int p0_0), .val (.int p0_1), .val (.int p0_2), .val (.int p0_3), .val (.int p0_4), .val (.int ((p0_0 &&& (2147483647 : Int32)) % (3 : Int32))), .val (.ref wCOARSE), .val (.int i112), .val (.int i115), .val (.int (own_F1 p0_1 p0_2 p0_3 i112 i115 (0 : Int32) (0 : Int32)))] [(.int p0_3), (.int p0_2), (.int p0_1), (.int ((p0_0 &&& (2147483647 : Int32)) % (3 : Int32))), (.int (own_F1 p0_1 p0_2 p0_3 i112 i115 (0 : Int32) (0 : Int32)))])) t
          refine XS.iload X117.here hx rfl (hb hby at_85) rfl ?_
          show Steps p.tables e below (T117.setTop (mkF m 87 #[.val (.int p0_0), .val (.int p0_1), .val (.int p0_2), .val (.int p0_3), .val (.int p0_4), .val (.int ((p0_0 &&& (2147483647 : Int32)) % (3 : Int32))), .val (.ref wCOARSE), .val (.int i112), .val (.int i115), .val (.int (own_F1 p0_1 p0_2 p0_3 i112 i115 (0 : Int32) (0 : Int32)))] [(.int i112), (.int p0_3), (.int p0_2), (.int p0_1), (.int ((p0_0 &&& (2147483647 : Int32)) % (3 : Int32))), (.int (own_F1 p0_1 p0_2 p0_3 i112 i115 (0 : Int32) (0 : Int32)))])) t
          refine XS.iload X117.here hx rfl (hb hby at_87) rfl ?_
          show Steps p.tables e below (T117.setTop (mkF m 89 #[.val (.int p0_0), .val (.int p0_1), .val (.int p0_2), .val (.int p0_3), .val (.int p0_4), .val (.int ((p0_0 &&& (2147483647 : Int32)) % (3 : Int32))), .val (.ref wCOARSE), .val (.int i112), .val (.int i115), .val (.int (own_F1 p0_1 p0_2 p0_3 i112 i115 (0 : Int32) (0 : Int32)))] [(.int i115), (.int i112), (.int p0_3), (.int p0_2), (.int p0_1), (.int ((p0_0 &&& (2147483647 : Int32)) % (3 : Int32))), (.int (own_F1 p0_1 p0_2 p0_3 i112 i115 (0 : Int32) (0 : Int32)))])) t
          exact k
        obtain ⟨v119, _, ⟨T119, L119, k119, n119⟩, -, X119, ⟨Lc119, hQ119, l119, y119, z119⟩, st119⟩ := Jvm.LawKit.callS X117 hx (y := (⟨"com/example/rundown/rundown/symbolic/PrecisionIsExactPinLaw", "expected", "(IIIIZZ)Z"⟩ : MethodName)) hown (mvT hZ (hw _ (List.mem_of_getElem? (i := 13) rfl))) (mvT hZ (hw _ (List.mem_of_getElem? (i := 14) rfl))) (mvT hZ (hw _ (List.mem_of_getElem? (i := 15) rfl))) (mvT hZ (hw _ (List.mem_of_getElem? (i := 16) rfl))) (by decide) (backOf (W := 1) (own_rm2 l Z a0 hw [] ((p0_0 &&& (2147483647 : Int32)) % (3 : Int32)) p0_1 p0_2 p0_3 i112 i115 h0 n0 Z0) hZ (hw _ (List.mem_of_getElem? (i := 16) rfl)) (hw _ (List.mem_of_getElem? (i := 15) rfl)) (by decide) (by decide)) (g := (mkF m 89 #[.val (.int p0_0), .val (.int p0_1), .val (.int p0_2), .val (.int p0_3), .val (.int p0_4), .val (.int ((p0_0 &&& (2147483647 : Int32)) % (3 : Int32))), .val (.ref wCOARSE), .val (.int i112), .val (.int i115), .val (.int (own_F1 p0_1 p0_2 p0_3 i112 i115 (0 : Int32) (0 : Int32)))] [(.int i115), (.int i112), (.int p0_3), (.int p0_2), (.int p0_1), (.int ((p0_0 &&& (2147483647 : Int32)) % (3 : Int32))), (.int (own_F1 p0_1 p0_2 p0_3 i112 i115 (0 : Int32) (0 : Int32)))])) rfl (by rw [hml]; rfl) (argsL := [(.int ((p0_0 &&& (2147483647 : Int32)) % (3 : Int32))), (.int p0_1), (.int p0_2), (.int p0_3), (.int i112), (.int i115)]) (rest := [(.int (own_F1 p0_1 p0_2 p0_3 i112 i115 (0 : Int32) (0 : Int32)))]) (lenOf pd__IIIIZZ_Z rfl) rfl (by show 2 * 0 + _ ≤ _; exact Nat.le_of_eq rfl) (hb hby at_89) (fun _ _ => ⟨rfl, e117, (by decide : 0 + 0 ≤ _), (by decide : 0 + 0 ≤ _)⟩)
        dsimp only [Pt.U, Pt.locs, Pt.cells, Pt.slots] at X119 l119 y119 z119 st119 hQ119
        subst l119 y119 z119
        obtain ⟨rfl, M119, e119⟩ := hQ119
        have N120 := Fr.app N118 M119
        refine own_by (T' := T119) (g' := (mkF m 92 #[.val (.int p0_0), .val (.int p0_1), .val (.int p0_2), .val (.int p0_3), .val (.int p0_4), .val (.int ((p0_0 &&& (2147483647 : Int32)) % (3 : Int32))), .val (.ref wCOARSE), .val (.int i112), .val (.int i115), .val (.int (own_F1 p0_1 p0_2 p0_3 i112 i115 (0 : Int32) (0 : Int32)))] [(.int (own_F2 ((p0_0 &&& (2147483647 : Int32)) % (3 : Int32)) p0_1 p0_2 p0_3 i112 i115)), (.int (own_F1 p0_1 p0_2 p0_3 i112 i115 (0 : Int32) (0 : Int32)))])) st119 ?_
        by_cases hc121 : (own_F1 p0_1 p0_2 p0_3 i112 i115 (0 : Int32) (0 : Int32)) = (own_F2 ((p0_0 &&& (2147483647 : Int32)) % (3 : Int32)) p0_1 p0_2 p0_3 i112 i115)
        · skip
          refine own_by (T' := T119) (g' := (mkF m 100 #[.val (.int p0_0), .val (.int p0_1), .val (.int p0_2), .val (.int p0_3), .val (.int p0_4), .val (.int ((p0_0 &&& (2147483647 : Int32)) % (3 : Int32))), .val (.ref wCOARSE), .val (.int i112), .val (.int i115), .val (.int (own_F1 p0_1 p0_2 p0_3 i112 i115 (0 : Int32) (0 : Int32)))] [(.int (1 : Int32))])) (fun t k => ?_) ?_
          · show Steps p.tables e below (T119.setTop (mkF m 92 #[.val (.int p0_0), .val (.int p0_1), .val (.int p0_2), .val (.int p0_3), .val (.int p0_4), .val (.int ((p0_0 &&& (2147483647 : Int32)) % (3 : Int32))), .val (.ref wCOARSE), .val (.int i112), .val (.int i115), .val (.int (own_F1 p0_1 p0_2 p0_3 i112 i115 (0 : Int32) (0 : Int32)))] [(.int (own_F2 ((p0_0 &&& (2147483647 : Int32)) % (3 : Int32)) p0_1 p0_2 p0_3 i112 i115)), (.int (own_F1 p0_1 p0_2 p0_3 i112 i115 (0 : Int32) (0 : Int32)))])) t
            refine XS.icmpNo X119.here hx rfl (hb hby at_92) rfl (teq hc121).2 ?_
            show Steps p.tables e below (T119.setTop (mkF m 95 #[.val (.int p0_0), .val (.int p0_1), .val (.int p0_2), .val (.int p0_3), .val (.int p0_4), .val (.int ((p0_0 &&& (2147483647 : Int32)) % (3 : Int32))), .val (.ref wCOARSE), .val (.int i112), .val (.int i115), .val (.int (own_F1 p0_1 p0_2 p0_3 i112 i115 (0 : Int32) (0 : Int32)))] [])) t
            refine XS.iconst X119.here hx rfl (hb hby at_95) ?_
            show Steps p.tables e below (T119.setTop (mkF m 96 #[.val (.int p0_0), .val (.int p0_1), .val (.int p0_2), .val (.int p0_3), .val (.int p0_4), .val (.int ((p0_0 &&& (2147483647 : Int32)) % (3 : Int32))), .val (.ref wCOARSE), .val (.int i112), .val (.int i115), .val (.int (own_F1 p0_1 p0_2 p0_3 i112 i115 (0 : Int32) (0 : Int32)))] [(.int (1 : Int32))])) t
            refine XS.goto X119.here hx rfl (pc0 := 96) (pc' := 100) rfl (hb hby at_96) (by decide) (by decide) ?_
            show Steps p.tables e below (T119.setTop (mkF m 100 #[.val (.int p0_0), .val (.int p0_1), .val (.int p0_2), .val (.int p0_3), .val (.int p0_4), .val (.int ((p0_0 &&& (2147483647 : Int32)) % (3 : Int32))), .val (.ref wCOARSE), .val (.int i112), .val (.int i115), .val (.int (own_F1 p0_1 p0_2 p0_3 i112 i115 (0 : Int32) (0 : Int32)))] [(.int (1 : Int32))])) t
            exact k
          rw [show own_F0_62_2 p0_0 p0_1 p0_2 p0_3 p0_4 i112 i115 = (1 : Int32) from ((if_pos hc121).trans rfl)]
          exact own_retN X119 hx (t := .boolean) Bd.returns (by simp) (hb hby at_100) hlk (by decide) (by decide) ⟨rfl, N120⟩
        · skip
          refine own_by (T' := T119) (g' := (mkF m 100 #[.val (.int p0_0), .val (.int p0_1), .val (.int p0_2), .val (.int p0_3), .val (.int p0_4), .val (.int ((p0_0 &&& (2147483647 : Int32)) % (3 : Int32))), .val (.ref wCOARSE), .val (.int i112), .val (.int i115), .val (.int (own_F1 p0_1 p0_2 p0_3 i112 i115 (0 : Int32) (0 : Int32)))] [(.int (0 : Int32))])) (fun t k => ?_) ?_
          · show Steps p.tables e below (T119.setTop (mkF m 92 #[.val (.int p0_0), .val (.int p0_1), .val (.int p0_2), .val (.int p0_3), .val (.int p0_4), .val (.int ((p0_0 &&& (2147483647 : Int32)) % (3 : Int32))), .val (.ref wCOARSE), .val (.int i112), .val (.int i115), .val (.int (own_F1 p0_1 p0_2 p0_3 i112 i115 (0 : Int32) (0 : Int32)))] [(.int (own_F2 ((p0_0 &&& (2147483647 : Int32)) % (3 : Int32)) p0_1 p0_2 p0_3 i112 i115)), (.int (own_F1 p0_1 p0_2 p0_3 i112 i115 (0 : Int32) (0 : Int32)))])) t
            refine XS.icmpYes X119.here hx rfl (pc0 := 92) (pc' := 99) rfl (hb hby at_92) rfl (feq hc121).2 (by decide) (by decide) ?_
            show Steps p.tables e below (T119.setTop (mkF m 99 #[.val (.int p0_0), .val (.int p0_1), .val (.int p0_2), .val (.int p0_3), .val (.int p0_4), .val (.int ((p0_0 &&& (2147483647 : Int32)) % (3 : Int32))), .val (.ref wCOARSE), .val (.int i112), .val (.int i115), .val (.int (own_F1 p0_1 p0_2 p0_3 i112 i115 (0 : Int32) (0 : Int32)))] [])) t
            refine XS.iconst X119.here hx rfl (hb hby at_99) ?_
            show Steps p.tables e below (T119.setTop (mkF m 100 #[.val (.int p0_0), .val (.int p0_1), .val (.int p0_2), .val (.int p0_3), .val (.int p0_4), .val (.int ((p0_0 &&& (2147483647 : Int32)) % (3 : Int32))), .val (.ref wCOARSE), .val (.int i112), .val (.int i115), .val (.int (own_F1 p0_1 p0_2 p0_3 i112 i115 (0 : Int32) (0 : Int32)))] [(.int (0 : Int32))])) t
            exact k
          rw [show own_F0_62_2 p0_0 p0_1 p0_2 p0_3 p0_4 i112 i115 = (0 : Int32) from ((if_neg hc121).trans rfl)]
          exact own_retN X119 hx (t := .boolean) Bd.returns (by simp) (hb hby at_100) hlk (by decide) (by decide) ⟨rfl, N120⟩
      by_cases hc114 : (p0_4 &&& (2 : Int32)) = (0 : Int32)
      · skip
        refine own_by (T' := T113) (g' := (mkF m 62 #[.val (.int p0_0), .val (.int p0_1), .val (.int p0_2), .val (.int p0_3), .val (.int p0_4), .val (.int ((p0_0 &&& (2147483647 : Int32)) % (3 : Int32))), .val (.ref wCOARSE), .val (.int i112), .unset, .unset] [(.int (0 : Int32))])) (fun t k => ?_) ?_
        · show Steps p.tables e below (T113.setTop (mkF m 54 #[.val (.int p0_0), .val (.int p0_1), .val (.int p0_2), .val (.int p0_3), .val (.int p0_4), .val (.int ((p0_0 &&& (2147483647 : Int32)) % (3 : Int32))), .val (.ref wCOARSE), .val (.int i112), .unset, .unset] [(.int (p0_4 &&& (2 : Int32)))])) t
          refine XS.ifYes X113.here hx rfl (pc0 := 54) (pc' := 61) rfl (hb hby at_54) rfl ((if0 _ _).trans (teq hc114).1) (by decide) (by decide) ?_
          show Steps p.tables e below (T113.setTop (mkF m 61 #[.val (.int p0_0), .val (.int p0_1), .val (.int p0_2), .val (.int p0_3), .val (.int p0_4), .val (.int ((p0_0 &&& (2147483647 : Int32)) % (3 : Int32))), .val (.ref wCOARSE), .val (.int i112), .unset, .unset] [])) t
          refine XS.iconst X113.here hx rfl (hb hby at_61) ?_
          show Steps p.tables e below (T113.setTop (mkF m 62 #[.val (.int p0_0), .val (.int p0_1), .val (.int p0_2), .val (.int p0_3), .val (.int p0_4), .val (.int ((p0_0 &&& (2147483647 : Int32)) % (3 : Int32))), .val (.ref wCOARSE), .val (.int i112), .unset, .unset] [(.int (0 : Int32))])) t
          exact k
        rw [show own_F0_48_1 p0_0 p0_1 p0_2 p0_3 p0_4 i112 = (own_F0_62_2 p0_0 p0_1 p0_2 p0_3 p0_4 i112 (0 : Int32)) from ((if_pos hc114).trans rfl)]
        exact J0_2 _ _ (0 : Int32) X113 e113 N113
      · skip
        refine own_by (T' := T113) (g' := (mkF m 62 #[.val (.int p0_0), .val (.int p0_1), .val (.int p0_2), .val (.int p0_3), .val (.int p0_4), .val (.int ((p0_0 &&& (2147483647 : Int32)) % (3 : Int32))), .val (.ref wCOARSE), .val (.int i112), .unset, .unset] [(.int (1 : Int32))])) (fun t k => ?_) ?_
        · show Steps p.tables e below (T113.setTop (mkF m 54 #[.val (.int p0_0), .val (.int p0_1), .val (.int p0_2), .val (.int p0_3), .val (.int p0_4), .val (.int ((p0_0 &&& (2147483647 : Int32)) % (3 : Int32))), .val (.ref wCOARSE), .val (.int i112), .unset, .unset] [(.int (p0_4 &&& (2 : Int32)))])) t
          refine XS.ifNo X113.here hx rfl (hb hby at_54) rfl ((if0 _ _).trans (feq hc114).1) ?_
          show Steps p.tables e below (T113.setTop (mkF m 57 #[.val (.int p0_0), .val (.int p0_1), .val (.int p0_2), .val (.int p0_3), .val (.int p0_4), .val (.int ((p0_0 &&& (2147483647 : Int32)) % (3 : Int32))), .val (.ref wCOARSE), .val (.int i112), .unset, .unset] [])) t
          refine XS.iconst X113.here hx rfl (hb hby at_57) ?_
          show Steps p.tables e below (T113.setTop (mkF m 58 #[.val (.int p0_0), .val (.int p0_1), .val (.int p0_2), .val (.int p0_3), .val (.int p0_4), .val (.int ((p0_0 &&& (2147483647 : Int32)) % (3 : Int32))), .val (.ref wCOARSE), .val (.int i112), .unset, .unset] [(.int (1 : Int32))])) t
          refine XS.goto X113.here hx rfl (pc0 := 58) (pc' := 62) rfl (hb hby at_58) (by decide) (by decide) ?_
          show Steps p.tables e below (T113.setTop (mkF m 62 #[.val (.int p0_0), .val (.int p0_1), .val (.int p0_2), .val (.int p0_3), .val (.int p0_4), .val (.int ((p0_0 &&& (2147483647 : Int32)) % (3 : Int32))), .val (.ref wCOARSE), .val (.int i112), .unset, .unset] [(.int (1 : Int32))])) t
          exact k
        rw [show own_F0_48_1 p0_0 p0_1 p0_2 p0_3 p0_4 i112 = (own_F0_62_2 p0_0 p0_1 p0_2 p0_3 p0_4 i112 (1 : Int32)) from ((if_neg hc114).trans rfl)]
        exact J0_2 _ _ (1 : Int32) X113 e113 N113
    by_cases hc111 : (p0_4 &&& (1 : Int32)) = (0 : Int32)
    · skip
      refine own_by (T' := T110) (g' := (mkF m 48 #[.val (.int p0_0), .val (.int p0_1), .val (.int p0_2), .val (.int p0_3), .val (.int p0_4), .val (.int ((p0_0 &&& (2147483647 : Int32)) % (3 : Int32))), .val (.ref wCOARSE), .unset, .unset, .unset] [(.int (0 : Int32))])) (fun t k => ?_) ?_
      · show Steps p.tables e below (T110.setTop (mkF m 40 #[.val (.int p0_0), .val (.int p0_1), .val (.int p0_2), .val (.int p0_3), .val (.int p0_4), .val (.int ((p0_0 &&& (2147483647 : Int32)) % (3 : Int32))), .val (.ref wCOARSE), .unset, .unset, .unset] [(.int (p0_4 &&& (1 : Int32)))])) t
        refine XS.ifYes X110.here hx rfl (pc0 := 40) (pc' := 47) rfl (hb hby at_40) rfl ((if0 _ _).trans (teq hc111).1) (by decide) (by decide) ?_
        show Steps p.tables e below (T110.setTop (mkF m 47 #[.val (.int p0_0), .val (.int p0_1), .val (.int p0_2), .val (.int p0_3), .val (.int p0_4), .val (.int ((p0_0 &&& (2147483647 : Int32)) % (3 : Int32))), .val (.ref wCOARSE), .unset, .unset, .unset] [])) t
        refine XS.iconst X110.here hx rfl (hb hby at_47) ?_
        show Steps p.tables e below (T110.setTop (mkF m 48 #[.val (.int p0_0), .val (.int p0_1), .val (.int p0_2), .val (.int p0_3), .val (.int p0_4), .val (.int ((p0_0 &&& (2147483647 : Int32)) % (3 : Int32))), .val (.ref wCOARSE), .unset, .unset, .unset] [(.int (0 : Int32))])) t
        exact k
      rw [show own_F0 p0_0 p0_1 p0_2 p0_3 p0_4 = (own_F0_48_1 p0_0 p0_1 p0_2 p0_3 p0_4 (0 : Int32)) from ((if_pos hc105).trans ((if_pos hc111).trans rfl))]
      exact J0_1 _ _ (0 : Int32) X110 e110 N0
    · skip
      refine own_by (T' := T110) (g' := (mkF m 48 #[.val (.int p0_0), .val (.int p0_1), .val (.int p0_2), .val (.int p0_3), .val (.int p0_4), .val (.int ((p0_0 &&& (2147483647 : Int32)) % (3 : Int32))), .val (.ref wCOARSE), .unset, .unset, .unset] [(.int (1 : Int32))])) (fun t k => ?_) ?_
      · show Steps p.tables e below (T110.setTop (mkF m 40 #[.val (.int p0_0), .val (.int p0_1), .val (.int p0_2), .val (.int p0_3), .val (.int p0_4), .val (.int ((p0_0 &&& (2147483647 : Int32)) % (3 : Int32))), .val (.ref wCOARSE), .unset, .unset, .unset] [(.int (p0_4 &&& (1 : Int32)))])) t
        refine XS.ifNo X110.here hx rfl (hb hby at_40) rfl ((if0 _ _).trans (feq hc111).1) ?_
        show Steps p.tables e below (T110.setTop (mkF m 43 #[.val (.int p0_0), .val (.int p0_1), .val (.int p0_2), .val (.int p0_3), .val (.int p0_4), .val (.int ((p0_0 &&& (2147483647 : Int32)) % (3 : Int32))), .val (.ref wCOARSE), .unset, .unset, .unset] [])) t
        refine XS.iconst X110.here hx rfl (hb hby at_43) ?_
        show Steps p.tables e below (T110.setTop (mkF m 44 #[.val (.int p0_0), .val (.int p0_1), .val (.int p0_2), .val (.int p0_3), .val (.int p0_4), .val (.int ((p0_0 &&& (2147483647 : Int32)) % (3 : Int32))), .val (.ref wCOARSE), .unset, .unset, .unset] [(.int (1 : Int32))])) t
        refine XS.goto X110.here hx rfl (pc0 := 44) (pc' := 48) rfl (hb hby at_44) (by decide) (by decide) ?_
        show Steps p.tables e below (T110.setTop (mkF m 48 #[.val (.int p0_0), .val (.int p0_1), .val (.int p0_2), .val (.int p0_3), .val (.int p0_4), .val (.int ((p0_0 &&& (2147483647 : Int32)) % (3 : Int32))), .val (.ref wCOARSE), .unset, .unset, .unset] [(.int (1 : Int32))])) t
        exact k
      rw [show own_F0 p0_0 p0_1 p0_2 p0_3 p0_4 = (own_F0_48_1 p0_0 p0_1 p0_2 p0_3 p0_4 (1 : Int32)) from ((if_pos hc105).trans ((if_neg hc111).trans rfl))]
      exact J0_1 _ _ (1 : Int32) X110 e110 N0
  · skip
    refine own_by (T' := s₁) (g' := (mkF m 22 #[.val (.int p0_0), .val (.int p0_1), .val (.int p0_2), .val (.int p0_3), .val (.int p0_4), .val (.int ((p0_0 &&& (2147483647 : Int32)) % (3 : Int32))), .unset, .unset, .unset, .unset] [(.int (1 : Int32)), (.int ((p0_0 &&& (2147483647 : Int32)) % (3 : Int32)))])) (fun t k => ?_) ?_
    · show Steps p.tables e below (s₁.setTop (mkF m 10 #[.val (.int p0_0), .val (.int p0_1), .val (.int p0_2), .val (.int p0_3), .val (.int p0_4), .val (.int ((p0_0 &&& (2147483647 : Int32)) % (3 : Int32))), .unset, .unset, .unset, .unset] [(.int ((p0_0 &&& (2147483647 : Int32)) % (3 : Int32)))])) t
      refine XS.ifYes X0.here hx rfl (pc0 := 10) (pc' := 19) rfl (hb hby at_10) rfl ((if0 _ _).trans (feq hc105).2) (by decide) (by decide) ?_
      show Steps p.tables e below (s₁.setTop (mkF m 19 #[.val (.int p0_0), .val (.int p0_1), .val (.int p0_2), .val (.int p0_3), .val (.int p0_4), .val (.int ((p0_0 &&& (2147483647 : Int32)) % (3 : Int32))), .unset, .unset, .unset, .unset] [])) t
      refine XS.iload X0.here hx rfl (hb hby at_19) rfl ?_
      show Steps p.tables e below (s₁.setTop (mkF m 21 #[.val (.int p0_0), .val (.int p0_1), .val (.int p0_2), .val (.int p0_3), .val (.int p0_4), .val (.int ((p0_0 &&& (2147483647 : Int32)) % (3 : Int32))), .unset, .unset, .unset, .unset] [(.int ((p0_0 &&& (2147483647 : Int32)) % (3 : Int32)))])) t
      refine XS.iconst X0.here hx rfl (hb hby at_21) ?_
      show Steps p.tables e below (s₁.setTop (mkF m 22 #[.val (.int p0_0), .val (.int p0_1), .val (.int p0_2), .val (.int p0_3), .val (.int p0_4), .val (.int ((p0_0 &&& (2147483647 : Int32)) % (3 : Int32))), .unset, .unset, .unset, .unset] [(.int (1 : Int32)), (.int ((p0_0 &&& (2147483647 : Int32)) % (3 : Int32)))])) t
      exact k
    by_cases hc122 : ((p0_0 &&& (2147483647 : Int32)) % (3 : Int32)) = (1 : Int32)
    · skip
      refine own_by (T' := s₁) (g' := (mkF m 25 #[.val (.int p0_0), .val (.int p0_1), .val (.int p0_2), .val (.int p0_3), .val (.int p0_4), .val (.int ((p0_0 &&& (2147483647 : Int32)) % (3 : Int32))), .unset, .unset, .unset, .unset] [])) (fun t k => ?_) ?_
      · show Steps p.tables e below (s₁.setTop (mkF m 22 #[.val (.int p0_0), .val (.int p0_1), .val (.int p0_2), .val (.int p0_3), .val (.int p0_4), .val (.int ((p0_0 &&& (2147483647 : Int32)) % (3 : Int32))), .unset, .unset, .unset, .unset] [(.int (1 : Int32)), (.int ((p0_0 &&& (2147483647 : Int32)) % (3 : Int32)))])) t
        refine XS.icmpNo X0.here hx rfl (hb hby at_22) rfl (teq hc122).2 ?_
        show Steps p.tables e below (s₁.setTop (mkF m 25 #[.val (.int p0_0), .val (.int p0_1), .val (.int p0_2), .val (.int p0_3), .val (.int p0_4), .val (.int ((p0_0 &&& (2147483647 : Int32)) % (3 : Int32))), .unset, .unset, .unset, .unset] [])) t
        exact k
      obtain ⟨T125, X125, e125, st125⟩ := getS2 X0 hx hZ hown (host := "") (Or.inl (hw _ (List.mem_of_getElem? (i := 19) rfl))) Via.refl e0 (EN.2.2.2.2.2.2.2.2.1.ext O0.2) (g := (mkF m 25 #[.val (.int p0_0), .val (.int p0_1), .val (.int p0_2), .val (.int p0_3), .val (.int p0_4), .val (.int ((p0_0 &&& (2147483647 : Int32)) % (3 : Int32))), .unset, .unset, .unset, .unset] [])) rfl (hb hby at_25)
      refine own_by (T' := T125) (g' := (mkF m 28 #[.val (.int p0_0), .val (.int p0_1), .val (.int p0_2), .val (.int p0_3), .val (.int p0_4), .val (.int ((p0_0 &&& (2147483647 : Int32)) % (3 : Int32))), .unset, .unset, .unset, .unset] [(.ref wFINE)])) st125 ?_
      refine own_by (T' := T125) (g' := (mkF m 40 #[.val (.int p0_0), .val (.int p0_1), .val (.int p0_2), .val (.int p0_3), .val (.int p0_4), .val (.int ((p0_0 &&& (2147483647 : Int32)) % (3 : Int32))), .val (.ref wFINE), .unset, .unset, .unset] [(.int (p0_4 &&& (1 : Int32)))])) (fun t k => ?_) ?_
      · show Steps p.tables e below (T125.setTop (mkF m 28 #[.val (.int p0_0), .val (.int p0_1), .val (.int p0_2), .val (.int p0_3), .val (.int p0_4), .val (.int ((p0_0 &&& (2147483647 : Int32)) % (3 : Int32))), .unset, .unset, .unset, .unset] [(.ref wFINE)])) t
        refine XS.goto X125.here hx rfl (pc0 := 28) (pc' := 34) rfl (hb hby at_28) (by decide) (by decide) ?_
        show Steps p.tables e below (T125.setTop (mkF m 34 #[.val (.int p0_0), .val (.int p0_1), .val (.int p0_2), .val (.int p0_3), .val (.int p0_4), .val (.int ((p0_0 &&& (2147483647 : Int32)) % (3 : Int32))), .unset, .unset, .unset, .unset] [(.ref wFINE)])) t
        refine XS.astore X125.here hx rfl (hb hby at_34) rfl rfl (l' := #[.val (.int p0_0), .val (.int p0_1), .val (.int p0_2), .val (.int p0_3), .val (.int p0_4), .val (.int ((p0_0 &&& (2147483647 : Int32)) % (3 : Int32))), .val (.ref wFINE), .unset, .unset, .unset]) rfl ?_
        show Steps p.tables e below (T125.setTop (mkF m 36 #[.val (.int p0_0), .val (.int p0_1), .val (.int p0_2), .val (.int p0_3), .val (.int p0_4), .val (.int ((p0_0 &&& (2147483647 : Int32)) % (3 : Int32))), .val (.ref wFINE), .unset, .unset, .unset] [])) t
        refine XS.iload X125.here hx rfl (hb hby at_36) rfl ?_
        show Steps p.tables e below (T125.setTop (mkF m 38 #[.val (.int p0_0), .val (.int p0_1), .val (.int p0_2), .val (.int p0_3), .val (.int p0_4), .val (.int ((p0_0 &&& (2147483647 : Int32)) % (3 : Int32))), .val (.ref wFINE), .unset, .unset, .unset] [(.int p0_4)])) t
        refine XS.iconst X125.here hx rfl (hb hby at_38) ?_
        show Steps p.tables e below (T125.setTop (mkF m 39 #[.val (.int p0_0), .val (.int p0_1), .val (.int p0_2), .val (.int p0_3), .val (.int p0_4), .val (.int ((p0_0 &&& (2147483647 : Int32)) % (3 : Int32))), .val (.ref wFINE), .unset, .unset, .unset] [(.int (1 : Int32)), (.int p0_4)])) t
        refine XS.iand X125.here hx rfl (hb hby at_39) rfl ?_
        show Steps p.tables e below (T125.setTop (mkF m 40 #[.val (.int p0_0), .val (.int p0_1), .val (.int p0_2), .val (.int p0_3), .val (.int p0_4), .val (.int ((p0_0 &&& (2147483647 : Int32)) % (3 : Int32))), .val (.ref wFINE), .unset, .unset, .unset] [(.int (p0_4 &&& (1 : Int32)))])) t
        exact k
      have J0_3 : ∀ (T128 : State) (L128 : List Loc) (i127 : Int32), Stand p l e room_1 s m #[(.int p0_0), (.int p0_1), (.int p0_2), (.int p0_3), (.int p0_4)] below meth c T128 L128 0 0 → T128.heap = h0 → Fr n0 L128 → own_Go p e below (own_P s below room_1 (own_Q0 (own_F0_48_3 p0_0 p0_1 p0_2 p0_3 p0_4 i127) h0 n0)) T128 (mkF m 48 #[.val (.int p0_0), .val (.int p0_1), .val (.int p0_2), .val (.int p0_3), .val (.int p0_4), .val (.int ((p0_0 &&& (2147483647 : Int32)) % (3 : Int32))), .val (.ref wFINE), .unset, .unset, .unset] [(.int i127)]) := by
        intro T128 L128 i127 X128 e128 N128
        refine own_by (T' := T128) (g' := (mkF m 54 #[.val (.int p0_0), .val (.int p0_1), .val (.int p0_2), .val (.int p0_3), .val (.int p0_4), .val (.int ((p0_0 &&& (2147483647 : Int32)) % (3 : Int32))), .val (.ref wFINE), .val (.int i127), .unset, .unset] [(.int (p0_4 &&& (2 : Int32)))])) (fun t k => ?_) ?_
        · show Steps p.tables e below (T128.setTop (mkF m 48 #[.val (.int p0_0), .val (.int p0_1), .val (.int p0_2), .val (.int p0_3), .val (.int p0_4), .val (.int ((p0_0 &&& (2147483647 : Int32)) % (3 : Int32))), .val (.ref wFINE), .unset, .unset, .unset] [(.int i127)])) t
          refine XS.istore X128.here hx rfl (hb hby at_48) rfl (l' := #[.val (.int p0_0), .val (.int p0_1), .val (.int p0_2), .val (.int p0_3), .val (.int p0_4), .val (.int ((p0_0 &&& (2147483647 : Int32)) % (3 : Int32))), .val (.ref wFINE), .val (.int i127), .unset, .unset]) rfl ?_
          show Steps p.tables e below (T128.setTop (mkF m 50 #[.val (.int p0_0), .val (.int p0_1), .val (.int p0_2), .val (.int p0_3), .val (.int p0_4), .val (.int ((p0_0 &&& (2147483647 : Int32)) % (3 : Int32))), .val (.ref wFINE), .val (.int i127), .unset, .unset] [])) t
          refine XS.iload X128.here hx rfl (hb hby at_50) rfl ?_
          show Steps p.tables e below (T128.setTop (mkF m 52 #[.val (.int p0_0), .val (.int p0_1), .val (.int p0_2), .val (.int p0_3), .val (.int p0_4), .val (.int ((p0_0 &&& (2147483647 : Int32)) % (3 : Int32))), .val (.ref wFINE), .val (.int i127), .unset, .unset] [(.int p0_4)])) t
          refine XS.iconst X128.here hx rfl (hb hby at_52) ?_
          show Steps p.tables e below (T128.setTop (mkF m 53 #[.val (.int p0_0), .val (.int p0_1), .val (.int p0_2), .val (.int p0_3), .val (.int p0_4), .val (.int ((p0_0 &&& (2147483647 : Int32)) % (3 : Int32))), .val (.ref wFINE), .val (.int i127), .unset, .unset] [(.int (2 : Int32)), (.int p0_4)])) t
          refine XS.iand X128.here hx rfl (hb hby at_53) rfl ?_
          show Steps p.tables e below (T128.setTop (mkF m 54 #[.val (.int p0_0), .val (.int p0_1), .val (.int p0_2), .val (.int p0_3), .val (.int p0_4), .val (.int ((p0_0 &&& (2147483647 : Int32)) % (3 : Int32))), .val (.ref wFINE), .val (.int i127), .unset, .unset] [(.int (p0_4 &&& (2 : Int32)))])) t
          exact k
        have J0_4 : ∀ (T131 : State) (L131 : List Loc) (i130 : Int32), Stand p l e room_1 s m #[(.int p0_0), (.int p0_1), (.int p0_2), (.int p0_3), (.int p0_4)] below meth c T131 L131 0 0 → T131.heap = h0 → Fr n0 L131 → own_Go p e below (own_P s below room_1 (own_Q0 (own_F0_62_4 p0_0 p0_1 p0_2 p0_3 p0_4 i127 i130) h0 n0)) T131 (mkF m 62 #[.val (.int p0_0), .val (.int p0_1), .val (.int p0_2), .val (.int p0_3), .val (.int p0_4), .val (.int ((p0_0 &&& (2147483647 : Int32)) % (3 : Int32))), .val (.ref wFINE), .val (.int i127), .unset, .unset] [(.int i130)]) := by
          intro T131 L131 i130 X131 e131 N131
          refine own_by (T' := T131) (g' := (mkF m 73 #[.val (.int p0_0), .val (.int p0_1), .val (.int p0_2), .val (.int p0_3), .val (.int p0_4), .val (.int ((p0_0 &&& (2147483647 : Int32)) % (3 : Int32))), .val (.ref wFINE), .val (.int i127), .val (.int i130), .unset] [(.int i130), (.int i127), (.int p0_3), (.int p0_2), (.int p0_1), (.ref wFINE)])) (fun t k => ?_) ?_
          · show Steps p.tables e below (T131.setTop (mkF m 62 #[.val (.int p0_0), .val (.int p0_1), .val (.int p0_2), .val (.int p0_3), .val (.int p0_4), .val (.int ((p0_0 &&& (2147483647 : Int32)) % (3 : Int32))), .val (.ref wFINE), .val (.int i127), .unset, .unset] [(.int i130)])) t
            refine XS.istore X131.here hx rfl (hb hby at_62) rfl (l' := #[.val (.int p0_0), .val (.int p0_1), .val (.int p0_2), .val (.int p0_3), .val (.int p0_4), .val (.int ((p0_0 &&& (2147483647 : Int32)) % (3 : Int32))), .val (.ref wFINE), .val (.int i127), .val (.int i130), .unset]) rfl ?_
            show Steps p.tables e below (T131.setTop (mkF m 64 #[.val (.int p0_0), .val (.int p0_1), .val (.int p0_2), .val (.int p0_3), .val (.int p0_4), .val (.int ((p0_0 &&& (2147483647 : Int32)) % (3 : Int32))), .val (.ref wFINE), .val (.int i127), .val (.int i130), .unset] [])) t
            refine XS.aload X131.here hx rfl (hb hby at_64) rfl rfl ?_
            show Steps p.tables e below (T131.setTop (mkF m 66 #[.val (.int p0_0), .val (.int p0_1), .val (.int p0_2), .val (.int p0_3), .val (.int p0_4), .val (.int ((p0_0 &&& (2147483647 : Int32)) % (3 : Int32))), .val (.ref wFINE), .val (.int i127), .val (.int i130), .unset] [(.ref wFINE)])) t
            refine XS.iloadN X131.here hx rfl (hb hby at_66) rfl ?_
            show Steps p.tables e below (T131.setTop (mkF m 67 #[.val (.int p0_0), .val (.int p0_1), .val (.int p0_2), .val (.int p0_3), .val (.int p0_4), .val (.int ((p0_0 &&& (2147483647 : Int32)) % (3 : Int32))), .val (.ref wFINE), .val (.int i127), .val (.int i130), .unset] [(.int p0_1), (.ref wFINE)])) t
            refine XS.iloadN X131.here hx rfl (hb hby at_67) rfl ?_
            show Steps p.tables e below (T131.setTop (mkF m 68 #[.val (.int p0_0), .val (.int p0_1), .val (.int p0_2), .val (.int p0_3), .val (.int p0_4), .val (.int ((p0_0 &&& (2147483647 : Int32)) % (3 : Int32))), .val (.ref wFINE), .val (.int i127), .val (.int i130), .unset] [(.int p0_2), (.int p0_1), (.ref wFINE)])) t
            refine XS.iloadN X131.here hx rfl (hb hby at_68) rfl ?_
            show Steps p.tables e below (T131.setTop (mkF m 69 #[.val (.int p0_0), .val (.int p0_1), .val (.int p0_2), .val (.int p0_3), .val (.int p0_4), .val (.int ((p0_0 &&& (2147483647 : Int32)) % (3 : Int32))), .val (.ref wFINE), .val (.int i127), .val (.int i130), .unset] [(.int p0_3), (.int p0_2), (.int p0_1), (.ref wFINE)])) t
            refine XS.iload X131.here hx rfl (hb hby at_69) rfl ?_
            show Steps p.tables e below (T131.setTop (mkF m 71 #[.val (.int p0_0), .val (.int p0_1), .val (.int p0_2), .val (.int p0_3), .val (.int p0_4), .val (.int ((p0_0 &&& (2147483647 : Int32)) % (3 : Int32))), .val (.ref wFINE), .val (.int i127), .val (.int i130), .unset] [(.int i127), (.int p0_3), (.int p0_2), (.int p0_1), (.ref wFINE)])) t
            refine XS.iload X131.here hx rfl (hb hby at_71) rfl ?_
            show Steps p.tables e below (T131.setTop (mkF m 73 #[.val (.int p0_0), .val (.int p0_1), .val (.int p0_2), .val (.int p0_3), .val (.int p0_4), .val (.int ((p0_0 &&& (2147483647 : Int32)) % (3 : Int32))), .val (.ref wFINE), .val (.int i127), .val (.int i130), .unset] [(.int i130), (.int i127), (.int p0_3), (.int p0_2), (.int p0_1), (.ref wFINE)])) t
            exact k
          obtain ⟨cq132, kq132, q132a, q132b, q132c⟩ := isOf hZ e131 (EN.2.2.2.2.2.2.2.2.2.1.ext O0.2)
          obtain ⟨v132, _, ⟨T132, L132, k132, n132⟩, -, X132, ⟨Lc132, hQ132, l132, y132, z132⟩, st132⟩ := X131.virtualBack hx (y := (⟨"com/example/rundown/rundown/symbolic/Precision", "isExact", "(IIIZZ)Z"⟩ : MethodName)) (z := (⟨"com/example/rundown/rundown/symbolic/Precision", "isExact", "(IIIZZ)Z"⟩ : MethodName)) hown (mvT hZ (hw _ (List.mem_of_getElem? (i := 4) rfl))) (mvT hZ (hw _ (List.mem_of_getElem? (i := 5) rfl))) (notFace_of_selects (args := #[]) (mvT hZ (hw _ (List.mem_of_getElem? (i := 7) rfl)))) (mvT hZ (hw _ (List.mem_of_getElem? (i := 7) rfl))) (mvT hZ (hw _ (List.mem_of_getElem? (i := 6) rfl))) (by decide) (backOf (W := 0) (own_rm1 l Z a0 hw [] wFINE p0_1 p0_2 p0_3 i127 i130 (0 : Int32) (0 : Int32) h0 n0 Z0 (EN.2.2.2.2.2.2.2.2.2.2.1.ext O0.2) (EN.2.2.2.2.2.2.2.2.2.2.2.ext O0.2)) hZ (hw _ (List.mem_of_getElem? (i := 8) rfl)) (hw _ (List.mem_of_getElem? (i := 2) rfl)) (by decide) (by decide)) q132a q132c (g := (mkF m 73 #[.val (.int p0_0), .val (.int p0_1), .val (.int p0_2), .val (.int p0_3), .val (.int p0_4), .val (.int ((p0_0 &&& (2147483647 : Int32)) % (3 : Int32))), .val (.ref wFINE), .val (.int i127), .val (.int i130), .unset] [(.int i130), (.int i127), (.int p0_3), (.int p0_2), (.int p0_1), (.ref wFINE)])) rfl (by rw [hml]; rfl) (Steps.refl _) (argsL := [(.int p0_1), (.int p0_2), (.int p0_3), (.int i127), (.int i130)]) (rest := []) (lenOf pd__IIIZZ_Z rfl) rfl (by show 2 * 0 + _ ≤ _; exact Nat.le_of_eq rfl) (hb hby at_73) (fun _ _ => ⟨rfl, e131, (by decide : 0 + 0 ≤ _), (by decide : 0 + 0 ≤ _)⟩)
          dsimp only [Pt.U, Pt.locs, Pt.cells, Pt.slots] at X132 l132 y132 z132 st132 hQ132
          subst l132 y132 z132
          obtain ⟨rfl, M132, e132⟩ := hQ132
          have N133 := Fr.app N131 M132
          refine own_via (T' := T132) (g' := (mkF m 76 #[.val (.int p0_0), .val (.int p0_1), .val (.int p0_2), .val (.int p0_3), .val (.int p0_4), .val (.int ((p0_0 &&& (2147483647 : Int32)) % (3 : Int32))), .val (.ref wFINE), .val (.int i127), .val (.int i130), .unset] [(.int (own_F1 p0_1 p0_2 p0_3 i127 i130 (0 : Int32) (0 : Int32)))])) st132 ?_
          refine own_by (T' := T132) (g' := (mkF m 89 #[.val (.int p0_0), .val (.int p0_1), .val (.int p0_2), .val (.int p0_3), .val (.int p0_4), .val (.int ((p0_0 &&& (2147483647 : Int32)) % (3 : Int32))), .val (.ref wFINE), .val (.int i127), .val (.int i130), .val (.int (own_F1 p0_1 p0_2 p0_3 i127 i130 (0 : Int32) (0 : Int32)))] [(.int i130), (.int i127), (.int p0_3), (.int p0_2), (.int p0_1), (.int ((p0_0 &&& (2147483647 : Int32)) % (3 : Int32))), (.int (own_F1 p0_1 p0_2 p0_3 i127 i130 (0 : Int32) (0 : Int32)))])) (fun t k => ?_) ?_
          · show Steps p.tables e below (T132.setTop (mkF m 76 #[.val (.int p0_0), .val (.int p0_1), .val (.int p0_2), .val (.int p0_3), .val (.int p0_4), .val (.int ((p0_0 &&& (2147483647 : Int32)) % (3 : Int32))), .val (.ref wFINE), .val (.int i127), .val (.int i130), .unset] [(.int (own_F1 p0_1 p0_2 p0_3 i127 i130 (0 : Int32) (0 : Int32)))])) t
            refine XS.istore X132.here hx rfl (hb hby at_76) rfl (l' := #[.val (.int p0_0), .val (.int p0_1), .val (.int p0_2), .val (.int p0_3), .val (.int p0_4), .val (.int ((p0_0 &&& (2147483647 : Int32)) % (3 : Int32))), .val (.ref wFINE), .val (.int i127), .val (.int i130), .val (.int (own_F1 p0_1 p0_2 p0_3 i127 i130 (0 : Int32) (0 : Int32)))]) rfl ?_
            show Steps p.tables e below (T132.setTop (mkF m 78 #[.val (.int p0_0), .val (.int p0_1), .val (.int p0_2), .val (.int p0_3), .val (.int p0_4), .val (.int ((p0_0 &&& (2147483647 : Int32)) % (3 : Int32))), .val (.ref wFINE), .val (.int i127), .val (.int i130), .val (.int (own_F1 p0_1 p0_2 p0_3 i127 i130 (0 : Int32) (0 : Int32)))] [])) t
            refine XS.iload X132.here hx rfl (hb hby at_78) rfl ?_
            show Steps p.tables e below (T132.setTop (mkF m 80 #[.val (.int p0_0), .val (.int p0_1), .val (.int p0_2), .val (.int p0_3), .val (.int p0_4), .val (.int ((p0_0 &&& (2147483647 : Int32)) % (3 : Int32))), .val (.ref wFINE), .val (.int i127), .val (.int i130), .val (.int (own_F1 p0_1 p0_2 p0_3 i127 i130 (0 : Int32) (0 : Int32)))] [(.int (own_F1 p0_1 p0_2 p0_3 i127 i130 (0 : Int32) (0 : Int32)))])) t
            refine XS.iload X132.here hx rfl (hb hby at_80) rfl ?_
            show Steps p.tables e below (T132.setTop (mkF m 82 #[.val (.int p0_0), .val (.int p0_1), .val (.int p0_2), .val (.int p0_3), .val (.int p0_4), .val (.int ((p0_0 &&& (2147483647 : Int32)) % (3 : Int32))), .val (.ref wFINE), .val (.int i127), .val (.int i130), .val (.int (own_F1 p0_1 p0_2 p0_3 i127 i130 (0 : Int32) (0 : Int32)))] [(.int ((p0_0 &&& (2147483647 : Int32)) % (3 : Int32))), (.int (own_F1 p0_1 p0_2 p0_3 i127 i130 (0 : Int32) (0 : Int32)))])) t
            refine XS.iloadN X132.here hx rfl (hb hby at_82) rfl ?_
            show Steps p.tables e below (T132.setTop (mkF m 83 #[.val (.int p0_0), .val (.int p0_1), .val (.int p0_2), .val (.int p0_3), .val (.int p0_4), .val (.int ((p0_0 &&& (2147483647 : Int32)) % (3 : Int32))), .val (.ref wFINE), .val (.int i127), .val (.int i130), .val (.int (own_F1 p0_1 p0_2 p0_3 i127 i130 (0 : Int32) (0 : Int32)))] [(.int p0_1), (.int ((p0_0 &&& (2147483647 : Int32)) % (3 : Int32))), (.int (own_F1 p0_1 p0_2 p0_3 i127 i130 (0 : Int32) (0 : Int32)))])) t
            refine XS.iloadN X132.here hx rfl (hb hby at_83) rfl ?_
            show Steps p.tables e below (T132.setTop (mkF m 84 #[.val (.int p0_0), .val (.int p0_1), .val (.int p0_2), .val (.int p0_3), .val (.int p0_4), .val (.int ((p0_0 &&& (2147483647 : Int32)) % (3 : Int32))), .val (.ref wFINE), .val (.int i127), .val (.int i130), .val (.int (own_F1 p0_1 p0_2 p0_3 i127 i130 (0 : Int32) (0 : Int32)))] [(.int p0_2), (.int p0_1), (.int ((p0_0 &&& (2147483647 : Int32)) % (3 : Int32))), (.int (own_F1 p0_1 p0_2 p0_3 i127 i130 (0 : Int32) (0 : Int32)))])) t
            refine XS.iloadN X132.here hx rfl (hb hby at_84) rfl ?_
            show Steps p.tables e below (T132.setTop (mkF m 85 #[.val (.int p0_0), .val (.int p0_1), .val (.int p0_2), .val (.int p0_3), .val (.int p0_4), .val (.int ((p0_0 &&& (2147483647 : Int32)) % (3 : Int32))), .val (.ref wFINE), .val (.int i127), .val (.int i130), .val (.int (own_F1 p0_1 p0_2 p0_3 i127 i130 (0 : Int32) (0 : Int32)))] [(.int p0_3), (.int p0_2), (.int p0_1), (.int ((p0_0 &&& (2147483647 : Int32)) % (3 : Int32))), (.int (own_F1 p0_1 p0_2 p0_3 i127 i130 (0 : Int32) (0 : Int32)))])) t
            refine XS.iload X132.here hx rfl (hb hby at_85) rfl ?_
            show Steps p.tables e below (T132.setTop (mkF m 87 #[.val (.int p0_0), .val (.int p0_1), .val (.int p0_2), .val (.int p0_3), .val (.int p0_4), .val (.int ((p0_0 &&& (2147483647 : Int32)) % (3 : Int32))), .val (.ref wFINE), .val (.int i127), .val (.int i130), .val (.int (own_F1 p0_1 p0_2 p0_3 i127 i130 (0 : Int32) (0 : Int32)))] [(.int i127), (.int p0_3), (.int p0_2), (.int p0_1), (.int ((p0_0 &&& (2147483647 : Int32)) % (3 : Int32))), (.int (own_F1 p0_1 p0_2 p0_3 i127 i130 (0 : Int32) (0 : Int32)))])) t
            refine XS.iload X132.here hx rfl (hb hby at_87) rfl ?_
            show Steps p.tables e below (T132.setTop (mkF m 89 #[.val (.int p0_0), .val (.int p0_1), .val (.int p0_2), .val (.int p0_3), .val (.int p0_4), .val (.int ((p0_0 &&& (2147483647 : Int32)) % (3 : Int32))), .val (.ref wFINE), .val (.int i127), .val (.int i130), .val (.int (own_F1 p0_1 p0_2 p0_3 i127 i130 (0 : Int32) (0 : Int32)))] [(.int i130), (.int i127), (.int p0_3), (.int p0_2), (.int p0_1), (.int ((p0_0 &&& (2147483647 : Int32)) % (3 : Int32))), (.int (own_F1 p0_1 p0_2 p0_3 i127 i130 (0 : Int32) (0 : Int32)))])) t
            exact k
          obtain ⟨v134, _, ⟨T134, L134, k134, n134⟩, -, X134, ⟨Lc134, hQ134, l134, y134, z134⟩, st134⟩ := Jvm.LawKit.callS X132 hx (y := (⟨"com/example/rundown/rundown/symbolic/PrecisionIsExactPinLaw", "expected", "(IIIIZZ)Z"⟩ : MethodName)) hown (mvT hZ (hw _ (List.mem_of_getElem? (i := 13) rfl))) (mvT hZ (hw _ (List.mem_of_getElem? (i := 14) rfl))) (mvT hZ (hw _ (List.mem_of_getElem? (i := 15) rfl))) (mvT hZ (hw _ (List.mem_of_getElem? (i := 16) rfl))) (by decide) (backOf (W := 1) (own_rm2 l Z a0 hw [] ((p0_0 &&& (2147483647 : Int32)) % (3 : Int32)) p0_1 p0_2 p0_3 i127 i130 h0 n0 Z0) hZ (hw _ (List.mem_of_getElem? (i := 16) rfl)) (hw _ (List.mem_of_getElem? (i := 15) rfl)) (by decide) (by decide)) (g := (mkF m 89 #[.val (.int p0_0), .val (.int p0_1), .val (.int p0_2), .val (.int p0_3), .val (.int p0_4), .val (.int ((p0_0 &&& (2147483647 : Int32)) % (3 : Int32))), .val (.ref wFINE), .val (.int i127), .val (.int i130), .val (.int (own_F1 p0_1 p0_2 p0_3 i127 i130 (0 : Int32) (0 : Int32)))] [(.int i130), (.int i127), (.int p0_3), (.int p0_2), (.int p0_1), (.int ((p0_0 &&& (2147483647 : Int32)) % (3 : Int32))), (.int (own_F1 p0_1 p0_2 p0_3 i127 i130 (0 : Int32) (0 : Int32)))])) rfl (by rw [hml]; rfl) (argsL := [(.int ((p0_0 &&& (2147483647 : Int32)) % (3 : Int32))), (.int p0_1), (.int p0_2), (.int p0_3), (.int i127), (.int i130)]) (rest := [(.int (own_F1 p0_1 p0_2 p0_3 i127 i130 (0 : Int32) (0 : Int32)))]) (lenOf pd__IIIIZZ_Z rfl) rfl (by show 2 * 0 + _ ≤ _; exact Nat.le_of_eq rfl) (hb hby at_89) (fun _ _ => ⟨rfl, e132, (by decide : 0 + 0 ≤ _), (by decide : 0 + 0 ≤ _)⟩)
          dsimp only [Pt.U, Pt.locs, Pt.cells, Pt.slots] at X134 l134 y134 z134 st134 hQ134
          subst l134 y134 z134
          obtain ⟨rfl, M134, e134⟩ := hQ134
          have N135 := Fr.app N133 M134
          refine own_by (T' := T134) (g' := (mkF m 92 #[.val (.int p0_0), .val (.int p0_1), .val (.int p0_2), .val (.int p0_3), .val (.int p0_4), .val (.int ((p0_0 &&& (2147483647 : Int32)) % (3 : Int32))), .val (.ref wFINE), .val (.int i127), .val (.int i130), .val (.int (own_F1 p0_1 p0_2 p0_3 i127 i130 (0 : Int32) (0 : Int32)))] [(.int (own_F2 ((p0_0 &&& (2147483647 : Int32)) % (3 : Int32)) p0_1 p0_2 p0_3 i127 i130)), (.int (own_F1 p0_1 p0_2 p0_3 i127 i130 (0 : Int32) (0 : Int32)))])) st134 ?_
          by_cases hc136 : (own_F1 p0_1 p0_2 p0_3 i127 i130 (0 : Int32) (0 : Int32)) = (own_F2 ((p0_0 &&& (2147483647 : Int32)) % (3 : Int32)) p0_1 p0_2 p0_3 i127 i130)
          · skip
            refine own_by (T' := T134) (g' := (mkF m 100 #[.val (.int p0_0), .val (.int p0_1), .val (.int p0_2), .val (.int p0_3), .val (.int p0_4), .val (.int ((p0_0 &&& (2147483647 : Int32)) % (3 : Int32))), .val (.ref wFINE), .val (.int i127), .val (.int i130), .val (.int (own_F1 p0_1 p0_2 p0_3 i127 i130 (0 : Int32) (0 : Int32)))] [(.int (1 : Int32))])) (fun t k => ?_) ?_
            · show Steps p.tables e below (T134.setTop (mkF m 92 #[.val (.int p0_0), .val (.int p0_1), .val (.int p0_2), .val (.int p0_3), .val (.int p0_4), .val (.int ((p0_0 &&& (2147483647 : Int32)) % (3 : Int32))), .val (.ref wFINE), .val (.int i127), .val (.int i130), .val (.int (own_F1 p0_1 p0_2 p0_3 i127 i130 (0 : Int32) (0 : Int32)))] [(.int (own_F2 ((p0_0 &&& (2147483647 : Int32)) % (3 : Int32)) p0_1 p0_2 p0_3 i127 i130)), (.int (own_F1 p0_1 p0_2 p0_3 i127 i130 (0 : Int32) (0 : Int32)))])) t
              refine XS.icmpNo X134.here hx rfl (hb hby at_92) rfl (teq hc136).2 ?_
              show Steps p.tables e below (T134.setTop (mkF m 95 #[.val (.int p0_0), .val (.int p0_1), .val (.int p0_2), .val (.int p0_3), .val (.int p0_4), .val (.int ((p0_0 &&& (2147483647 : Int32)) % (3 : Int32))), .val (.ref wFINE), .val (.int i127), .val (.int i130), .val (.int (own_F1 p0_1 p0_2 p0_3 i127 i130 (0 : Int32) (0 : Int32)))] [])) t
              refine XS.iconst X134.here hx rfl (hb hby at_95) ?_
              show Steps p.tables e below (T134.setTop (mkF m 96 #[.val (.int p0_0), .val (.int p0_1), .val (.int p0_2), .val (.int p0_3), .val (.int p0_4), .val (.int ((p0_0 &&& (2147483647 : Int32)) % (3 : Int32))), .val (.ref wFINE), .val (.int i127), .val (.int i130), .val (.int (own_F1 p0_1 p0_2 p0_3 i127 i130 (0 : Int32) (0 : Int32)))] [(.int (1 : Int32))])) t
              refine XS.goto X134.here hx rfl (pc0 := 96) (pc' := 100) rfl (hb hby at_96) (by decide) (by decide) ?_
              show Steps p.tables e below (T134.setTop (mkF m 100 #[.val (.int p0_0), .val (.int p0_1), .val (.int p0_2), .val (.int p0_3), .val (.int p0_4), .val (.int ((p0_0 &&& (2147483647 : Int32)) % (3 : Int32))), .val (.ref wFINE), .val (.int i127), .val (.int i130), .val (.int (own_F1 p0_1 p0_2 p0_3 i127 i130 (0 : Int32) (0 : Int32)))] [(.int (1 : Int32))])) t
              exact k
            rw [show own_F0_62_4 p0_0 p0_1 p0_2 p0_3 p0_4 i127 i130 = (1 : Int32) from ((if_pos hc136).trans rfl)]
            exact own_retN X134 hx (t := .boolean) Bd.returns (by simp) (hb hby at_100) hlk (by decide) (by decide) ⟨rfl, N135⟩
          · skip
            refine own_by (T' := T134) (g' := (mkF m 100 #[.val (.int p0_0), .val (.int p0_1), .val (.int p0_2), .val (.int p0_3), .val (.int p0_4), .val (.int ((p0_0 &&& (2147483647 : Int32)) % (3 : Int32))), .val (.ref wFINE), .val (.int i127), .val (.int i130), .val (.int (own_F1 p0_1 p0_2 p0_3 i127 i130 (0 : Int32) (0 : Int32)))] [(.int (0 : Int32))])) (fun t k => ?_) ?_
            · show Steps p.tables e below (T134.setTop (mkF m 92 #[.val (.int p0_0), .val (.int p0_1), .val (.int p0_2), .val (.int p0_3), .val (.int p0_4), .val (.int ((p0_0 &&& (2147483647 : Int32)) % (3 : Int32))), .val (.ref wFINE), .val (.int i127), .val (.int i130), .val (.int (own_F1 p0_1 p0_2 p0_3 i127 i130 (0 : Int32) (0 : Int32)))] [(.int (own_F2 ((p0_0 &&& (2147483647 : Int32)) % (3 : Int32)) p0_1 p0_2 p0_3 i127 i130)), (.int (own_F1 p0_1 p0_2 p0_3 i127 i130 (0 : Int32) (0 : Int32)))])) t
              refine XS.icmpYes X134.here hx rfl (pc0 := 92) (pc' := 99) rfl (hb hby at_92) rfl (feq hc136).2 (by decide) (by decide) ?_
              show Steps p.tables e below (T134.setTop (mkF m 99 #[.val (.int p0_0), .val (.int p0_1), .val (.int p0_2), .val (.int p0_3), .val (.int p0_4), .val (.int ((p0_0 &&& (2147483647 : Int32)) % (3 : Int32))), .val (.ref wFINE), .val (.int i127), .val (.int i130), .val (.int (own_F1 p0_1 p0_2 p0_3 i127 i130 (0 : Int32) (0 : Int32)))] [])) t
              refine XS.iconst X134.here hx rfl (hb hby at_99) ?_
              show Steps p.tables e below (T134.setTop (mkF m 100 #[.val (.int p0_0), .val (.int p0_1), .val (.int p0_2), .val (.int p0_3), .val (.int p0_4), .val (.int ((p0_0 &&& (2147483647 : Int32)) % (3 : Int32))), .val (.ref wFINE), .val (.int i127), .val (.int i130), .val (.int (own_F1 p0_1 p0_2 p0_3 i127 i130 (0 : Int32) (0 : Int32)))] [(.int (0 : Int32))])) t
              exact k
            rw [show own_F0_62_4 p0_0 p0_1 p0_2 p0_3 p0_4 i127 i130 = (0 : Int32) from ((if_neg hc136).trans rfl)]
            exact own_retN X134 hx (t := .boolean) Bd.returns (by simp) (hb hby at_100) hlk (by decide) (by decide) ⟨rfl, N135⟩
        by_cases hc129 : (p0_4 &&& (2 : Int32)) = (0 : Int32)
        · skip
          refine own_by (T' := T128) (g' := (mkF m 62 #[.val (.int p0_0), .val (.int p0_1), .val (.int p0_2), .val (.int p0_3), .val (.int p0_4), .val (.int ((p0_0 &&& (2147483647 : Int32)) % (3 : Int32))), .val (.ref wFINE), .val (.int i127), .unset, .unset] [(.int (0 : Int32))])) (fun t k => ?_) ?_
          · show Steps p.tables e below (T128.setTop (mkF m 54 #[.val (.int p0_0), .val (.int p0_1), .val (.int p0_2), .val (.int p0_3), .val (.int p0_4), .val (.int ((p0_0 &&& (2147483647 : Int32)) % (3 : Int32))), .val (.ref wFINE), .val (.int i127), .unset, .unset] [(.int (p0_4 &&& (2 : Int32)))])) t
            refine XS.ifYes X128.here hx rfl (pc0 := 54) (pc' := 61) rfl (hb hby at_54) rfl ((if0 _ _).trans (teq hc129).1) (by decide) (by decide) ?_
            show Steps p.tables e below (T128.setTop (mkF m 61 #[.val (.int p0_0), .val (.int p0_1), .val (.int p0_2), .val (.int p0_3), .val (.int p0_4), .val (.int ((p0_0 &&& (2147483647 : Int32)) % (3 : Int32))), .val (.ref wFINE), .val (.int i127), .unset, .unset] [])) t
            refine XS.iconst X128.here hx rfl (hb hby at_61) ?_
            show Steps p.tables e below (T128.setTop (mkF m 62 #[.val (.int p0_0), .val (.int p0_1), .val (.int p0_2), .val (.int p0_3), .val (.int p0_4), .val (.int ((p0_0 &&& (2147483647 : Int32)) % (3 : Int32))), .val (.ref wFINE), .val (.int i127), .unset, .unset] [(.int (0 : Int32))])) t
            exact k
          rw [show own_F0_48_3 p0_0 p0_1 p0_2 p0_3 p0_4 i127 = (own_F0_62_4 p0_0 p0_1 p0_2 p0_3 p0_4 i127 (0 : Int32)) from ((if_pos hc129).trans rfl)]
          exact J0_4 _ _ (0 : Int32) X128 e128 N128
        · skip
          refine own_by (T' := T128) (g' := (mkF m 62 #[.val (.int p0_0), .val (.int p0_1), .val (.int p0_2), .val (.int p0_3), .val (.int p0_4), .val (.int ((p0_0 &&& (2147483647 : Int32)) % (3 : Int32))), .val (.ref wFINE), .val (.int i127), .unset, .unset] [(.int (1 : Int32))])) (fun t k => ?_) ?_
          · show Steps p.tables e below (T128.setTop (mkF m 54 #[.val (.int p0_0), .val (.int p0_1), .val (.int p0_2), .val (.int p0_3), .val (.int p0_4), .val (.int ((p0_0 &&& (2147483647 : Int32)) % (3 : Int32))), .val (.ref wFINE), .val (.int i127), .unset, .unset] [(.int (p0_4 &&& (2 : Int32)))])) t
            refine XS.ifNo X128.here hx rfl (hb hby at_54) rfl ((if0 _ _).trans (feq hc129).1) ?_
            show Steps p.tables e below (T128.setTop (mkF m 57 #[.val (.int p0_0), .val (.int p0_1), .val (.int p0_2), .val (.int p0_3), .val (.int p0_4), .val (.int ((p0_0 &&& (2147483647 : Int32)) % (3 : Int32))), .val (.ref wFINE), .val (.int i127), .unset, .unset] [])) t
            refine XS.iconst X128.here hx rfl (hb hby at_57) ?_
            show Steps p.tables e below (T128.setTop (mkF m 58 #[.val (.int p0_0), .val (.int p0_1), .val (.int p0_2), .val (.int p0_3), .val (.int p0_4), .val (.int ((p0_0 &&& (2147483647 : Int32)) % (3 : Int32))), .val (.ref wFINE), .val (.int i127), .unset, .unset] [(.int (1 : Int32))])) t
            refine XS.goto X128.here hx rfl (pc0 := 58) (pc' := 62) rfl (hb hby at_58) (by decide) (by decide) ?_
            show Steps p.tables e below (T128.setTop (mkF m 62 #[.val (.int p0_0), .val (.int p0_1), .val (.int p0_2), .val (.int p0_3), .val (.int p0_4), .val (.int ((p0_0 &&& (2147483647 : Int32)) % (3 : Int32))), .val (.ref wFINE), .val (.int i127), .unset, .unset] [(.int (1 : Int32))])) t
            exact k
          rw [show own_F0_48_3 p0_0 p0_1 p0_2 p0_3 p0_4 i127 = (own_F0_62_4 p0_0 p0_1 p0_2 p0_3 p0_4 i127 (1 : Int32)) from ((if_neg hc129).trans rfl)]
          exact J0_4 _ _ (1 : Int32) X128 e128 N128
      by_cases hc126 : (p0_4 &&& (1 : Int32)) = (0 : Int32)
      · skip
        refine own_by (T' := T125) (g' := (mkF m 48 #[.val (.int p0_0), .val (.int p0_1), .val (.int p0_2), .val (.int p0_3), .val (.int p0_4), .val (.int ((p0_0 &&& (2147483647 : Int32)) % (3 : Int32))), .val (.ref wFINE), .unset, .unset, .unset] [(.int (0 : Int32))])) (fun t k => ?_) ?_
        · show Steps p.tables e below (T125.setTop (mkF m 40 #[.val (.int p0_0), .val (.int p0_1), .val (.int p0_2), .val (.int p0_3), .val (.int p0_4), .val (.int ((p0_0 &&& (2147483647 : Int32)) % (3 : Int32))), .val (.ref wFINE), .unset, .unset, .unset] [(.int (p0_4 &&& (1 : Int32)))])) t
          refine XS.ifYes X125.here hx rfl (pc0 := 40) (pc' := 47) rfl (hb hby at_40) rfl ((if0 _ _).trans (teq hc126).1) (by decide) (by decide) ?_
          show Steps p.tables e below (T125.setTop (mkF m 47 #[.val (.int p0_0), .val (.int p0_1), .val (.int p0_2), .val (.int p0_3), .val (.int p0_4), .val (.int ((p0_0 &&& (2147483647 : Int32)) % (3 : Int32))), .val (.ref wFINE), .unset, .unset, .unset] [])) t
          refine XS.iconst X125.here hx rfl (hb hby at_47) ?_
          show Steps p.tables e below (T125.setTop (mkF m 48 #[.val (.int p0_0), .val (.int p0_1), .val (.int p0_2), .val (.int p0_3), .val (.int p0_4), .val (.int ((p0_0 &&& (2147483647 : Int32)) % (3 : Int32))), .val (.ref wFINE), .unset, .unset, .unset] [(.int (0 : Int32))])) t
          exact k
        rw [show own_F0 p0_0 p0_1 p0_2 p0_3 p0_4 = (own_F0_48_3 p0_0 p0_1 p0_2 p0_3 p0_4 (0 : Int32)) from ((if_neg hc105).trans ((if_pos hc122).trans ((if_pos hc126).trans rfl)))]
        exact J0_3 _ _ (0 : Int32) X125 e125 N0
      · skip
        refine own_by (T' := T125) (g' := (mkF m 48 #[.val (.int p0_0), .val (.int p0_1), .val (.int p0_2), .val (.int p0_3), .val (.int p0_4), .val (.int ((p0_0 &&& (2147483647 : Int32)) % (3 : Int32))), .val (.ref wFINE), .unset, .unset, .unset] [(.int (1 : Int32))])) (fun t k => ?_) ?_
        · show Steps p.tables e below (T125.setTop (mkF m 40 #[.val (.int p0_0), .val (.int p0_1), .val (.int p0_2), .val (.int p0_3), .val (.int p0_4), .val (.int ((p0_0 &&& (2147483647 : Int32)) % (3 : Int32))), .val (.ref wFINE), .unset, .unset, .unset] [(.int (p0_4 &&& (1 : Int32)))])) t
          refine XS.ifNo X125.here hx rfl (hb hby at_40) rfl ((if0 _ _).trans (feq hc126).1) ?_
          show Steps p.tables e below (T125.setTop (mkF m 43 #[.val (.int p0_0), .val (.int p0_1), .val (.int p0_2), .val (.int p0_3), .val (.int p0_4), .val (.int ((p0_0 &&& (2147483647 : Int32)) % (3 : Int32))), .val (.ref wFINE), .unset, .unset, .unset] [])) t
          refine XS.iconst X125.here hx rfl (hb hby at_43) ?_
          show Steps p.tables e below (T125.setTop (mkF m 44 #[.val (.int p0_0), .val (.int p0_1), .val (.int p0_2), .val (.int p0_3), .val (.int p0_4), .val (.int ((p0_0 &&& (2147483647 : Int32)) % (3 : Int32))), .val (.ref wFINE), .unset, .unset, .unset] [(.int (1 : Int32))])) t
          refine XS.goto X125.here hx rfl (pc0 := 44) (pc' := 48) rfl (hb hby at_44) (by decide) (by decide) ?_
          show Steps p.tables e below (T125.setTop (mkF m 48 #[.val (.int p0_0), .val (.int p0_1), .val (.int p0_2), .val (.int p0_3), .val (.int p0_4), .val (.int ((p0_0 &&& (2147483647 : Int32)) % (3 : Int32))), .val (.ref wFINE), .unset, .unset, .unset] [(.int (1 : Int32))])) t
          exact k
        rw [show own_F0 p0_0 p0_1 p0_2 p0_3 p0_4 = (own_F0_48_3 p0_0 p0_1 p0_2 p0_3 p0_4 (1 : Int32)) from ((if_neg hc105).trans ((if_pos hc122).trans ((if_neg hc126).trans rfl)))]
        exact J0_3 _ _ (1 : Int32) X125 e125 N0
    · skip
      refine own_by (T' := s₁) (g' := (mkF m 31 #[.val (.int p0_0), .val (.int p0_1), .val (.int p0_2), .val (.int p0_3), .val (.int p0_4), .val (.int ((p0_0 &&& (2147483647 : Int32)) % (3 : Int32))), .unset, .unset, .unset, .unset] [])) (fun t k => ?_) ?_
      · show Steps p.tables e below (s₁.setTop (mkF m 22 #[.val (.int p0_0), .val (.int p0_1), .val (.int p0_2), .val (.int p0_3), .val (.int p0_4), .val (.int ((p0_0 &&& (2147483647 : Int32)) % (3 : Int32))), .unset, .unset, .unset, .unset] [(.int (1 : Int32)), (.int ((p0_0 &&& (2147483647 : Int32)) % (3 : Int32)))])) t
        refine XS.icmpYes X0.here hx rfl (pc0 := 22) (pc' := 31) rfl (hb hby at_22) rfl (feq hc122).2 (by decide) (by decide) ?_
        show Steps p.tables e below (s₁.setTop (mkF m 31 #[.val (.int p0_0), .val (.int p0_1), .val (.int p0_2), .val (.int p0_3), .val (.int p0_4), .val (.int ((p0_0 &&& (2147483647 : Int32)) % (3 : Int32))), .unset, .unset, .unset, .unset] [])) t
        exact k
      obtain ⟨T137, X137, e137, st137⟩ := getS2 X0 hx hZ hown (host := "") (Or.inl (hw _ (List.mem_of_getElem? (i := 17) rfl))) Via.refl e0 (EN.2.2.2.2.1.ext O0.2) (g := (mkF m 31 #[.val (.int p0_0), .val (.int p0_1), .val (.int p0_2), .val (.int p0_3), .val (.int p0_4), .val (.int ((p0_0 &&& (2147483647 : Int32)) % (3 : Int32))), .unset, .unset, .unset, .unset] [])) rfl (hb hby at_31)
      refine own_by (T' := T137) (g' := (mkF m 34 #[.val (.int p0_0), .val (.int p0_1), .val (.int p0_2), .val (.int p0_3), .val (.int p0_4), .val (.int ((p0_0 &&& (2147483647 : Int32)) % (3 : Int32))), .unset, .unset, .unset, .unset] [(.ref wDEEP)])) st137 ?_
      refine own_by (T' := T137) (g' := (mkF m 40 #[.val (.int p0_0), .val (.int p0_1), .val (.int p0_2), .val (.int p0_3), .val (.int p0_4), .val (.int ((p0_0 &&& (2147483647 : Int32)) % (3 : Int32))), .val (.ref wDEEP), .unset, .unset, .unset] [(.int (p0_4 &&& (1 : Int32)))])) (fun t k => ?_) ?_
      · show Steps p.tables e below (T137.setTop (mkF m 34 #[.val (.int p0_0), .val (.int p0_1), .val (.int p0_2), .val (.int p0_3), .val (.int p0_4), .val (.int ((p0_0 &&& (2147483647 : Int32)) % (3 : Int32))), .unset, .unset, .unset, .unset] [(.ref wDEEP)])) t
        refine XS.astore X137.here hx rfl (hb hby at_34) rfl rfl (l' := #[.val (.int p0_0), .val (.int p0_1), .val (.int p0_2), .val (.int p0_3), .val (.int p0_4), .val (.int ((p0_0 &&& (2147483647 : Int32)) % (3 : Int32))), .val (.ref wDEEP), .unset, .unset, .unset]) rfl ?_
        show Steps p.tables e below (T137.setTop (mkF m 36 #[.val (.int p0_0), .val (.int p0_1), .val (.int p0_2), .val (.int p0_3), .val (.int p0_4), .val (.int ((p0_0 &&& (2147483647 : Int32)) % (3 : Int32))), .val (.ref wDEEP), .unset, .unset, .unset] [])) t
        refine XS.iload X137.here hx rfl (hb hby at_36) rfl ?_
        show Steps p.tables e below (T137.setTop (mkF m 38 #[.val (.int p0_0), .val (.int p0_1), .val (.int p0_2), .val (.int p0_3), .val (.int p0_4), .val (.int ((p0_0 &&& (2147483647 : Int32)) % (3 : Int32))), .val (.ref wDEEP), .unset, .unset, .unset] [(.int p0_4)])) t
        refine XS.iconst X137.here hx rfl (hb hby at_38) ?_
        show Steps p.tables e below (T137.setTop (mkF m 39 #[.val (.int p0_0), .val (.int p0_1), .val (.int p0_2), .val (.int p0_3), .val (.int p0_4), .val (.int ((p0_0 &&& (2147483647 : Int32)) % (3 : Int32))), .val (.ref wDEEP), .unset, .unset, .unset] [(.int (1 : Int32)), (.int p0_4)])) t
        refine XS.iand X137.here hx rfl (hb hby at_39) rfl ?_
        show Steps p.tables e below (T137.setTop (mkF m 40 #[.val (.int p0_0), .val (.int p0_1), .val (.int p0_2), .val (.int p0_3), .val (.int p0_4), .val (.int ((p0_0 &&& (2147483647 : Int32)) % (3 : Int32))), .val (.ref wDEEP), .unset, .unset, .unset] [(.int (p0_4 &&& (1 : Int32)))])) t
        exact k
      have J0_5 : ∀ (T140 : State) (L140 : List Loc) (i139 : Int32), Stand p l e room_1 s m #[(.int p0_0), (.int p0_1), (.int p0_2), (.int p0_3), (.int p0_4)] below meth c T140 L140 0 0 → T140.heap = h0 → Fr n0 L140 → own_Go p e below (own_P s below room_1 (own_Q0 (own_F0_48_5 p0_0 p0_1 p0_2 p0_3 p0_4 i139) h0 n0)) T140 (mkF m 48 #[.val (.int p0_0), .val (.int p0_1), .val (.int p0_2), .val (.int p0_3), .val (.int p0_4), .val (.int ((p0_0 &&& (2147483647 : Int32)) % (3 : Int32))), .val (.ref wDEEP), .unset, .unset, .unset] [(.int i139)]) := by
        intro T140 L140 i139 X140 e140 N140
        refine own_by (T' := T140) (g' := (mkF m 54 #[.val (.int p0_0), .val (.int p0_1), .val (.int p0_2), .val (.int p0_3), .val (.int p0_4), .val (.int ((p0_0 &&& (2147483647 : Int32)) % (3 : Int32))), .val (.ref wDEEP), .val (.int i139), .unset, .unset] [(.int (p0_4 &&& (2 : Int32)))])) (fun t k => ?_) ?_
        · show Steps p.tables e below (T140.setTop (mkF m 48 #[.val (.int p0_0), .val (.int p0_1), .val (.int p0_2), .val (.int p0_3), .val (.int p0_4), .val (.int ((p0_0 &&& (2147483647 : Int32)) % (3 : Int32))), .val (.ref wDEEP), .unset, .unset, .unset] [(.int i139)])) t
          refine XS.istore X140.here hx rfl (hb hby at_48) rfl (l' := #[.val (.int p0_0), .val (.int p0_1), .val (.int p0_2), .val (.int p0_3), .val (.int p0_4), .val (.int ((p0_0 &&& (2147483647 : Int32)) % (3 : Int32))), .val (.ref wDEEP), .val (.int i139), .unset, .unset]) rfl ?_
          show Steps p.tables e below (T140.setTop (mkF m 50 #[.val (.int p0_0), .val (.int p0_1), .val (.int p0_2), .val (.int p0_3), .val (.int p0_4), .val (.int ((p0_0 &&& (2147483647 : Int32)) % (3 : Int32))), .val (.ref wDEEP), .val (.int i139), .unset, .unset] [])) t
          refine XS.iload X140.here hx rfl (hb hby at_50) rfl ?_
          show Steps p.tables e below (T140.setTop (mkF m 52 #[.val (.int p0_0), .val (.int p0_1), .val (.int p0_2), .val (.int p0_3), .val (.int p0_4), .val (.int ((p0_0 &&& (2147483647 : Int32)) % (3 : Int32))), .val (.ref wDEEP), .val (.int i139), .unset, .unset] [(.int p0_4)])) t
          refine XS.iconst X140.here hx rfl (hb hby at_52) ?_
          show Steps p.tables e below (T140.setTop (mkF m 53 #[.val (.int p0_0), .val (.int p0_1), .val (.int p0_2), .val (.int p0_3), .val (.int p0_4), .val (.int ((p0_0 &&& (2147483647 : Int32)) % (3 : Int32))), .val (.ref wDEEP), .val (.int i139), .unset, .unset] [(.int (2 : Int32)), (.int p0_4)])) t
          refine XS.iand X140.here hx rfl (hb hby at_53) rfl ?_
          show Steps p.tables e below (T140.setTop (mkF m 54 #[.val (.int p0_0), .val (.int p0_1), .val (.int p0_2), .val (.int p0_3), .val (.int p0_4), .val (.int ((p0_0 &&& (2147483647 : Int32)) % (3 : Int32))), .val (.ref wDEEP), .val (.int i139), .unset, .unset] [(.int (p0_4 &&& (2 : Int32)))])) t
          exact k
        have J0_6 : ∀ (T143 : State) (L143 : List Loc) (i142 : Int32), Stand p l e room_1 s m #[(.int p0_0), (.int p0_1), (.int p0_2), (.int p0_3), (.int p0_4)] below meth c T143 L143 0 0 → T143.heap = h0 → Fr n0 L143 → own_Go p e below (own_P s below room_1 (own_Q0 (own_F0_62_6 p0_0 p0_1 p0_2 p0_3 p0_4 i139 i142) h0 n0)) T143 (mkF m 62 #[.val (.int p0_0), .val (.int p0_1), .val (.int p0_2), .val (.int p0_3), .val (.int p0_4), .val (.int ((p0_0 &&& (2147483647 : Int32)) % (3 : Int32))), .val (.ref wDEEP), .val (.int i139), .unset, .unset] [(.int i142)]) := by
          intro T143 L143 i142 X143 e143 N143
          refine own_by (T' := T143) (g' := (mkF m 73 #[.val (.int p0_0), .val (.int p0_1), .val (.int p0_2), .val (.int p0_3), .val (.int p0_4), .val (.int ((p0_0 &&& (2147483647 : Int32)) % (3 : Int32))), .val (.ref wDEEP), .val (.int i139), .val (.int i142), .unset] [(.int i142), (.int i139), (.int p0_3), (.int p0_2), (.int p0_1), (.ref wDEEP)])) (fun t k => ?_) ?_
          · show Steps p.tables e below (T143.setTop (mkF m 62 #[.val (.int p0_0), .val (.int p0_1), .val (.int p0_2), .val (.int p0_3), .val (.int p0_4), .val (.int ((p0_0 &&& (2147483647 : Int32)) % (3 : Int32))), .val (.ref wDEEP), .val (.int i139), .unset, .unset] [(.int i142)])) t
            refine XS.istore X143.here hx rfl (hb hby at_62) rfl (l' := #[.val (.int p0_0), .val (.int p0_1), .val (.int p0_2), .val (.int p0_3), .val (.int p0_4), .val (.int ((p0_0 &&& (2147483647 : Int32)) % (3 : Int32))), .val (.ref wDEEP), .val (.int i139), .val (.int i142), .unset]) rfl ?_
            show Steps p.tables e below (T143.setTop (mkF m 64 #[.val (.int p0_0), .val (.int p0_1), .val (.int p0_2), .val (.int p0_3), .val (.int p0_4), .val (.int ((p0_0 &&& (2147483647 : Int32)) % (3 : Int32))), .val (.ref wDEEP), .val (.int i139), .val (.int i142), .unset] [])) t
            refine XS.aload X143.here hx rfl (hb hby at_64) rfl rfl ?_
            show Steps p.tables e below (T143.setTop (mkF m 66 #[.val (.int p0_0), .val (.int p0_1), .val (.int p0_2), .val (.int p0_3), .val (.int p0_4), .val (.int ((p0_0 &&& (2147483647 : Int32)) % (3 : Int32))), .val (.ref wDEEP), .val (.int i139), .val (.int i142), .unset] [(.ref wDEEP)])) t
            refine XS.iloadN X143.here hx rfl (hb hby at_66) rfl ?_
            show Steps p.tables e below (T143.setTop (mkF m 67 #[.val (.int p0_0), .val (.int p0_1), .val (.int p0_2), .val (.int p0_3), .val (.int p0_4), .val (.int ((p0_0 &&& (2147483647 : Int32)) % (3 : Int32))), .val (.ref wDEEP), .val (.int i139), .val (.int i142), .unset] [(.int p0_1), (.ref wDEEP)])) t
            refine XS.iloadN X143.here hx rfl (hb hby at_67) rfl ?_
            show Steps p.tables e below (T143.setTop (mkF m 68 #[.val (.int p0_0), .val (.int p0_1), .val (.int p0_2), .val (.int p0_3), .val (.int p0_4), .val (.int ((p0_0 &&& (2147483647 : Int32)) % (3 : Int32))), .val (.ref wDEEP), .val (.int i139), .val (.int i142), .unset] [(.int p0_2), (.int p0_1), (.ref wDEEP)])) t
            refine XS.iloadN X143.here hx rfl (hb hby at_68) rfl ?_
            show Steps p.tables e below (T143.setTop (mkF m 69 #[.val (.int p0_0), .val (.int p0_1), .val (.int p0_2), .val (.int p0_3), .val (.int p0_4), .val (.int ((p0_0 &&& (2147483647 : Int32)) % (3 : Int32))), .val (.ref wDEEP), .val (.int i139), .val (.int i142), .unset] [(.int p0_3), (.int p0_2), (.int p0_1), (.ref wDEEP)])) t
            refine XS.iload X143.here hx rfl (hb hby at_69) rfl ?_
            show Steps p.tables e below (T143.setTop (mkF m 71 #[.val (.int p0_0), .val (.int p0_1), .val (.int p0_2), .val (.int p0_3), .val (.int p0_4), .val (.int ((p0_0 &&& (2147483647 : Int32)) % (3 : Int32))), .val (.ref wDEEP), .val (.int i139), .val (.int i142), .unset] [(.int i139), (.int p0_3), (.int p0_2), (.int p0_1), (.ref wDEEP)])) t
            refine XS.iload X143.here hx rfl (hb hby at_71) rfl ?_
            show Steps p.tables e below (T143.setTop (mkF m 73 #[.val (.int p0_0), .val (.int p0_1), .val (.int p0_2), .val (.int p0_3), .val (.int p0_4), .val (.int ((p0_0 &&& (2147483647 : Int32)) % (3 : Int32))), .val (.ref wDEEP), .val (.int i139), .val (.int i142), .unset] [(.int i142), (.int i139), (.int p0_3), (.int p0_2), (.int p0_1), (.ref wDEEP)])) t
            exact k
          obtain ⟨cq144, kq144, q144a, q144b, q144c⟩ := isOf hZ e143 (EN.2.2.2.2.2.1.ext O0.2)
          obtain ⟨v144, _, ⟨T144, L144, k144, n144⟩, -, X144, ⟨Lc144, hQ144, l144, y144, z144⟩, st144⟩ := X143.virtualBack hx (y := (⟨"com/example/rundown/rundown/symbolic/Precision", "isExact", "(IIIZZ)Z"⟩ : MethodName)) (z := (⟨"com/example/rundown/rundown/symbolic/Precision", "isExact", "(IIIZZ)Z"⟩ : MethodName)) hown (mvT hZ (hw _ (List.mem_of_getElem? (i := 4) rfl))) (mvT hZ (hw _ (List.mem_of_getElem? (i := 5) rfl))) (notFace_of_selects (args := #[]) (mvT hZ (hw _ (List.mem_of_getElem? (i := 7) rfl)))) (mvT hZ (hw _ (List.mem_of_getElem? (i := 7) rfl))) (mvT hZ (hw _ (List.mem_of_getElem? (i := 6) rfl))) (by decide) (backOf (W := 0) (own_rm1 l Z a0 hw [] wDEEP p0_1 p0_2 p0_3 i139 i142 (33 : Int32) (256 : Int32) h0 n0 Z0 (EN.2.2.2.2.2.2.1.ext O0.2) (EN.2.2.2.2.2.2.2.1.ext O0.2)) hZ (hw _ (List.mem_of_getElem? (i := 8) rfl)) (hw _ (List.mem_of_getElem? (i := 2) rfl)) (by decide) (by decide)) q144a q144c (g := (mkF m 73 #[.val (.int p0_0), .val (.int p0_1), .val (.int p0_2), .val (.int p0_3), .val (.int p0_4), .val (.int ((p0_0 &&& (2147483647 : Int32)) % (3 : Int32))), .val (.ref wDEEP), .val (.int i139), .val (.int i142), .unset] [(.int i142), (.int i139), (.int p0_3), (.int p0_2), (.int p0_1), (.ref wDEEP)])) rfl (by rw [hml]; rfl) (Steps.refl _) (argsL := [(.int p0_1), (.int p0_2), (.int p0_3), (.int i139), (.int i142)]) (rest := []) (lenOf pd__IIIZZ_Z rfl) rfl (by show 2 * 0 + _ ≤ _; exact Nat.le_of_eq rfl) (hb hby at_73) (fun _ _ => ⟨rfl, e143, (by decide : 0 + 0 ≤ _), (by decide : 0 + 0 ≤ _)⟩)
          dsimp only [Pt.U, Pt.locs, Pt.cells, Pt.slots] at X144 l144 y144 z144 st144 hQ144
          subst l144 y144 z144
          obtain ⟨rfl, M144, e144⟩ := hQ144
          have N145 := Fr.app N143 M144
          refine own_via (T' := T144) (g' := (mkF m 76 #[.val (.int p0_0), .val (.int p0_1), .val (.int p0_2), .val (.int p0_3), .val (.int p0_4), .val (.int ((p0_0 &&& (2147483647 : Int32)) % (3 : Int32))), .val (.ref wDEEP), .val (.int i139), .val (.int i142), .unset] [(.int (own_F1 p0_1 p0_2 p0_3 i139 i142 (33 : Int32) (256 : Int32)))])) st144 ?_
          refine own_by (T' := T144) (g' := (mkF m 89 #[.val (.int p0_0), .val (.int p0_1), .val (.int p0_2), .val (.int p0_3), .val (.int p0_4), .val (.int ((p0_0 &&& (2147483647 : Int32)) % (3 : Int32))), .val (.ref wDEEP), .val (.int i139), .val (.int i142), .val (.int (own_F1 p0_1 p0_2 p0_3 i139 i142 (33 : Int32) (256 : Int32)))] [(.int i142), (.int i139), (.int p0_3), (.int p0_2), (.int p0_1), (.int ((p0_0 &&& (2147483647 : Int32)) % (3 : Int32))), (.int (own_F1 p0_1 p0_2 p0_3 i139 i142 (33 : Int32) (256 : Int32)))])) (fun t k => ?_) ?_
          · show Steps p.tables e below (T144.setTop (mkF m 76 #[.val (.int p0_0), .val (.int p0_1), .val (.int p0_2), .val (.int p0_3), .val (.int p0_4), .val (.int ((p0_0 &&& (2147483647 : Int32)) % (3 : Int32))), .val (.ref wDEEP), .val (.int i139), .val (.int i142), .unset] [(.int (own_F1 p0_1 p0_2 p0_3 i139 i142 (33 : Int32) (256 : Int32)))])) t
            refine XS.istore X144.here hx rfl (hb hby at_76) rfl (l' := #[.val (.int p0_0), .val (.int p0_1), .val (.int p0_2), .val (.int p0_3), .val (.int p0_4), .val (.int ((p0_0 &&& (2147483647 : Int32)) % (3 : Int32))), .val (.ref wDEEP), .val (.int i139), .val (.int i142), .val (.int (own_F1 p0_1 p0_2 p0_3 i139 i142 (33 : Int32) (256 : Int32)))]) rfl ?_
            show Steps p.tables e below (T144.setTop (mkF m 78 #[.val (.int p0_0), .val (.int p0_1), .val (.int p0_2), .val (.int p0_3), .val (.int p0_4), .val (.int ((p0_0 &&& (2147483647 : Int32)) % (3 : Int32))), .val (.ref wDEEP), .val (.int i139), .val (.int i142), .val (.int (own_F1 p0_1 p0_2 p0_3 i139 i142 (33 : Int32) (256 : Int32)))] [])) t
            refine XS.iload X144.here hx rfl (hb hby at_78) rfl ?_
            show Steps p.tables e below (T144.setTop (mkF m 80 #[.val (.int p0_0), .val (.int p0_1), .val (.int p0_2), .val (.int p0_3), .val (.int p0_4), .val (.int ((p0_0 &&& (2147483647 : Int32)) % (3 : Int32))), .val (.ref wDEEP), .val (.int i139), .val (.int i142), .val (.int (own_F1 p0_1 p0_2 p0_3 i139 i142 (33 : Int32) (256 : Int32)))] [(.int (own_F1 p0_1 p0_2 p0_3 i139 i142 (33 : Int32) (256 : Int32)))])) t
            refine XS.iload X144.here hx rfl (hb hby at_80) rfl ?_
            show Steps p.tables e below (T144.setTop (mkF m 82 #[.val (.int p0_0), .val (.int p0_1), .val (.int p0_2), .val (.int p0_3), .val (.int p0_4), .val (.int ((p0_0 &&& (2147483647 : Int32)) % (3 : Int32))), .val (.ref wDEEP), .val (.int i139), .val (.int i142), .val (.int (own_F1 p0_1 p0_2 p0_3 i139 i142 (33 : Int32) (256 : Int32)))] [(.int ((p0_0 &&& (2147483647 : Int32)) % (3 : Int32))), (.int (own_F1 p0_1 p0_2 p0_3 i139 i142 (33 : Int32) (256 : Int32)))])) t
            refine XS.iloadN X144.here hx rfl (hb hby at_82) rfl ?_
            show Steps p.tables e below (T144.setTop (mkF m 83 #[.val (.int p0_0), .val (.int p0_1), .val (.int p0_2), .val (.int p0_3), .val (.int p0_4), .val (.int ((p0_0 &&& (2147483647 : Int32)) % (3 : Int32))), .val (.ref wDEEP), .val (.int i139), .val (.int i142), .val (.int (own_F1 p0_1 p0_2 p0_3 i139 i142 (33 : Int32) (256 : Int32)))] [(.int p0_1), (.int ((p0_0 &&& (2147483647 : Int32)) % (3 : Int32))), (.int (own_F1 p0_1 p0_2 p0_3 i139 i142 (33 : Int32) (256 : Int32)))])) t
            refine XS.iloadN X144.here hx rfl (hb hby at_83) rfl ?_
            show Steps p.tables e below (T144.setTop (mkF m 84 #[.val (.int p0_0), .val (.int p0_1), .val (.int p0_2), .val (.int p0_3), .val (.int p0_4), .val (.int ((p0_0 &&& (2147483647 : Int32)) % (3 : Int32))), .val (.ref wDEEP), .val (.int i139), .val (.int i142), .val (.int (own_F1 p0_1 p0_2 p0_3 i139 i142 (33 : Int32) (256 : Int32)))] [(.int p0_2), (.int p0_1), (.int ((p0_0 &&& (2147483647 : Int32)) % (3 : Int32))), (.int (own_F1 p0_1 p0_2 p0_3 i139 i142 (33 : Int32) (256 : Int32)))])) t
            refine XS.iloadN X144.here hx rfl (hb hby at_84) rfl ?_
            show Steps p.tables e below (T144.setTop (mkF m 85 #[.val (.int p0_0), .val (.int p0_1), .val (.int p0_2), .val (.int p0_3), .val (.int p0_4), .val (.int ((p0_0 &&& (2147483647 : Int32)) % (3 : Int32))), .val (.ref wDEEP), .val (.int i139), .val (.int i142), .val (.int (own_F1 p0_1 p0_2 p0_3 i139 i142 (33 : Int32) (256 : Int32)))] [(.int p0_3), (.int p0_2), (.int p0_1), (.int ((p0_0 &&& (2147483647 : Int32)) % (3 : Int32))), (.int (own_F1 p0_1 p0_2 p0_3 i139 i142 (33 : Int32) (256 : Int32)))])) t
            refine XS.iload X144.here hx rfl (hb hby at_85) rfl ?_
            show Steps p.tables e below (T144.setTop (mkF m 87 #[.val (.int p0_0), .val (.int p0_1), .val (.int p0_2), .val (.int p0_3), .val (.int p0_4), .val (.int ((p0_0 &&& (2147483647 : Int32)) % (3 : Int32))), .val (.ref wDEEP), .val (.int i139), .val (.int i142), .val (.int (own_F1 p0_1 p0_2 p0_3 i139 i142 (33 : Int32) (256 : Int32)))] [(.int i139), (.int p0_3), (.int p0_2), (.int p0_1), (.int ((p0_0 &&& (2147483647 : Int32)) % (3 : Int32))), (.int (own_F1 p0_1 p0_2 p0_3 i139 i142 (33 : Int32) (256 : Int32)))])) t
            refine XS.iload X144.here hx rfl (hb hby at_87) rfl ?_
            show Steps p.tables e below (T144.setTop (mkF m 89 #[.val (.int p0_0), .val (.int p0_1), .val (.int p0_2), .val (.int p0_3), .val (.int p0_4), .val (.int ((p0_0 &&& (2147483647 : Int32)) % (3 : Int32))), .val (.ref wDEEP), .val (.int i139), .val (.int i142), .val (.int (own_F1 p0_1 p0_2 p0_3 i139 i142 (33 : Int32) (256 : Int32)))] [(.int i142), (.int i139), (.int p0_3), (.int p0_2), (.int p0_1), (.int ((p0_0 &&& (2147483647 : Int32)) % (3 : Int32))), (.int (own_F1 p0_1 p0_2 p0_3 i139 i142 (33 : Int32) (256 : Int32)))])) t
            exact k
          obtain ⟨v146, _, ⟨T146, L146, k146, n146⟩, -, X146, ⟨Lc146, hQ146, l146, y146, z146⟩, st146⟩ := Jvm.LawKit.callS X144 hx (y := (⟨"com/example/rundown/rundown/symbolic/PrecisionIsExactPinLaw", "expected", "(IIIIZZ)Z"⟩ : MethodName)) hown (mvT hZ (hw _ (List.mem_of_getElem? (i := 13) rfl))) (mvT hZ (hw _ (List.mem_of_getElem? (i := 14) rfl))) (mvT hZ (hw _ (List.mem_of_getElem? (i := 15) rfl))) (mvT hZ (hw _ (List.mem_of_getElem? (i := 16) rfl))) (by decide) (backOf (W := 1) (own_rm2 l Z a0 hw [] ((p0_0 &&& (2147483647 : Int32)) % (3 : Int32)) p0_1 p0_2 p0_3 i139 i142 h0 n0 Z0) hZ (hw _ (List.mem_of_getElem? (i := 16) rfl)) (hw _ (List.mem_of_getElem? (i := 15) rfl)) (by decide) (by decide)) (g := (mkF m 89 #[.val (.int p0_0), .val (.int p0_1), .val (.int p0_2), .val (.int p0_3), .val (.int p0_4), .val (.int ((p0_0 &&& (2147483647 : Int32)) % (3 : Int32))), .val (.ref wDEEP), .val (.int i139), .val (.int i142), .val (.int (own_F1 p0_1 p0_2 p0_3 i139 i142 (33 : Int32) (256 : Int32)))] [(.int i142), (.int i139), (.int p0_3), (.int p0_2), (.int p0_1), (.int ((p0_0 &&& (2147483647 : Int32)) % (3 : Int32))), (.int (own_F1 p0_1 p0_2 p0_3 i139 i142 (33 : Int32) (256 : Int32)))])) rfl (by rw [hml]; rfl) (argsL := [(.int ((p0_0 &&& (2147483647 : Int32)) % (3 : Int32))), (.int p0_1), (.int p0_2), (.int p0_3), (.int i139), (.int i142)]) (rest := [(.int (own_F1 p0_1 p0_2 p0_3 i139 i142 (33 : Int32) (256 : Int32)))]) (lenOf pd__IIIIZZ_Z rfl) rfl (by show 2 * 0 + _ ≤ _; exact Nat.le_of_eq rfl) (hb hby at_89) (fun _ _ => ⟨rfl, e144, (by decide : 0 + 0 ≤ _), (by decide : 0 + 0 ≤ _)⟩)
          dsimp only [Pt.U, Pt.locs, Pt.cells, Pt.slots] at X146 l146 y146 z146 st146 hQ146
          subst l146 y146 z146
          obtain ⟨rfl, M146, e146⟩ := hQ146
          have N147 := Fr.app N145 M146
          refine own_by (T' := T146) (g' := (mkF m 92 #[.val (.int p0_0), .val (.int p0_1), .val (.int p0_2), .val (.int p0_3), .val (.int p0_4), .val (.int ((p0_0 &&& (2147483647 : Int32)) % (3 : Int32))), .val (.ref wDEEP), .val (.int i139), .val (.int i142), .val (.int (own_F1 p0_1 p0_2 p0_3 i139 i142 (33 : Int32) (256 : Int32)))] [(.int (own_F2 ((p0_0 &&& (2147483647 : Int32)) % (3 : Int32)) p0_1 p0_2 p0_3 i139 i142)), (.int (own_F1 p0_1 p0_2 p0_3 i139 i142 (33 : Int32) (256 : Int32)))])) st146 ?_
          by_cases hc148 : (own_F1 p0_1 p0_2 p0_3 i139 i142 (33 : Int32) (256 : Int32)) = (own_F2 ((p0_0 &&& (2147483647 : Int32)) % (3 : Int32)) p0_1 p0_2 p0_3 i139 i142)
          · skip
            refine own_by (T' := T146) (g' := (mkF m 100 #[.val (.int p0_0), .val (.int p0_1), .val (.int p0_2), .val (.int p0_3), .val (.int p0_4), .val (.int ((p0_0 &&& (2147483647 : Int32)) % (3 : Int32))), .val (.ref wDEEP), .val (.int i139), .val (.int i142), .val (.int (own_F1 p0_1 p0_2 p0_3 i139 i142 (33 : Int32) (256 : Int32)))] [(.int (1 : Int32))])) (fun t k => ?_) ?_
            · show Steps p.tables e below (T146.setTop (mkF m 92 #[.val (.int p0_0), .val (.int p0_1), .val (.int p0_2), .val (.int p0_3), .val (.int p0_4), .val (.int ((p0_0 &&& (2147483647 : Int32)) % (3 : Int32))), .val (.ref wDEEP), .val (.int i139), .val (.int i142), .val (.int (own_F1 p0_1 p0_2 p0_3 i139 i142 (33 : Int32) (256 : Int32)))] [(.int (own_F2 ((p0_0 &&& (2147483647 : Int32)) % (3 : Int32)) p0_1 p0_2 p0_3 i139 i142)), (.int (own_F1 p0_1 p0_2 p0_3 i139 i142 (33 : Int32) (256 : Int32)))])) t
              refine XS.icmpNo X146.here hx rfl (hb hby at_92) rfl (teq hc148).2 ?_
              show Steps p.tables e below (T146.setTop (mkF m 95 #[.val (.int p0_0), .val (.int p0_1), .val (.int p0_2), .val (.int p0_3), .val (.int p0_4), .val (.int ((p0_0 &&& (2147483647 : Int32)) % (3 : Int32))), .val (.ref wDEEP), .val (.int i139), .val (.int i142), .val (.int (own_F1 p0_1 p0_2 p0_3 i139 i142 (33 : Int32) (256 : Int32)))] [])) t
              refine XS.iconst X146.here hx rfl (hb hby at_95) ?_
              show Steps p.tables e below (T146.setTop (mkF m 96 #[.val (.int p0_0), .val (.int p0_1), .val (.int p0_2), .val (.int p0_3), .val (.int p0_4), .val (.int ((p0_0 &&& (2147483647 : Int32)) % (3 : Int32))), .val (.ref wDEEP), .val (.int i139), .val (.int i142), .val (.int (own_F1 p0_1 p0_2 p0_3 i139 i142 (33 : Int32) (256 : Int32)))] [(.int (1 : Int32))])) t
              refine XS.goto X146.here hx rfl (pc0 := 96) (pc' := 100) rfl (hb hby at_96) (by decide) (by decide) ?_
              show Steps p.tables e below (T146.setTop (mkF m 100 #[.val (.int p0_0), .val (.int p0_1), .val (.int p0_2), .val (.int p0_3), .val (.int p0_4), .val (.int ((p0_0 &&& (2147483647 : Int32)) % (3 : Int32))), .val (.ref wDEEP), .val (.int i139), .val (.int i142), .val (.int (own_F1 p0_1 p0_2 p0_3 i139 i142 (33 : Int32) (256 : Int32)))] [(.int (1 : Int32))])) t
              exact k
            rw [show own_F0_62_6 p0_0 p0_1 p0_2 p0_3 p0_4 i139 i142 = (1 : Int32) from ((if_pos hc148).trans rfl)]
            exact own_retN X146 hx (t := .boolean) Bd.returns (by simp) (hb hby at_100) hlk (by decide) (by decide) ⟨rfl, N147⟩
          · skip
            refine own_by (T' := T146) (g' := (mkF m 100 #[.val (.int p0_0), .val (.int p0_1), .val (.int p0_2), .val (.int p0_3), .val (.int p0_4), .val (.int ((p0_0 &&& (2147483647 : Int32)) % (3 : Int32))), .val (.ref wDEEP), .val (.int i139), .val (.int i142), .val (.int (own_F1 p0_1 p0_2 p0_3 i139 i142 (33 : Int32) (256 : Int32)))] [(.int (0 : Int32))])) (fun t k => ?_) ?_
            · show Steps p.tables e below (T146.setTop (mkF m 92 #[.val (.int p0_0), .val (.int p0_1), .val (.int p0_2), .val (.int p0_3), .val (.int p0_4), .val (.int ((p0_0 &&& (2147483647 : Int32)) % (3 : Int32))), .val (.ref wDEEP), .val (.int i139), .val (.int i142), .val (.int (own_F1 p0_1 p0_2 p0_3 i139 i142 (33 : Int32) (256 : Int32)))] [(.int (own_F2 ((p0_0 &&& (2147483647 : Int32)) % (3 : Int32)) p0_1 p0_2 p0_3 i139 i142)), (.int (own_F1 p0_1 p0_2 p0_3 i139 i142 (33 : Int32) (256 : Int32)))])) t
              refine XS.icmpYes X146.here hx rfl (pc0 := 92) (pc' := 99) rfl (hb hby at_92) rfl (feq hc148).2 (by decide) (by decide) ?_
              show Steps p.tables e below (T146.setTop (mkF m 99 #[.val (.int p0_0), .val (.int p0_1), .val (.int p0_2), .val (.int p0_3), .val (.int p0_4), .val (.int ((p0_0 &&& (2147483647 : Int32)) % (3 : Int32))), .val (.ref wDEEP), .val (.int i139), .val (.int i142), .val (.int (own_F1 p0_1 p0_2 p0_3 i139 i142 (33 : Int32) (256 : Int32)))] [])) t
              refine XS.iconst X146.here hx rfl (hb hby at_99) ?_
              show Steps p.tables e below (T146.setTop (mkF m 100 #[.val (.int p0_0), .val (.int p0_1), .val (.int p0_2), .val (.int p0_3), .val (.int p0_4), .val (.int ((p0_0 &&& (2147483647 : Int32)) % (3 : Int32))), .val (.ref wDEEP), .val (.int i139), .val (.int i142), .val (.int (own_F1 p0_1 p0_2 p0_3 i139 i142 (33 : Int32) (256 : Int32)))] [(.int (0 : Int32))])) t
              exact k
            rw [show own_F0_62_6 p0_0 p0_1 p0_2 p0_3 p0_4 i139 i142 = (0 : Int32) from ((if_neg hc148).trans rfl)]
            exact own_retN X146 hx (t := .boolean) Bd.returns (by simp) (hb hby at_100) hlk (by decide) (by decide) ⟨rfl, N147⟩
        by_cases hc141 : (p0_4 &&& (2 : Int32)) = (0 : Int32)
        · skip
          refine own_by (T' := T140) (g' := (mkF m 62 #[.val (.int p0_0), .val (.int p0_1), .val (.int p0_2), .val (.int p0_3), .val (.int p0_4), .val (.int ((p0_0 &&& (2147483647 : Int32)) % (3 : Int32))), .val (.ref wDEEP), .val (.int i139), .unset, .unset] [(.int (0 : Int32))])) (fun t k => ?_) ?_
          · show Steps p.tables e below (T140.setTop (mkF m 54 #[.val (.int p0_0), .val (.int p0_1), .val (.int p0_2), .val (.int p0_3), .val (.int p0_4), .val (.int ((p0_0 &&& (2147483647 : Int32)) % (3 : Int32))), .val (.ref wDEEP), .val (.int i139), .unset, .unset] [(.int (p0_4 &&& (2 : Int32)))])) t
            refine XS.ifYes X140.here hx rfl (pc0 := 54) (pc' := 61) rfl (hb hby at_54) rfl ((if0 _ _).trans (teq hc141).1) (by decide) (by decide) ?_
            show Steps p.tables e below (T140.setTop (mkF m 61 #[.val (.int p0_0), .val (.int p0_1), .val (.int p0_2), .val (.int p0_3), .val (.int p0_4), .val (.int ((p0_0 &&& (2147483647 : Int32)) % (3 : Int32))), .val (.ref wDEEP), .val (.int i139), .unset, .unset] [])) t
            refine XS.iconst X140.here hx rfl (hb hby at_61) ?_
            show Steps p.tables e below (T140.setTop (mkF m 62 #[.val (.int p0_0), .val (.int p0_1), .val (.int p0_2), .val (.int p0_3), .val (.int p0_4), .val (.int ((p0_0 &&& (2147483647 : Int32)) % (3 : Int32))), .val (.ref wDEEP), .val (.int i139), .unset, .unset] [(.int (0 : Int32))])) t
            exact k
          rw [show own_F0_48_5 p0_0 p0_1 p0_2 p0_3 p0_4 i139 = (own_F0_62_6 p0_0 p0_1 p0_2 p0_3 p0_4 i139 (0 : Int32)) from ((if_pos hc141).trans rfl)]
          exact J0_6 _ _ (0 : Int32) X140 e140 N140
        · skip
          refine own_by (T' := T140) (g' := (mkF m 62 #[.val (.int p0_0), .val (.int p0_1), .val (.int p0_2), .val (.int p0_3), .val (.int p0_4), .val (.int ((p0_0 &&& (2147483647 : Int32)) % (3 : Int32))), .val (.ref wDEEP), .val (.int i139), .unset, .unset] [(.int (1 : Int32))])) (fun t k => ?_) ?_
          · show Steps p.tables e below (T140.setTop (mkF m 54 #[.val (.int p0_0), .val (.int p0_1), .val (.int p0_2), .val (.int p0_3), .val (.int p0_4), .val (.int ((p0_0 &&& (2147483647 : Int32)) % (3 : Int32))), .val (.ref wDEEP), .val (.int i139), .unset, .unset] [(.int (p0_4 &&& (2 : Int32)))])) t
            refine XS.ifNo X140.here hx rfl (hb hby at_54) rfl ((if0 _ _).trans (feq hc141).1) ?_
            show Steps p.tables e below (T140.setTop (mkF m 57 #[.val (.int p0_0), .val (.int p0_1), .val (.int p0_2), .val (.int p0_3), .val (.int p0_4), .val (.int ((p0_0 &&& (2147483647 : Int32)) % (3 : Int32))), .val (.ref wDEEP), .val (.int i139), .unset, .unset] [])) t
            refine XS.iconst X140.here hx rfl (hb hby at_57) ?_
            show Steps p.tables e below (T140.setTop (mkF m 58 #[.val (.int p0_0), .val (.int p0_1), .val (.int p0_2), .val (.int p0_3), .val (.int p0_4), .val (.int ((p0_0 &&& (2147483647 : Int32)) % (3 : Int32))), .val (.ref wDEEP), .val (.int i139), .unset, .unset] [(.int (1 : Int32))])) t
            refine XS.goto X140.here hx rfl (pc0 := 58) (pc' := 62) rfl (hb hby at_58) (by decide) (by decide) ?_
            show Steps p.tables e below (T140.setTop (mkF m 62 #[.val (.int p0_0), .val (.int p0_1), .val (.int p0_2), .val (.int p0_3), .val (.int p0_4), .val (.int ((p0_0 &&& (2147483647 : Int32)) % (3 : Int32))), .val (.ref wDEEP), .val (.int i139), .unset, .unset] [(.int (1 : Int32))])) t
            exact k
          rw [show own_F0_48_5 p0_0 p0_1 p0_2 p0_3 p0_4 i139 = (own_F0_62_6 p0_0 p0_1 p0_2 p0_3 p0_4 i139 (1 : Int32)) from ((if_neg hc141).trans rfl)]
          exact J0_6 _ _ (1 : Int32) X140 e140 N140
      by_cases hc138 : (p0_4 &&& (1 : Int32)) = (0 : Int32)
      · skip
        refine own_by (T' := T137) (g' := (mkF m 48 #[.val (.int p0_0), .val (.int p0_1), .val (.int p0_2), .val (.int p0_3), .val (.int p0_4), .val (.int ((p0_0 &&& (2147483647 : Int32)) % (3 : Int32))), .val (.ref wDEEP), .unset, .unset, .unset] [(.int (0 : Int32))])) (fun t k => ?_) ?_
        · show Steps p.tables e below (T137.setTop (mkF m 40 #[.val (.int p0_0), .val (.int p0_1), .val (.int p0_2), .val (.int p0_3), .val (.int p0_4), .val (.int ((p0_0 &&& (2147483647 : Int32)) % (3 : Int32))), .val (.ref wDEEP), .unset, .unset, .unset] [(.int (p0_4 &&& (1 : Int32)))])) t
          refine XS.ifYes X137.here hx rfl (pc0 := 40) (pc' := 47) rfl (hb hby at_40) rfl ((if0 _ _).trans (teq hc138).1) (by decide) (by decide) ?_
          show Steps p.tables e below (T137.setTop (mkF m 47 #[.val (.int p0_0), .val (.int p0_1), .val (.int p0_2), .val (.int p0_3), .val (.int p0_4), .val (.int ((p0_0 &&& (2147483647 : Int32)) % (3 : Int32))), .val (.ref wDEEP), .unset, .unset, .unset] [])) t
          refine XS.iconst X137.here hx rfl (hb hby at_47) ?_
          show Steps p.tables e below (T137.setTop (mkF m 48 #[.val (.int p0_0), .val (.int p0_1), .val (.int p0_2), .val (.int p0_3), .val (.int p0_4), .val (.int ((p0_0 &&& (2147483647 : Int32)) % (3 : Int32))), .val (.ref wDEEP), .unset, .unset, .unset] [(.int (0 : Int32))])) t
          exact k
        rw [show own_F0 p0_0 p0_1 p0_2 p0_3 p0_4 = (own_F0_48_5 p0_0 p0_1 p0_2 p0_3 p0_4 (0 : Int32)) from ((if_neg hc105).trans ((if_neg hc122).trans ((if_pos hc138).trans rfl)))]
        exact J0_5 _ _ (0 : Int32) X137 e137 N0
      · skip
        refine own_by (T' := T137) (g' := (mkF m 48 #[.val (.int p0_0), .val (.int p0_1), .val (.int p0_2), .val (.int p0_3), .val (.int p0_4), .val (.int ((p0_0 &&& (2147483647 : Int32)) % (3 : Int32))), .val (.ref wDEEP), .unset, .unset, .unset] [(.int (1 : Int32))])) (fun t k => ?_) ?_
        · show Steps p.tables e below (T137.setTop (mkF m 40 #[.val (.int p0_0), .val (.int p0_1), .val (.int p0_2), .val (.int p0_3), .val (.int p0_4), .val (.int ((p0_0 &&& (2147483647 : Int32)) % (3 : Int32))), .val (.ref wDEEP), .unset, .unset, .unset] [(.int (p0_4 &&& (1 : Int32)))])) t
          refine XS.ifNo X137.here hx rfl (hb hby at_40) rfl ((if0 _ _).trans (feq hc138).1) ?_
          show Steps p.tables e below (T137.setTop (mkF m 43 #[.val (.int p0_0), .val (.int p0_1), .val (.int p0_2), .val (.int p0_3), .val (.int p0_4), .val (.int ((p0_0 &&& (2147483647 : Int32)) % (3 : Int32))), .val (.ref wDEEP), .unset, .unset, .unset] [])) t
          refine XS.iconst X137.here hx rfl (hb hby at_43) ?_
          show Steps p.tables e below (T137.setTop (mkF m 44 #[.val (.int p0_0), .val (.int p0_1), .val (.int p0_2), .val (.int p0_3), .val (.int p0_4), .val (.int ((p0_0 &&& (2147483647 : Int32)) % (3 : Int32))), .val (.ref wDEEP), .unset, .unset, .unset] [(.int (1 : Int32))])) t
          refine XS.goto X137.here hx rfl (pc0 := 44) (pc' := 48) rfl (hb hby at_44) (by decide) (by decide) ?_
          show Steps p.tables e below (T137.setTop (mkF m 48 #[.val (.int p0_0), .val (.int p0_1), .val (.int p0_2), .val (.int p0_3), .val (.int p0_4), .val (.int ((p0_0 &&& (2147483647 : Int32)) % (3 : Int32))), .val (.ref wDEEP), .unset, .unset, .unset] [(.int (1 : Int32))])) t
          exact k
        rw [show own_F0 p0_0 p0_1 p0_2 p0_3 p0_4 = (own_F0_48_5 p0_0 p0_1 p0_2 p0_3 p0_4 (1 : Int32)) from ((if_neg hc105).trans ((if_neg hc122).trans ((if_neg hc138).trans rfl)))]
        exact J0_5 _ _ (1 : Int32) X137 e137 N0
theorem own_e (s a b c x y : Int32) (d k : Int32) : own_F2_30_1 s a b c x y d k = if (x ≠ 0 ∧ c < 64 ∧ ¬ d < b) ∨ (y ≠ 0 ∧ c < k ∧ ¬ k < b) then 1 else 0 := by
  unfold own_F2_30_1
  repeat' split
  all_goals first | rfl | (exfalso; simp only [ne_eq, Int32.lt_iff_toInt_lt, ← Int32.toInt_inj] at *; omega)
theorem own_i (a b c x y : Int32) (d k : Int32) (h : (2 : Int32) < a) : own_F1 a b c x y d k = if (x ≠ 0 ∧ c < 64 ∧ ¬ d < b) ∨ (y ≠ 0 ∧ c < k ∧ ¬ k < b) then 1 else 0 := by
  unfold own_F1
  rw [if_pos h]
  repeat' split
  all_goals first | rfl | (exfalso; simp only [ne_eq, Int32.lt_iff_toInt_lt, ← Int32.toInt_inj] at *; omega)
theorem own_m (s a b c x y : Int32) (d k : Int32) (h : s = 2 ∧ d = 33 ∧ k = 256 ∨ s ≠ 2 ∧ d = 0 ∧ k = 0) : own_F1 a b c x y d k = own_F2 s a b c x y := by
  by_cases q : (2 : Int32) < a
  · rw [own_i a b c x y d k q]
    unfold own_F2
    rw [if_pos q]
    rcases h with ⟨h1, rfl, rfl⟩ | ⟨h1, rfl, rfl⟩
    · rw [if_pos h1, own_e]
    · rw [if_neg h1, own_e]
  · unfold own_F1 own_F2
    rw [if_neg q, if_neg q]
theorem own_mod3 (x : Int32) : x % 3 = 0 ∨ x % 3 = 1 ∨ x % 3 = 2 ∨ x.toInt < 0 := by
  by_cases h : x.toInt < 0
  · exact Or.inr (Or.inr (Or.inr h))
  · have e : (x % 3).toInt = x.toInt % 3 := by
      rw [Int32.toInt_mod, show (3 : Int32).toInt = 3 from by decide, Int.tmod_eq_emod_of_nonneg (by omega)]
    rw [← Int32.toInt_inj, ← Int32.toInt_inj, ← Int32.toInt_inj, e, show (0 : Int32).toInt = 0 from by decide, show (1 : Int32).toInt = 1 from by decide, show (2 : Int32).toInt = 2 from by decide]
    omega
theorem own_and_le (x m : Int32) (k : Nat) (hm : m.toBitVec.toNat = k) (hk : k < 2147483648) : 0 ≤ (x &&& m).toInt ∧ (x &&& m).toInt ≤ k := by
  have h1 : (x &&& m).toBitVec.toNat ≤ k := by
    rw [Int32.toBitVec_and, BitVec.toNat_and, hm]; exact Nat.and_le_right
  have h2 : (x &&& m).toInt = ((x &&& m).toBitVec.toNat : Int) := BitVec.toInt_eq_toNat_of_lt (by omega)
  omega
theorem own_law (a b c d e : Int32) : own_F0 a b c d e = 1 := by
  have hm := own_mod3 (a &&& 2147483647)
  have hp := own_and_le a 2147483647 2147483647 (by decide) (by decide)
  unfold own_F0 own_F0_48_1 own_F0_48_3 own_F0_48_5 own_F0_62_2 own_F0_62_4 own_F0_62_6
  by_cases h0 : (a &&& 2147483647) % 3 = (0 : Int32)
  · have k : ∀ x y, own_F1 b c d x y 0 0 = own_F2 ((a &&& 2147483647) % 3) b c d x y := fun x y => own_m _ _ _ _ _ _ _ _ (Or.inr ⟨by rw [h0]; decide, rfl, rfl⟩)
    simp only [if_pos h0, k, if_true, ite_self]
  · by_cases h1 : (a &&& 2147483647) % 3 = (1 : Int32)
    · have k : ∀ x y, own_F1 b c d x y 0 0 = own_F2 ((a &&& 2147483647) % 3) b c d x y := fun x y => own_m _ _ _ _ _ _ _ _ (Or.inr ⟨by rw [h1]; decide, rfl, rfl⟩)
      simp only [if_neg h0, if_pos h1, k, if_true, ite_self]
    · have h2 : (a &&& 2147483647) % 3 = (2 : Int32) := by
        rcases hm with h | h | h | h
        · exact absurd h h0
        · exact absurd h h1
        · exact h
        · omega
      have k : ∀ x y, own_F1 b c d x y 33 256 = own_F2 ((a &&& 2147483647) % 3) b c d x y := fun x y => own_m _ _ _ _ _ _ _ _ (Or.inl ⟨h2, rfl, rfl⟩)
      simp only [if_neg h0, if_neg h1, k, if_true, ite_self]

set_option maxRecDepth 65536 in
set_option maxHeartbeats 40000000 in
theorem own_comes {Post : Tables → Env → Array Value → State → Outcome → State → Prop} (hpost : ∀ tb e args s v u, (limb_1_1.after args s (.returned v) u = true ∧ limb_1_2.after args s (.returned v) u = true ∧ True) → FrameEnd s (.returned v) u (Jvm.fieldLocs frame_1_writes args s ++ Jvm.arrayLocs frame_1_arrays args s ++ Jvm.staticLocs frame_1_statics s) 0 0 → Post tb e args s (.returned v) u) :
    ArmFor flags0 classFile x code maxLocals ret World_1 tables_1 room_1 Calls_1 rest_1 Pre_1 Post := by
  intro l hfl _ _ p e ha hc hk s m args below hf hA hF happ hP
  obtain ⟨hcalls, hrest, hpre⟩ := hP
  obtain ⟨-, -, -, hnamed, -, -, -, hat⟩ := (Spec.applies_iff hf).mp happ
  obtain ⟨hg, hn⟩ := and_e (Cond.before_iff.mp (show (Jvm.Cond.and given_1 narrow_1).before args s = true from hpre))
  obtain ⟨hg1, hg2⟩ := and_e hg
  obtain ⟨hg3, hg4⟩ := and_e hg2
  obtain ⟨hg5, hg6⟩ := and_e hg4
  obtain ⟨hg7, hg8⟩ := and_e hg6
  obtain ⟨hg9, hg10⟩ := and_e hg8
  obtain ⟨w0, w1, w2, w3, w4, rfl⟩ : ∃ w0 w1 w2 w3 w4 : Value, args = #[w0, w1, w2, w3, w4] := by
    have hs : args.size = 5 := by simpa [Cond.value, given_1] using hg1
    obtain ⟨L⟩ := args
    match L, hs with
    | [w0, w1, w2, w3, w4], _ => exact ⟨w0, w1, w2, w3, w4, rfl⟩
  have hw := fun d (hd : d ∈ tables_1) => atoms_spec (ws := Jvm.Cond.code x code maxLocals ret :: tables_1) hat d (List.mem_cons_of_mem _ hd)
  have hfit : Fit s := fun {y c} hc i hi => by
    obtain ⟨ha, rfl⟩ := Array.getElem?_eq_some_iff.mp hc
    have q := List.all_eq_true.mp ((Array.all_eq_true_iff_forall_mem.mp hF) _ (Array.getElem_mem ha)) i (List.mem_range.mpr hi)
    simpa [Array.getElem?_eq_getElem hi] using q
  obtain ⟨i0, ei0⟩ := is_v hg3
  obtain rfl : w0 = (.int i0) := Option.some.inj ei0
  obtain ⟨i1, ei1⟩ := is_v hg5
  obtain rfl : w1 = (.int i1) := Option.some.inj ei1
  obtain ⟨i2, ei2⟩ := is_v hg7
  obtain rfl : w2 = (.int i2) := Option.some.inj ei2
  obtain ⟨i3, ei3⟩ := is_v hg9
  obtain rfl : w3 = (.int i3) := Option.some.inj ei3
  obtain ⟨i4, ei4⟩ := is_v hg10
  obtain rfl : w4 = (.int i4) := Option.some.inj ei4
  obtain ⟨hn1a, hn1b⟩ := and_e hn
  obtain ⟨hn2a, hn2b⟩ := and_e hn1b
  obtain ⟨hn3a, hn3b⟩ := and_e hn2b
  obtain ⟨hn4a, hn4b⟩ := and_e hn3b
  obtain ⟨hn5a, hn5b⟩ := and_e hn4b
  obtain ⟨hn6a, hn6b⟩ := and_e hn5b
  obtain ⟨hn7a, hn7b⟩ := and_e hn6b
  obtain ⟨hn8a, hn8b⟩ := and_e hn7b
  obtain ⟨wCOARSE, ev_wCOARSE⟩ := exa_v hn1a
  have S_wCOARSE := Sta.start ev_wCOARSE (Or.inr ⟨(hw _ (List.mem_of_getElem? (i := 2) rfl)), (hw _ (List.mem_of_getElem? (i := 3) rfl))⟩)
  have E_wCOARSE := Exa.start ev_wCOARSE hn1a
  obtain ⟨wDEEP, ev_wDEEP⟩ := exa_v hn4a
  have S_wDEEP := Sta.start ev_wDEEP (Or.inr ⟨(hw _ (List.mem_of_getElem? (i := 2) rfl)), (hw _ (List.mem_of_getElem? (i := 18) rfl))⟩)
  have E_wDEEP := Exa.start ev_wDEEP hn4a
  obtain ⟨wFINE, ev_wFINE⟩ := exa_v hn7a
  have S_wFINE := Sta.start ev_wFINE (Or.inr ⟨(hw _ (List.mem_of_getElem? (i := 2) rfl)), (hw _ (List.mem_of_getElem? (i := 20) rfl))⟩)
  have E_wFINE := Exa.start ev_wFINE hn7a
  have F_wCOARSE_deepArrivals := Fld.start ((fld_at ev_wCOARSE).symm.trans (eqv_i (Term.int_eval (0)) hn2a))
  have F_wCOARSE_constantArrivals := Fld.start ((fld_at ev_wCOARSE).symm.trans (eqv_i (Term.int_eval (0)) hn3a))
  have F_wDEEP_deepArrivals := Fld.start ((fld_at ev_wDEEP).symm.trans (eqv_i (Term.int_eval (33)) hn5a))
  have F_wDEEP_constantArrivals := Fld.start ((fld_at ev_wDEEP).symm.trans (eqv_i (Term.int_eval (256)) hn6a))
  have F_wFINE_deepArrivals := Fld.start ((fld_at ev_wFINE).symm.trans (eqv_i (Term.int_eval (0)) hn8a))
  have F_wFINE_constantArrivals := Fld.start ((fld_at ev_wFINE).symm.trans (eqv_i (Term.int_eval (0)) hn8b))
  have EN : own_EN s wCOARSE wDEEP wFINE := ⟨S_wCOARSE, E_wCOARSE, F_wCOARSE_deepArrivals, F_wCOARSE_constantArrivals, S_wDEEP, E_wDEEP, F_wDEEP_deepArrivals, F_wDEEP_constantArrivals, S_wFINE, E_wFINE, F_wFINE_deepArrivals, F_wFINE_constantArrivals⟩
  obtain ⟨n, o, h1, h2, h3, _, L, rfl, ⟨rfl, N⟩, hq⟩ := own_rm0 l s _ hw tables_1 i0 i1 i2 i3 i4 wCOARSE wDEEP wFINE s.heap s.heap.size (Nat.le_refl _) (Old.start s) EN p e ha hc hk s m _ below hf ((Spec.applies_iff_loose hf).mp happ).1 ⟨rfl, State.Warmed39.refl s, rfl⟩ trivial
  refine ⟨n, _, h1, h2, h3, hpost _ _ _ _ _ _ ⟨Cond.after_iff.mpr rfl, Cond.after_iff.mpr (eq_i res_at (Term.int_eval (1)) (congrArg Value.int (own_law i0 i1 i2 i3 i4))), trivial⟩ ⟨hq.1, hq.2.1, (hq.2.2.sift fun y hy => Or.inr (N y hy)).mono (by decide) (by decide)⟩⟩
theorem main_1_1 : Claimed_1_1 := own_comes fun _ _ _ _ _ _ h hF => ⟨h.1, hF⟩
theorem main_1_2 : Claimed_1_2 := own_comes fun _ _ _ _ _ _ h hF => ⟨h.2.1, hF⟩
end Jvm.Pilot.@@N@@
namespace Jvm.Pilot.@@N@@
open Jvm Jvm.ClassFile Sem Op Lib Jvm.Free Jvm.Stand Jvm.Pilot.@@N@@.Jvm.D
/-! MADE BY PROGRAM (witnessworld.py) out of the Statement's table words and the real class files: 12 classes; the members and pool entries that the words name. The judged class is class 1, her method 1. -/
namespace start1
open Jvm.ClassFile
def u (s : String) : CpInfo := .utf8 (stringToUtf16 s)
/-- a pool by its gaps: so many unusable entries, then the entry; so many at the end -/
def gap : Nat → List CpInfo → List CpInfo
  | 0, r => r
  | n + 1, r => .unusable :: gap n r
def poolList (es : List (Nat × CpInfo)) (last : Nat) : List CpInfo := es.foldr (fun e r => gap e.1 (e.2 :: r)) (gap last [])
def pool (es : List (Nat × CpInfo)) (last : Nat) : Array CpInfo := ⟨poolList es last⟩
def fileOf (pool : Array CpInfo) (this : Nat) (attrs : Array Attribute := #[]) (ms : Array MethodInfo := #[]) (fl : Nat := 33) (sup : Nat := 0) (ifs : Array Nat := #[]) (fds : Array FieldInfo := #[]) : ClassFile where
  minorVersion := 0
  majorVersion := 65
  constantPool := pool
  accessFlags := fl
  thisClass := this
  superClass := sup
  interfaces := ifs
  fields := fds
  methods := ms
  attributes := attrs
def plain (name : String) (sup : Option ClassId) : Class where
  name := name
  kind := .ordinary
  loader := none
  accessFlags := 33
  super := sup
  interfaces := #[]
  cf := none
  fields := #[]
  methods := #[]
  instanceTypes := #[]
  staticTypes := #[]
  resolved := #[]
  callSites := []
  init := .initialized
  statics := none
  mirror := none

def pool0 : Array CpInfo := pool [(5, u "<init>"), (0, u "()V"), (1, .class_ 10), (1, u "java/lang/Object")] 113

def k0m0 : Method := { name := "<init>", desc := "()V", sig := { parameters := [], returnType := none }, accessFlags := 1, code := none }
/-- java/lang/Object -/
def k0 : Class := { plain "java/lang/Object" none with
  accessFlags := 33
  interfaces := #[]
  cf := some (fileOf pool0 8 #[] #[{ accessFlags := 1, nameIndex := 5, descriptorIndex := 6, attributes := #[] }] 33 0 #[] #[])
  fields := #[]
  methods := #[k0m0]
  instanceTypes := #[]
  staticTypes := #[]
  resolved := Array.replicate 124 none
  statics := none }

def pool1 : Array CpInfo := pool [(2, .class_ 4), (1, u "java/lang/Object"), (0, u "<init>"), (0, u "()V"), (0, .integer 2147483647), (0, .fieldref 9 10), (0, .class_ 11), (0, .nameAndType 12 13), (0, u "com/example/rundown/rundown/symbolic/Precision"), (0, u "COARSE"), (0, u "Lcom/example/rundown/rundown/symbolic/Precision;"), (0, .fieldref 9 15), (0, .nameAndType 16 13), (0, u "FINE"), (0, .fieldref 9 18), (0, .nameAndType 19 13), (0, u "DEEP"), (0, .methodref 9 21), (0, .nameAndType 22 23), (0, u "isExact"), (0, u "(IIIZZ)Z"), (0, .methodref 25 26), (0, .class_ 27), (0, .nameAndType 28 29), (0, u "com/example/rundown/rundown/symbolic/PrecisionIsExactPinLaw"), (0, u "expected"), (0, u "(IIIIZZ)Z"), (2, u "law"), (0, u "(IIIII)Z")] 3

def k1m0 : Method := { name := "<init>", desc := "()V", sig := { parameters := [], returnType := none }, accessFlags := 1, code := none }
def k1c1 : Code := { maxStack := 7, maxLocals := 10, code := code, exceptionTable := #[], attributes := #[] }
def k1m1 : Method := { name := "law", desc := "(IIIII)Z", sig := { parameters := [.int, .int, .int, .int, .int], returnType := some .boolean }, accessFlags := 9, code := some k1c1 }
def k1c2 : Code := { maxStack := 2, maxLocals := 8, code := method_3_code, exceptionTable := #[], attributes := #[] }
def k1m2 : Method := { name := "expected", desc := "(IIIIZZ)Z", sig := { parameters := [.int, .int, .int, .int, .boolean, .boolean], returnType := some .boolean }, accessFlags := 10, code := some k1c2 }
/-- com/example/rundown/rundown/symbolic/PrecisionIsExactPinLaw -/
def k1 : Class := { plain "com/example/rundown/rundown/symbolic/PrecisionIsExactPinLaw" (some 0) with
  accessFlags := 49
  interfaces := #[]
  cf := some (fileOf pool1 25 #[] #[{ accessFlags := 1, nameIndex := 5, descriptorIndex := 6, attributes := #[] }, { accessFlags := 9, nameIndex := 32, descriptorIndex := 33, attributes := #[] }, { accessFlags := 10, nameIndex := 28, descriptorIndex := 29, attributes := #[] }] 49 2 #[] #[])
  fields := #[]
  methods := #[k1m0, k1m1, k1m2]
  instanceTypes := #[]
  staticTypes := #[]
  resolved := Array.replicate 37 none
  statics := none }

def pool2 : Array CpInfo := pool [(1, .class_ 2), (0, u "java/lang/constant/Constable"), (0, .class_ 4), (0, u "java/lang/Object")] 6

/-- java/lang/constant/Constable -/
def k2 : Class := { plain "java/lang/constant/Constable" (some 0) with
  accessFlags := 1537
  interfaces := #[]
  cf := some (fileOf pool2 1 #[] #[] 1537 3 #[] #[])
  fields := #[]
  methods := #[]
  instanceTypes := #[]
  staticTypes := #[]
  resolved := Array.replicate 11 none
  statics := none }

def pool3 : Array CpInfo := pool [(1, .class_ 2), (0, u "java/lang/Comparable"), (0, .class_ 4), (0, u "java/lang/Object")] 7

/-- java/lang/Comparable -/
def k3 : Class := { plain "java/lang/Comparable" (some 0) with
  accessFlags := 1537
  interfaces := #[]
  cf := some (fileOf pool3 1 #[] #[] 1537 3 #[] #[])
  fields := #[]
  methods := #[]
  instanceTypes := #[]
  staticTypes := #[]
  resolved := Array.replicate 12 none
  statics := none }

def pool4 : Array CpInfo := pool [(1, .class_ 2), (0, u "java/io/Serializable"), (0, .class_ 4), (0, u "java/lang/Object")] 2

/-- java/io/Serializable -/
def k4 : Class := { plain "java/io/Serializable" (some 0) with
  accessFlags := 1537
  interfaces := #[]
  cf := some (fileOf pool4 1 #[] #[] 1537 3 #[] #[])
  fields := #[]
  methods := #[]
  instanceTypes := #[]
  staticTypes := #[]
  resolved := Array.replicate 7 none
  statics := none }

def pool5 : Array CpInfo := pool [(2, .class_ 4), (1, u "java/lang/Enum"), (0, u "name"), (0, u "Ljava/lang/String;"), (2, u "ordinal"), (0, u "I"), (1, .class_ 14), (1, u "java/lang/Object"), (4, u "hash"), (86, .class_ 108), (1, u "java/lang/Enum$EnumDesc"), (2, .class_ 112), (0, u "java/lang/constant/Constable"), (0, .class_ 114), (0, u "java/lang/Comparable"), (0, .class_ 116), (0, u "java/io/Serializable")] 87

/-- java/lang/Enum -/
def k5 : Class := { plain "java/lang/Enum" (some 0) with
  accessFlags := 1057
  interfaces := #[2, 3, 4]
  cf := some (fileOf pool5 2 #[.nestMembers #[106]] #[] 1057 12 #[111, 113, 115] #[{ accessFlags := 18, nameIndex := 5, descriptorIndex := 6, attributes := #[] }, { accessFlags := 18, nameIndex := 9, descriptorIndex := 10, attributes := #[] }, { accessFlags := 2, nameIndex := 19, descriptorIndex := 10, attributes := #[] }])
  fields := #[{ name := "name", type := (.object "java/lang/String"), accessFlags := 18, slot := 0, constantValue := 0 }, { name := "ordinal", type := .int, accessFlags := 18, slot := 1, constantValue := 0 }, { name := "hash", type := .int, accessFlags := 2, slot := 2, constantValue := 0 }]
  methods := #[]
  instanceTypes := #[(.object "java/lang/String"), .int, .int]
  staticTypes := #[]
  resolved := Array.replicate 204 none
  statics := none }

def pool6 : Array CpInfo := pool [(1, .class_ 2), (0, u "com/example/rundown/rundown/symbolic/Precision"), (2, u "COARSE"), (0, u "Lcom/example/rundown/rundown/symbolic/Precision;"), (2, u "FINE"), (2, u "DEEP"), (2, u "$VALUES"), (0, u "[Lcom/example/rundown/rundown/symbolic/Precision;"), (6, .class_ 25), (1, u "java/lang/Enum"), (6, .fieldref 1 33), (0, .nameAndType 34 35), (0, u "deepArrivals"), (0, u "I"), (0, .fieldref 1 37), (0, .nameAndType 38 35), (0, u "constantArrivals"), (2, u "fineFacts"), (0, u "Z"), (10, u "CONCRETE_ARRIVALS"), (2, u "DEEP_STATES"), (13, u "isExact"), (0, u "(IIIZZ)Z")] 5

def k6c0 : Code := { maxStack := 2, maxLocals := 6, code := prog_113_method_7_code, exceptionTable := #[], attributes := #[] }
def k6m0 : Method := { name := "isExact", desc := "(IIIZZ)Z", sig := { parameters := [.int, .int, .int, .boolean, .boolean], returnType := some .boolean }, accessFlags := 0, code := some k6c0 }
/-- com/example/rundown/rundown/symbolic/Precision -/
def k6 : Class := { plain "com/example/rundown/rundown/symbolic/Precision" (some 5) with
  accessFlags := 16433
  interfaces := #[]
  cf := some (fileOf pool6 1 #[] #[{ accessFlags := 0, nameIndex := 70, descriptorIndex := 71, attributes := #[] }] 16433 23 #[] #[{ accessFlags := 16409, nameIndex := 5, descriptorIndex := 6, attributes := #[] }, { accessFlags := 16409, nameIndex := 9, descriptorIndex := 6, attributes := #[] }, { accessFlags := 16409, nameIndex := 12, descriptorIndex := 6, attributes := #[] }, { accessFlags := 26, nameIndex := 53, descriptorIndex := 35, attributes := #[] }, { accessFlags := 26, nameIndex := 56, descriptorIndex := 35, attributes := #[] }, { accessFlags := 18, nameIndex := 34, descriptorIndex := 35, attributes := #[] }, { accessFlags := 18, nameIndex := 38, descriptorIndex := 35, attributes := #[] }, { accessFlags := 18, nameIndex := 41, descriptorIndex := 42, attributes := #[] }, { accessFlags := 4122, nameIndex := 15, descriptorIndex := 16, attributes := #[] }])
  fields := #[{ name := "COARSE", type := (.object "com/example/rundown/rundown/symbolic/Precision"), accessFlags := 16409, slot := 0, constantValue := 0 }, { name := "FINE", type := (.object "com/example/rundown/rundown/symbolic/Precision"), accessFlags := 16409, slot := 1, constantValue := 0 }, { name := "DEEP", type := (.object "com/example/rundown/rundown/symbolic/Precision"), accessFlags := 16409, slot := 2, constantValue := 0 }, { name := "CONCRETE_ARRIVALS", type := .int, accessFlags := 26, slot := 3, constantValue := 0 }, { name := "DEEP_STATES", type := .int, accessFlags := 26, slot := 4, constantValue := 0 }, { name := "deepArrivals", type := .int, accessFlags := 18, slot := 3, constantValue := 0 }, { name := "constantArrivals", type := .int, accessFlags := 18, slot := 4, constantValue := 0 }, { name := "fineFacts", type := .boolean, accessFlags := 18, slot := 5, constantValue := 0 }, { name := "$VALUES", type := (.array (.object "com/example/rundown/rundown/symbolic/Precision")), accessFlags := 4122, slot := 5, constantValue := 0 }]
  methods := #[k6m0]
  instanceTypes := #[(.object "java/lang/String"), .int, .int, .int, .int, .boolean]
  staticTypes := #[(.object "com/example/rundown/rundown/symbolic/Precision"), (.object "com/example/rundown/rundown/symbolic/Precision"), (.object "com/example/rundown/rundown/symbolic/Precision"), .int, .int, (.array (.object "com/example/rundown/rundown/symbolic/Precision"))]
  resolved := Array.replicate 77 none
  statics := some 0 }

def pool7 : Array CpInfo := pool [(1, u "java/lang/Cloneable"), (0, .class_ 1), (0, u "java/lang/Object"), (0, .class_ 3)] 3

/-- java/lang/Cloneable -/
def k7 : Class := { plain "java/lang/Cloneable" (some 0) with
  accessFlags := 1537
  interfaces := #[]
  cf := some (fileOf pool7 2 #[] #[] 1537 4 #[] #[])
  fields := #[]
  methods := #[]
  instanceTypes := #[]
  staticTypes := #[]
  resolved := Array.replicate 8 none
  statics := none }

/-- the primitive byte -/
def k8 : Class := { plain "byte" none with kind := .primitive 'B', accessFlags := 0x411 }
/-- [B -/
def k9 : Class := { plain "[B" (some 0) with kind := .array 8 .byte, interfaces := #[7, 4], accessFlags := 1041 }

/-- the primitive int -/
def k10 : Class := { plain "int" none with kind := .primitive 'I', accessFlags := 0x411 }
/-- [I -/
def k11 : Class := { plain "[I" (some 0) with kind := .array 10 .int, interfaces := #[7, 4], accessFlags := 1041 }

def heap : Heap := #[{ cls := 6, slots := #[.ref 1, .ref 3, .ref 2, .int 0, .int 0, .null], vm := .statics 6 },
  { cls := 6, slots := #[.null, .int 0, .int 0, .int 0, .int 0, .int 0], vm := .none },
  { cls := 6, slots := #[.null, .int 0, .int 0, .int 33, .int 256, .int 0], vm := .none },
  { cls := 6, slots := #[.null, .int 0, .int 0, .int 0, .int 0, .int 0], vm := .none }]
def classes : Array Class := #[k0, k1, k2, k3, k4, k5, k6, k7, k8, k9, k10, k11]
def interned : List (Array UInt16 × Addr) := []
def slotsUsed : Nat := 24
def theMethod : MethodId := ⟨1, 1⟩
def args0 : Array Value := #[.int 5, .int 6, .int 7, .int 1, .int 2]
def aboutOver (below : List Frame) : State where
  vm := { classes := classes, interned := interned.toArray }
  heap := heap
  slotsUsed := slotsUsed
  threads := #[{ frames := .invoking theMethod args0 :: below }]
def below0 : List Frame := [.native { method := ⟨0, 0⟩, args := #[] }]
def about1 : State := aboutOver below0
def p0 : Program := .bare "" "" ""
def e0 : Env := launch0.env 0 0 0
theorem w_frames : about1.frames = Frame.invoking theMethod args0 :: below0 := rfl
set_option maxRecDepth 65536 in
theorem w_args : argsFit about1.vm theMethod args0 = true := by decide +kernel
set_option maxRecDepth 65536 in
theorem w_heap : heapFits about1 = true := by decide +kernel
set_option maxRecDepth 65536 in
theorem w_runnable : about1.curStatus? = some .runnable := by decide +kernel
set_option maxRecDepth 65536 in
theorem w_alone : about1.alone = true := by decide +kernel
set_option maxRecDepth 65536 in
theorem w_named : about1.methodNamed? x = some theMethod := by decide +kernel
set_option maxRecDepth 65536 in
theorem w_hears : about1.hears theMethod below0 = true := by decide +kernel
set_option maxRecDepth 65536 in
theorem w_ripe : about1.ripe theMethod args0 below0 = true := by decide +kernel
theorem w_running : about1.status = .running := rfl
set_option maxRecDepth 65536 in
theorem w_room : about1.hasRoom e0.platform room_1 = true :=
  launch0.hasRoom_least _ room_1 (by decide +kernel) (by decide +kernel) (by decide +kernel) (by decide +kernel) (by decide +kernel) (by decide +kernel)
theorem allAtoms_all (ts : List Jvm.Cond) (a : Array Jvm.Value) (st : Jvm.State) : (allAtoms ts).before a st = ts.all (fun c => c.before a st) := by
  induction ts with
  | nil => rfl
  | cons c t ih =>
    show (Jvm.Cond.and c (allAtoms t)).before a st = _
    rw [Jvm.Cond.before_and, ih, List.all_cons]
def words1 : List Jvm.Cond := Jvm.Cond.code x code maxLocals ret :: tables_1
/-- a 'code' word, met by the world's own term for the bytes: nothing is compared byte by byte -/
theorem code_word {y : MethodName} {bytes : ByteArray} {mx : Nat} {rt : Option FieldType} {a : Array Value} {s : State} {m : MethodId} {meth : Method} {c : Code} (h1 : s.methodNamed? y = some m) (h2 : s.vm.method? m = some meth) (h3 : meth.code = some c) (h4 : c.code = bytes)
    (h5 : (c.maxLocals == mx && c.exceptionTable.isEmpty && decide (c.maxStack ≤ mostOperands) && decide (meth.sig.returnType = rt) && !meth.locks && decide (parseMethodDescriptor y.desc = some meth.sig)) = true) : (Jvm.Cond.code y bytes mx rt).before a s = true := by
  simp only [Bool.and_eq_true, beq_iff_eq, Bool.not_eq_true', decide_eq_true_eq] at h5
  obtain ⟨⟨⟨⟨⟨g1, g2⟩, g3⟩, g4⟩, g5⟩, g6⟩ := h5
  simp [Cond.before, Cond.holds, Cond.value, h1, h2, h3, h4, g1, g2, g3, g4, g5, g6]
def isCode : Jvm.Cond → Bool
  | .code _ _ _ _ => true
  | _ => false
theorem all_split {L : List Jvm.Cond} {P : Jvm.Cond → Bool} (h1 : L.all (fun c => isCode c || P c) = true) (h2 : ∀ c ∈ L.filter isCode, P c = true) : L.all P = true := by
  refine List.all_eq_true.mpr fun c hc => ?_
  have h := List.all_eq_true.mp h1 c hc
  rcases Bool.eq_false_or_eq_true (isCode c) with hi | hi
  · exact h2 c (List.mem_filter.mpr ⟨hc, hi⟩)
  · simpa [hi] using h
set_option maxRecDepth 65536 in
theorem w_c0 : (Jvm.Cond.code x code maxLocals ret).before args0 about1 = true := code_word (m := ⟨1, 1⟩) (meth := k1m1) (c := k1c1) (by decide +kernel) rfl rfl rfl (by decide +kernel)
set_option maxRecDepth 65536 in
theorem w_c1 : (Jvm.Cond.code ({ cls := "com/example/rundown/rundown/symbolic/Precision", name := "isExact", desc := "(IIIZZ)Z" } : Jvm.MethodName) prog_113_method_7_code (6 : Nat) (Option.some Jvm.ClassFile.FieldType.boolean)).before args0 about1 = true := code_word (m := ⟨6, 0⟩) (meth := k6m0) (c := k6c0) (by decide +kernel) rfl rfl rfl (by decide +kernel)
set_option maxRecDepth 65536 in
theorem w_c2 : (Jvm.Cond.code ({ cls := "com/example/rundown/rundown/symbolic/PrecisionIsExactPinLaw", name := "expected", desc := "(IIIIZZ)Z" } : Jvm.MethodName) method_3_code (8 : Nat) (Option.some Jvm.ClassFile.FieldType.boolean)).before args0 about1 = true := code_word (m := ⟨1, 2⟩) (meth := k1m2) (c := k1c2) (by decide +kernel) rfl rfl rfl (by decide +kernel)
def codes1 : List Jvm.Cond := [Jvm.Cond.code x code maxLocals ret, Jvm.Cond.code ({ cls := "com/example/rundown/rundown/symbolic/Precision", name := "isExact", desc := "(IIIZZ)Z" } : Jvm.MethodName) prog_113_method_7_code (6 : Nat) (Option.some Jvm.ClassFile.FieldType.boolean), Jvm.Cond.code ({ cls := "com/example/rundown/rundown/symbolic/PrecisionIsExactPinLaw", name := "expected", desc := "(IIIIZZ)Z" } : Jvm.MethodName) method_3_code (8 : Nat) (Option.some Jvm.ClassFile.FieldType.boolean)]
set_option maxRecDepth 65536 in
theorem codes_eq : words1.filter isCode = codes1 := rfl
theorem w_codes : ∀ c ∈ words1.filter isCode, c.before args0 about1 = true := by
  rw [codes_eq]
  intro c hc
  simp only [codes1, List.mem_cons, List.not_mem_nil, or_false] at hc
  rcases hc with rfl | rfl | rfl
  · exact w_c0
  · exact w_c1
  · exact w_c2
set_option maxRecDepth 65536 in
theorem w_t1 : words1.all (fun c => isCode c || c.before args0 about1) = true := by decide +kernel
theorem w_tables : (allAtoms (Jvm.Cond.code x code maxLocals ret :: tables_1)).before args0 about1 = true := by
  rw [allAtoms_all]
  show words1.all (fun c => c.before args0 about1) = true
  refine all_split ?_ w_codes
  rw [w_t1]
set_option maxRecDepth 65536 in
theorem w_case : (Jvm.Cond.and given_1 narrow_1).before args0 about1 = true := by decide +kernel
theorem w_applies : (headSpec (Jvm.Cond.code x code maxLocals ret :: tables_1) room_1).applies x e0.platform about1 = true :=
  (Spec.applies_iff w_frames).mpr ⟨w_running, w_runnable, w_alone, w_named, w_hears, w_ripe, w_room, w_tables⟩
theorem atStart : AtStart classFile x code maxLocals ret World_1 tables_1 room_1 Calls_1 rest_1 Pre_1 launch0 p0 e0 about1 theMethod args0 below0 :=
  ⟨lists_1, trivial, launch0.admits_env _ _ _, launch0.least_env, fairChoices_fair.cas, fairChoices_fair.clock, w_frames, w_args, w_heap, w_applies, trivial, trivial, w_case⟩
end start1
theorem witness_1 : WitnessClaimed_1 := ⟨start1.p0, start1.e0, start1.about1, start1.theMethod, start1.args0, start1.below0, start1.atStart⟩
end Jvm.Pilot.@@N@@
