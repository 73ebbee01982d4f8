import JvmDerived
import JvmDerived.Pilot.@@N@@Statement
import JvmDerived.Pilot.@@N@@Code
set_option linter.unusedVariables false
set_option linter.unusedSimpArgs false
namespace Jvm.Pilot.@@N@@
open Jvm Jvm.ClassFile Sem Op Lib Jvm.Free Jvm.Stand Jvm.LawKit Jvm.RoadKit Bundle Jvm.Pilot.@@N@@.Jvm.D
/-- from the frame g at T the run reaches a state of which P holds -/
def own_Go (p : Program) (e : Env) (below : List Frame) (P : State → Outcome → Prop) (T : State) (g : JFrame) : Prop := ∃ t o, Steps p.tables e below (T.setTop g) t ∧ P t o
/-- the run has left the method: what it returned, the heap and the places written are as Q says -/
def own_P (s : State) (below : List Frame) (R : Room) (Q : Option Value → Heap → List Loc → Prop) (t : State) (o : Outcome) : Prop := t.status = .running ∧ Ended t below o ∧ ∃ v L, o = .returned v ∧ Q v t.heap L ∧ FrameEnd s o t L R.cells R.slots
section OwnKit
variable {p : Program} {l : Launch} {e : Env} {R : Room} {s : State} {m : MethodId} {args : Array Value} {below : List Frame} {meth : Method} {c : Code} {T T' : State} {locs : List Loc} {cells slots : Nat} {P : State → Outcome → Prop} {g g' : JFrame}
theorem own_by (k : ∀ t, Steps p.tables e below (T'.setTop g') t → Steps p.tables e below (T.setTop g) t) (h : own_Go p e below P T' g') : own_Go p e below P T g := by
  obtain ⟨t, o, st, q⟩ := h
  exact ⟨t, o, k t st, q⟩
theorem own_via (k : Steps p.tables e below (T.setTop g) (T'.setTop g')) (h : own_Go p e below P T' g') : own_Go p e below P T g := own_by (fun _ st => k.trans st) h
theorem own_in (q : g = g') (h : own_Go p e below P T g') : own_Go p e below P T g := q ▸ h
theorem own_out {v : Option Value} {Q : Option Value → Heap → List Loc → Prop} (X : Stand p l e R s m args below meth c T locs cells slots) (hv : meth.sig.returnType = none → v = none) (hlk : meth.locks = false) (hc : cells ≤ R.cells) (hs : slots ≤ R.slots) (q : Q v T.heap locs)
    (k : ∀ fs, (∀ (f : JFrame) (acts : List Action), f.method = m → f.locked = none → f.entered = [] → (doReturn e (T.setTop f) acts v).1 = T.setFrames fs) → Steps p.tables e below (T.setTop g) (T.setFrames fs)) : own_Go p e below (own_P s below R Q) T g := by
  obtain ⟨fs, hr, hrun, hended, hW, hsame⟩ := X.leave (v := v) hv hlk
  exact ⟨_, _, k fs hr, hrun, hended, _, _, rfl, q, ⟨_, rfl⟩, hW, hsame.mono hc hs⟩
theorem own_some {t : FieldType} {w : Value} (h : meth.sig.returnType = some t) : meth.sig.returnType = none → some w = none := fun q => by rw [h] at q; cases q
theorem own_retN {pc : Nat} {Ls : Array Slot} {z : Int32} {t : FieldType} {rest : List Value} {Q : Option Value → Heap → List Loc → Prop} (X : Stand p l e R s m args below meth c T locs cells slots) (hx : p.tables.exec = Jvm.exec) (hret : meth.sig.returnType = some t) (ht : t = .boolean ∨ t = .byte ∨ t = .char ∨ t = .short)
    (hd : decode c.code pc = .ok (.ireturn, 1)) (hlk : meth.locks = false) (hc : cells ≤ R.cells) (hs : slots ≤ R.slots) (q : Q (some (.int (nar t z))) T.heap locs) : own_Go p e below (own_P s below R Q) T (mkF m pc Ls (.int z :: rest)) :=
  own_out X (own_some hret) hlk hc hs q fun _ hr => retN X hx hret ht hd hr
theorem own_retI {pc : Nat} {Ls : Array Slot} {z : Int32} {rest : List Value} {Q : Option Value → Heap → List Loc → Prop} (X : Stand p l e R s m args below meth c T locs cells slots) (hx : p.tables.exec = Jvm.exec) (hret : meth.sig.returnType = some .int)
    (hd : decode c.code pc = .ok (.ireturn, 1)) (hlk : meth.locks = false) (hc : cells ≤ R.cells) (hs : slots ≤ R.slots) (q : Q (some (.int z)) T.heap locs) : own_Go p e below (own_P s below R Q) T (mkF m pc Ls (.int z :: rest)) :=
  own_out X (own_some hret) hlk hc hs q fun _ hr => retOut X hx hret rfl (Or.inl ⟨rfl, Or.inl rfl, _, rfl⟩) hd hr
theorem own_retJ {pc : Nat} {Ls : Array Slot} {z : Int64} {rest : List Value} {Q : Option Value → Heap → List Loc → Prop} (X : Stand p l e R s m args below meth c T locs cells slots) (hx : p.tables.exec = Jvm.exec) (hret : meth.sig.returnType = some .long)
    (hd : decode c.code pc = .ok (.lreturn, 1)) (hlk : meth.locks = false) (hc : cells ≤ R.cells) (hs : slots ≤ R.slots) (q : Q (some (.long z)) T.heap locs) : own_Go p e below (own_P s below R Q) T (mkF m pc Ls (.long z :: rest)) :=
  own_out X (own_some hret) hlk hc hs q fun _ hr => retOut X hx hret rfl (Or.inr (Or.inl ⟨rfl, rfl, _, rfl⟩)) hd hr
theorem own_retR {pc : Nat} {Ls : Array Slot} {w : Value} {t : FieldType} {rest : List Value} {Q : Option Value → Heap → List Loc → Prop} (X : Stand p l e R s m args below meth c T locs cells slots) (hx : p.tables.exec = Jvm.exec) (hret : meth.sig.returnType = some t) (ht : t.isReference = true) (hw : w.isRef = true) (hn : narrow t w = w)
    (hd : decode c.code pc = .ok (.areturn, 1)) (hlk : meth.locks = false) (hc : cells ≤ R.cells) (hs : slots ≤ R.slots) (q : Q (some w) T.heap locs) : own_Go p e below (own_P s below R Q) T (mkF m pc Ls (w :: rest)) :=
  own_out X (own_some hret) hlk hc hs q fun _ hr => retOut X hx hret hn (Or.inr (Or.inr (Or.inr (Or.inr ⟨rfl, ht, hw⟩)))) hd hr
theorem own_ret0 {pc : Nat} {Ls : Array Slot} {Q : Option Value → Heap → List Loc → Prop} (X : Stand p l e R s m args below meth c T locs cells slots) (hx : p.tables.exec = Jvm.exec) (hret : meth.sig.returnType = none)
    (hd : decode c.code pc = .ok (.return_, 1)) (hlk : meth.locks = false) (hc : cells ≤ R.cells) (hs : slots ≤ R.slots) (q : Q none T.heap locs) : own_Go p e below (own_P s below R Q) T (mkF m pc Ls []) :=
  own_out X (fun _ => rfl) hlk hc hs q fun _ hr => X.returnOut hx hret hd hr
theorem own_fitsR {C : String} {v : Value} (h : v.isRef = true) : fits (.object C) v = true := by
  cases v <;> first | rfl | (simp [Value.isRef] at h)
theorem own_tab (xs : List Int32) (d : Int32) (k : Nat) : (xs.map Value.int).getD k (.int d) = .int (xs.getD k d) := by
  simp only [List.getD_eq_getElem?_getD, List.getElem?_map]
  cases xs[k]? <;> rfl
end OwnKit
/-- x >>> 1, then % 14: an index of the table -/
theorem own_shr1 (x : Int32) : 0 ≤ ((x.toUInt32 >>> ((1 : Int32) &&& 31).toUInt32).toInt32).toInt := by
  have h1 : (((1 : Int32) &&& 31).toUInt32) = 1 := by decide
  rw [h1]
  have h2 : (x.toUInt32 >>> 1).toNat = x.toUInt32.toNat / 2 := by
    rw [UInt32.toNat_shiftRight]; rfl
  have h3 := x.toUInt32.toNat_lt
  have h4 : ((x.toUInt32 >>> 1).toInt32).toBitVec.toNat = (x.toUInt32 >>> 1).toNat := rfl
  have h5 : ((x.toUInt32 >>> 1).toInt32).toInt = (((x.toUInt32 >>> 1).toInt32).toBitVec.toNat : Int) := BitVec.toInt_eq_toNat_of_lt (by rw [h4, h2]; omega)
  omega
theorem own_idx (x : Int32) : ¬ (((x.toUInt32 >>> ((1 : Int32) &&& 31).toUInt32).toInt32) % (14 : Int32)) < 0 ∧ (((x.toUInt32 >>> ((1 : Int32) &&& 31).toUInt32).toInt32) % (14 : Int32)) < (14 : Int32) := by
  have h := own_shr1 x
  generalize (x.toUInt32 >>> ((1 : Int32) &&& 31).toUInt32).toInt32 = y at h ⊢
  rw [Int32.lt_iff_toInt_lt, Int32.lt_iff_toInt_lt, Int32.toInt_mod]
  have e14 : (14 : Int32).toInt = 14 := by decide
  have e0 : (0 : Int32).toInt = 0 := by decide
  rw [e14, e0, Int.tmod_eq_emod_of_nonneg h]
  omega

theorem d1_0 : decode prog_3_method_5_code 0 = .ok (.iload_n 0, 1) := by decide +kernel
theorem d1_1 : decode prog_3_method_5_code 1 = .ok (.bipush 9, 2) := by decide +kernel
theorem d1_3 : decode prog_3_method_5_code 3 = .ok (.if_icmp .eq 51, 3) := by decide +kernel
theorem d1_54 : decode prog_3_method_5_code 54 = .ok (.iconst 1, 1) := by decide +kernel
theorem d1_55 : decode prog_3_method_5_code 55 = .ok (.goto 4, 3) := by decide +kernel
theorem d1_6 : decode prog_3_method_5_code 6 = .ok (.iload_n 0, 1) := by decide +kernel
theorem d1_7 : decode prog_3_method_5_code 7 = .ok (.bipush 10, 2) := by decide +kernel
theorem d1_9 : decode prog_3_method_5_code 9 = .ok (.if_icmp .eq 45, 3) := by decide +kernel
theorem d1_12 : decode prog_3_method_5_code 12 = .ok (.iload_n 0, 1) := by decide +kernel
theorem d1_13 : decode prog_3_method_5_code 13 = .ok (.bipush 13, 2) := by decide +kernel
theorem d1_15 : decode prog_3_method_5_code 15 = .ok (.if_icmp .eq 39, 3) := by decide +kernel
theorem d1_18 : decode prog_3_method_5_code 18 = .ok (.iload_n 0, 1) := by decide +kernel
theorem d1_19 : decode prog_3_method_5_code 19 = .ok (.bipush 32, 2) := by decide +kernel
theorem d1_21 : decode prog_3_method_5_code 21 = .ok (.if_icmp .lt 9, 3) := by decide +kernel
theorem d1_30 : decode prog_3_method_5_code 30 = .ok (.iload_n 0, 1) := by decide +kernel
theorem d1_31 : decode prog_3_method_5_code 31 = .ok (.ldc 85, 2) := by decide +kernel
theorem d1_33 : decode prog_3_method_5_code 33 = .ok (.if_icmp .lt 9, 3) := by decide +kernel
theorem d1_42 : decode prog_3_method_5_code 42 = .ok (.iload_n 0, 1) := by decide +kernel
theorem d1_43 : decode prog_3_method_5_code 43 = .ok (.ldc 87, 2) := by decide +kernel
theorem d1_45 : decode prog_3_method_5_code 45 = .ok (.if_icmp .lt 13, 3) := by decide +kernel
theorem d1_58 : decode prog_3_method_5_code 58 = .ok (.iconst 0, 1) := by decide +kernel
theorem d1_48 : decode prog_3_method_5_code 48 = .ok (.iload_n 0, 1) := by decide +kernel
theorem d1_49 : decode prog_3_method_5_code 49 = .ok (.ldc 88, 2) := by decide +kernel
theorem d1_51 : decode prog_3_method_5_code 51 = .ok (.if_icmp .gt 7, 3) := by decide +kernel
theorem d1_36 : decode prog_3_method_5_code 36 = .ok (.iload_n 0, 1) := by decide +kernel
theorem d1_37 : decode prog_3_method_5_code 37 = .ok (.ldc 86, 2) := by decide +kernel
theorem d1_39 : decode prog_3_method_5_code 39 = .ok (.if_icmp .le 15, 3) := by decide +kernel
theorem d1_24 : decode prog_3_method_5_code 24 = .ok (.iload_n 0, 1) := by decide +kernel
theorem d1_25 : decode prog_3_method_5_code 25 = .ok (.ldc 84, 2) := by decide +kernel
theorem d1_27 : decode prog_3_method_5_code 27 = .ok (.if_icmp .le 27, 3) := by decide +kernel
theorem d1_59 : decode prog_3_method_5_code 59 = .ok (.ireturn, 1) := by decide +kernel
theorem pn_com_example_buzon_buzon_engine_ApiLimits : plainName "com/example/buzon/buzon/engine/ApiLimits" = true := by first | (simp [plainName, overriddenIn]; done) | decide +kernel
def own_F1 (p1_0 : Int32) : Int32 := (if p1_0 = (9 : Int32) then (1 : Int32) else (if p1_0 = (10 : Int32) then (1 : Int32) else (if p1_0 = (13 : Int32) then (1 : Int32) else (if p1_0 < (32 : Int32) then (if p1_0 < (57344 : Int32) then (if p1_0 < (65536 : Int32) then (0 : Int32) else (if (1114111 : Int32) < p1_0 then (0 : Int32) else (1 : Int32))) else (if (65533 : Int32) < p1_0 then (if p1_0 < (65536 : Int32) then (0 : Int32) else (if (1114111 : Int32) < p1_0 then (0 : Int32) else (1 : Int32))) else (1 : Int32))) else (if (55295 : Int32) < p1_0 then (if p1_0 < (57344 : Int32) then (if p1_0 < (65536 : Int32) then (0 : Int32) else (if (1114111 : Int32) < p1_0 then (0 : Int32) else (1 : Int32))) else (if (65533 : Int32) < p1_0 then (if p1_0 < (65536 : Int32) then (0 : Int32) else (if (1114111 : Int32) < p1_0 then (0 : Int32) else (1 : Int32))) else (1 : Int32))) else (1 : Int32))))))
theorem own_ef1 (m : MethodId) (x0 : Int32) : entryFrame m #[(.int x0)] 1 = mkF m 0 #[.val (.int x0)] [] := by first | (simp [entryFrame, mkF, argsToLocals, Value.category]; done) | rfl
def own_Q1 (r : Int32) (h0 : Heap) (n0 : Nat) (v : Option Value) (h : Heap) (L : List Loc) : Prop := v = some (.int r) ∧ Fr n0 L ∧ h = h0
set_option maxRecDepth 65536 in
set_option maxHeartbeats 40000000 in
theorem own_rm1 (l : Launch) (Z : State) (a0 : Array Value) (hw : ∀ d ∈ tables_1, d.before a0 Z = true) (ws : List Jvm.Cond) (p1_0 : Int32) (h0 : Heap) (n0 : Nat) (Z0 : n0 ≤ h0.size) :
    MetFree l (⟨"com/example/buzon/buzon/engine/ApiLimits", "isCarriedCharacter", "(I)Z"⟩ : MethodName) (head1 (Jvm.Cond.code (⟨"com/example/buzon/buzon/engine/ApiLimits", "isCarriedCharacter", "(I)Z"⟩ : MethodName) prog_3_method_5_code 1 (some .boolean) :: ws) ({ frames := 0, cells := 0, slots := 0, locals := 0 } : Room)) (fun a U => a = #[(.int p1_0)] ∧ Z.Warmed39 U.vm ∧ U.heap = h0) (fun _ _ _ _ _ => True) (fun _ U o U' => ∃ v L, o = .returned v ∧ own_Q1 (own_F1 p1_0) h0 n0 v U'.heap L ∧ FrameEnd U o U' L ({ frames := 0, cells := 0, slots := 0, locals := 0 } : Room).cells ({ frames := 0, cells := 0, slots := 0, locals := 0 } : Room).slots) := by
  refine MetFree.of_bodySF (plainFor_of_name pn_com_example_buzon_buzon_engine_ApiLimits) hisR ?_
  intro p e s m args below meth c s₁ Bd hml0 hP hK
  obtain ⟨rfl, hZ, hh⟩ := hP
  have hx := Bd.exec
  have hby := Bd.bytes
  have hlk : meth.locks = false := BodyLoose.notSynchronized Bd
  have hml : c.maxLocals = 1 := hml0
  have hown : s.vm.findClass "com/example/buzon/buzon/engine/ApiLimits" = some m.cls := findClass_of_methodNamed Bd.named
  have hnm := (name_of_methodNamed Bd.named Bd.method).1
  have X0 : Stand p l e ({ frames := 0, cells := 0, slots := 0, locals := 0 } : Room) s m #[(.int p1_0)] below meth c s₁ [] 0 0 := Stand.of_body Bd
  have e0 : s₁.heap = h0 := by rw [← hh, Bd.state]; rfl
  have N0 := Fr.nil n0
  show own_Go p e below (own_P s below ({ frames := 0, cells := 0, slots := 0, locals := 0 } : Room) (own_Q1 (own_F1 p1_0) h0 n0)) s₁ (entryFrame m #[(.int p1_0)] 1)
  refine own_in (own_ef1 m p1_0) ?_
  refine own_by (T' := s₁) (g' := (mkF m 3 #[.val (.int p1_0)] [(.int (9 : Int32)), (.int p1_0)])) (fun t k => ?_) ?_
  · show Steps p.tables e below (s₁.setTop (mkF m 0 #[.val (.int p1_0)] [])) t
    refine XS.iloadN X0.here hx rfl (hb hby d1_0) rfl ?_
    show Steps p.tables e below (s₁.setTop (mkF m 1 #[.val (.int p1_0)] [(.int p1_0)])) t
    refine XS.bipush X0.here hx rfl (hb hby d1_1) ?_
    show Steps p.tables e below (s₁.setTop (mkF m 3 #[.val (.int p1_0)] [(.int (9 : Int32)), (.int p1_0)])) t
    exact k
  by_cases hc1 : p1_0 = (9 : Int32)
  · skip
    refine own_by (T' := s₁) (g' := (mkF m 59 #[.val (.int p1_0)] [(.int (1 : Int32))])) (fun t k => ?_) ?_
    · show Steps p.tables e below (s₁.setTop (mkF m 3 #[.val (.int p1_0)] [(.int (9 : Int32)), (.int p1_0)])) t
      refine XS.icmpYes X0.here hx rfl (pc0 := 3) (pc' := 54) rfl (hb hby d1_3) rfl (teq hc1).1 (by decide) (by decide) ?_
      show Steps p.tables e below (s₁.setTop (mkF m 54 #[.val (.int p1_0)] [])) t
      refine XS.iconst X0.here hx rfl (hb hby d1_54) ?_
      show Steps p.tables e below (s₁.setTop (mkF m 55 #[.val (.int p1_0)] [(.int (1 : Int32))])) t
      refine XS.goto X0.here hx rfl (pc0 := 55) (pc' := 59) rfl (hb hby d1_55) (by decide) (by decide) ?_
      show Steps p.tables e below (s₁.setTop (mkF m 59 #[.val (.int p1_0)] [(.int (1 : Int32))])) t
      exact k
    rw [show own_F1 p1_0 = (1 : Int32) from ((if_pos hc1).trans rfl)]
    exact own_retN X0 hx (t := .boolean) Bd.returns (by simp) (hb hby d1_59) hlk (by decide) (by decide) ⟨rfl, N0, e0⟩
  · skip
    refine own_by (T' := s₁) (g' := (mkF m 9 #[.val (.int p1_0)] [(.int (10 : Int32)), (.int p1_0)])) (fun t k => ?_) ?_
    · show Steps p.tables e below (s₁.setTop (mkF m 3 #[.val (.int p1_0)] [(.int (9 : Int32)), (.int p1_0)])) t
      refine XS.icmpNo X0.here hx rfl (hb hby d1_3) rfl (feq hc1).1 ?_
      show Steps p.tables e below (s₁.setTop (mkF m 6 #[.val (.int p1_0)] [])) t
      refine XS.iloadN X0.here hx rfl (hb hby d1_6) rfl ?_
      show Steps p.tables e below (s₁.setTop (mkF m 7 #[.val (.int p1_0)] [(.int p1_0)])) t
      refine XS.bipush X0.here hx rfl (hb hby d1_7) ?_
      show Steps p.tables e below (s₁.setTop (mkF m 9 #[.val (.int p1_0)] [(.int (10 : Int32)), (.int p1_0)])) t
      exact k
    by_cases hc18 : p1_0 = (10 : Int32)
    · skip
      refine own_by (T' := s₁) (g' := (mkF m 59 #[.val (.int p1_0)] [(.int (1 : Int32))])) (fun t k => ?_) ?_
      · show Steps p.tables e below (s₁.setTop (mkF m 9 #[.val (.int p1_0)] [(.int (10 : Int32)), (.int p1_0)])) t
        refine XS.icmpYes X0.here hx rfl (pc0 := 9) (pc' := 54) rfl (hb hby d1_9) rfl (teq hc18).1 (by decide) (by decide) ?_
        show Steps p.tables e below (s₁.setTop (mkF m 54 #[.val (.int p1_0)] [])) t
        refine XS.iconst X0.here hx rfl (hb hby d1_54) ?_
        show Steps p.tables e below (s₁.setTop (mkF m 55 #[.val (.int p1_0)] [(.int (1 : Int32))])) t
        refine XS.goto X0.here hx rfl (pc0 := 55) (pc' := 59) rfl (hb hby d1_55) (by decide) (by decide) ?_
        show Steps p.tables e below (s₁.setTop (mkF m 59 #[.val (.int p1_0)] [(.int (1 : Int32))])) t
        exact k
      rw [show own_F1 p1_0 = (1 : Int32) from ((if_neg hc1).trans ((if_pos hc18).trans rfl))]
      exact own_retN X0 hx (t := .boolean) Bd.returns (by simp) (hb hby d1_59) hlk (by decide) (by decide) ⟨rfl, N0, e0⟩
    · skip
      refine own_by (T' := s₁) (g' := (mkF m 15 #[.val (.int p1_0)] [(.int (13 : Int32)), (.int p1_0)])) (fun t k => ?_) ?_
      · show Steps p.tables e below (s₁.setTop (mkF m 9 #[.val (.int p1_0)] [(.int (10 : Int32)), (.int p1_0)])) t
        refine XS.icmpNo X0.here hx rfl (hb hby d1_9) rfl (feq hc18).1 ?_
        show Steps p.tables e below (s₁.setTop (mkF m 12 #[.val (.int p1_0)] [])) t
        refine XS.iloadN X0.here hx rfl (hb hby d1_12) rfl ?_
        show Steps p.tables e below (s₁.setTop (mkF m 13 #[.val (.int p1_0)] [(.int p1_0)])) t
        refine XS.bipush X0.here hx rfl (hb hby d1_13) ?_
        show Steps p.tables e below (s₁.setTop (mkF m 15 #[.val (.int p1_0)] [(.int (13 : Int32)), (.int p1_0)])) t
        exact k
      by_cases hc34 : p1_0 = (13 : Int32)
      · skip
        refine own_by (T' := s₁) (g' := (mkF m 59 #[.val (.int p1_0)] [(.int (1 : Int32))])) (fun t k => ?_) ?_
        · show Steps p.tables e below (s₁.setTop (mkF m 15 #[.val (.int p1_0)] [(.int (13 : Int32)), (.int p1_0)])) t
          refine XS.icmpYes X0.here hx rfl (pc0 := 15) (pc' := 54) rfl (hb hby d1_15) rfl (teq hc34).1 (by decide) (by decide) ?_
          show Steps p.tables e below (s₁.setTop (mkF m 54 #[.val (.int p1_0)] [])) t
          refine XS.iconst X0.here hx rfl (hb hby d1_54) ?_
          show Steps p.tables e below (s₁.setTop (mkF m 55 #[.val (.int p1_0)] [(.int (1 : Int32))])) t
          refine XS.goto X0.here hx rfl (pc0 := 55) (pc' := 59) rfl (hb hby d1_55) (by decide) (by decide) ?_
          show Steps p.tables e below (s₁.setTop (mkF m 59 #[.val (.int p1_0)] [(.int (1 : Int32))])) t
          exact k
        rw [show own_F1 p1_0 = (1 : Int32) from ((if_neg hc1).trans ((if_neg hc18).trans ((if_pos hc34).trans rfl)))]
        exact own_retN X0 hx (t := .boolean) Bd.returns (by simp) (hb hby d1_59) hlk (by decide) (by decide) ⟨rfl, N0, e0⟩
      · skip
        refine own_by (T' := s₁) (g' := (mkF m 21 #[.val (.int p1_0)] [(.int (32 : Int32)), (.int p1_0)])) (fun t k => ?_) ?_
        · show Steps p.tables e below (s₁.setTop (mkF m 15 #[.val (.int p1_0)] [(.int (13 : Int32)), (.int p1_0)])) t
          refine XS.icmpNo X0.here hx rfl (hb hby d1_15) rfl (feq hc34).1 ?_
          show Steps p.tables e below (s₁.setTop (mkF m 18 #[.val (.int p1_0)] [])) t
          refine XS.iloadN X0.here hx rfl (hb hby d1_18) rfl ?_
          show Steps p.tables e below (s₁.setTop (mkF m 19 #[.val (.int p1_0)] [(.int p1_0)])) t
          refine XS.bipush X0.here hx rfl (hb hby d1_19) ?_
          show Steps p.tables e below (s₁.setTop (mkF m 21 #[.val (.int p1_0)] [(.int (32 : Int32)), (.int p1_0)])) t
          exact k
        by_cases hc49 : p1_0 < (32 : Int32)
        · skip
          refine own_by (T' := s₁) (g' := (mkF m 33 #[.val (.int p1_0)] [(.int (57344 : Int32)), (.int p1_0)])) (fun t k => ?_) ?_
          · show Steps p.tables e below (s₁.setTop (mkF m 21 #[.val (.int p1_0)] [(.int (32 : Int32)), (.int p1_0)])) t
            refine XS.icmpYes X0.here hx rfl (pc0 := 21) (pc' := 30) rfl (hb hby d1_21) rfl (tlt hc49).1 (by decide) (by decide) ?_
            show Steps p.tables e below (s₁.setTop (mkF m 30 #[.val (.int p1_0)] [])) t
            refine XS.iloadN X0.here hx rfl (hb hby d1_30) rfl ?_
            show Steps p.tables e below (s₁.setTop (mkF m 31 #[.val (.int p1_0)] [(.int p1_0)])) t
            refine X0.ldcInt hx hown (mvT hZ (hw _ (List.mem_of_getElem? (i := 14) rfl))) (g := (mkF m 31 #[.val (.int p1_0)] [(.int p1_0)])) rfl (hb hby d1_31) _ ?_
            show Steps p.tables e below (s₁.setTop (mkF m 33 #[.val (.int p1_0)] [(.int (57344 : Int32)), (.int p1_0)])) t
            exact k
          by_cases hc63 : p1_0 < (57344 : Int32)
          · skip
            refine own_by (T' := s₁) (g' := (mkF m 45 #[.val (.int p1_0)] [(.int (65536 : Int32)), (.int p1_0)])) (fun t k => ?_) ?_
            · show Steps p.tables e below (s₁.setTop (mkF m 33 #[.val (.int p1_0)] [(.int (57344 : Int32)), (.int p1_0)])) t
              refine XS.icmpYes X0.here hx rfl (pc0 := 33) (pc' := 42) rfl (hb hby d1_33) rfl (tlt hc63).1 (by decide) (by decide) ?_
              show Steps p.tables e below (s₁.setTop (mkF m 42 #[.val (.int p1_0)] [])) t
              refine XS.iloadN X0.here hx rfl (hb hby d1_42) rfl ?_
              show Steps p.tables e below (s₁.setTop (mkF m 43 #[.val (.int p1_0)] [(.int p1_0)])) t
              refine X0.ldcInt hx hown (mvT hZ (hw _ (List.mem_of_getElem? (i := 15) rfl))) (g := (mkF m 43 #[.val (.int p1_0)] [(.int p1_0)])) rfl (hb hby d1_43) _ ?_
              show Steps p.tables e below (s₁.setTop (mkF m 45 #[.val (.int p1_0)] [(.int (65536 : Int32)), (.int p1_0)])) t
              exact k
            by_cases hc69 : p1_0 < (65536 : Int32)
            · skip
              refine own_by (T' := s₁) (g' := (mkF m 59 #[.val (.int p1_0)] [(.int (0 : Int32))])) (fun t k => ?_) ?_
              · show Steps p.tables e below (s₁.setTop (mkF m 45 #[.val (.int p1_0)] [(.int (65536 : Int32)), (.int p1_0)])) t
                refine XS.icmpYes X0.here hx rfl (pc0 := 45) (pc' := 58) rfl (hb hby d1_45) rfl (tlt hc69).1 (by decide) (by decide) ?_
                show Steps p.tables e below (s₁.setTop (mkF m 58 #[.val (.int p1_0)] [])) t
                refine XS.iconst X0.here hx rfl (hb hby d1_58) ?_
                show Steps p.tables e below (s₁.setTop (mkF m 59 #[.val (.int p1_0)] [(.int (0 : Int32))])) t
                exact k
              rw [show own_F1 p1_0 = (0 : Int32) from ((if_neg hc1).trans ((if_neg hc18).trans ((if_neg hc34).trans ((if_pos hc49).trans ((if_pos hc63).trans ((if_pos hc69).trans rfl))))))]
              exact own_retN X0 hx (t := .boolean) Bd.returns (by simp) (hb hby d1_59) hlk (by decide) (by decide) ⟨rfl, N0, e0⟩
            · skip
              refine own_by (T' := s₁) (g' := (mkF m 51 #[.val (.int p1_0)] [(.int (1114111 : Int32)), (.int p1_0)])) (fun t k => ?_) ?_
              · show Steps p.tables e below (s₁.setTop (mkF m 45 #[.val (.int p1_0)] [(.int (65536 : Int32)), (.int p1_0)])) t
                refine XS.icmpNo X0.here hx rfl (hb hby d1_45) rfl (flt hc69).1 ?_
                show Steps p.tables e below (s₁.setTop (mkF m 48 #[.val (.int p1_0)] [])) t
                refine XS.iloadN X0.here hx rfl (hb hby d1_48) rfl ?_
                show Steps p.tables e below (s₁.setTop (mkF m 49 #[.val (.int p1_0)] [(.int p1_0)])) t
                refine X0.ldcInt hx hown (mvT hZ (hw _ (List.mem_of_getElem? (i := 24) rfl))) (g := (mkF m 49 #[.val (.int p1_0)] [(.int p1_0)])) rfl (hb hby d1_49) _ ?_
                show Steps p.tables e below (s₁.setTop (mkF m 51 #[.val (.int p1_0)] [(.int (1114111 : Int32)), (.int p1_0)])) t
                exact k
              by_cases hc71 : (1114111 : Int32) < p1_0
              · skip
                refine own_by (T' := s₁) (g' := (mkF m 59 #[.val (.int p1_0)] [(.int (0 : Int32))])) (fun t k => ?_) ?_
                · show Steps p.tables e below (s₁.setTop (mkF m 51 #[.val (.int p1_0)] [(.int (1114111 : Int32)), (.int p1_0)])) t
                  refine XS.icmpYes X0.here hx rfl (pc0 := 51) (pc' := 58) rfl (hb hby d1_51) rfl (tlt hc71).2.2.1 (by decide) (by decide) ?_
                  show Steps p.tables e below (s₁.setTop (mkF m 58 #[.val (.int p1_0)] [])) t
                  refine XS.iconst X0.here hx rfl (hb hby d1_58) ?_
                  show Steps p.tables e below (s₁.setTop (mkF m 59 #[.val (.int p1_0)] [(.int (0 : Int32))])) t
                  exact k
                rw [show own_F1 p1_0 = (0 : Int32) from ((if_neg hc1).trans ((if_neg hc18).trans ((if_neg hc34).trans ((if_pos hc49).trans ((if_pos hc63).trans ((if_neg hc69).trans ((if_pos hc71).trans rfl)))))))]
                exact own_retN X0 hx (t := .boolean) Bd.returns (by simp) (hb hby d1_59) hlk (by decide) (by decide) ⟨rfl, N0, e0⟩
              · skip
                refine own_by (T' := s₁) (g' := (mkF m 59 #[.val (.int p1_0)] [(.int (1 : Int32))])) (fun t k => ?_) ?_
                · show Steps p.tables e below (s₁.setTop (mkF m 51 #[.val (.int p1_0)] [(.int (1114111 : Int32)), (.int p1_0)])) t
                  refine XS.icmpNo X0.here hx rfl (hb hby d1_51) rfl (flt hc71).2.2.1 ?_
                  show Steps p.tables e below (s₁.setTop (mkF m 54 #[.val (.int p1_0)] [])) t
                  refine XS.iconst X0.here hx rfl (hb hby d1_54) ?_
                  show Steps p.tables e below (s₁.setTop (mkF m 55 #[.val (.int p1_0)] [(.int (1 : Int32))])) t
                  refine XS.goto X0.here hx rfl (pc0 := 55) (pc' := 59) rfl (hb hby d1_55) (by decide) (by decide) ?_
                  show Steps p.tables e below (s₁.setTop (mkF m 59 #[.val (.int p1_0)] [(.int (1 : Int32))])) t
                  exact k
                rw [show own_F1 p1_0 = (1 : Int32) from ((if_neg hc1).trans ((if_neg hc18).trans ((if_neg hc34).trans ((if_pos hc49).trans ((if_pos hc63).trans ((if_neg hc69).trans ((if_neg hc71).trans rfl)))))))]
                exact own_retN X0 hx (t := .boolean) Bd.returns (by simp) (hb hby d1_59) hlk (by decide) (by decide) ⟨rfl, N0, e0⟩
          · skip
            refine own_by (T' := s₁) (g' := (mkF m 39 #[.val (.int p1_0)] [(.int (65533 : Int32)), (.int p1_0)])) (fun t k => ?_) ?_
            · show Steps p.tables e below (s₁.setTop (mkF m 33 #[.val (.int p1_0)] [(.int (57344 : Int32)), (.int p1_0)])) t
              refine XS.icmpNo X0.here hx rfl (hb hby d1_33) rfl (flt hc63).1 ?_
              show Steps p.tables e below (s₁.setTop (mkF m 36 #[.val (.int p1_0)] [])) t
              refine XS.iloadN X0.here hx rfl (hb hby d1_36) rfl ?_
              show Steps p.tables e below (s₁.setTop (mkF m 37 #[.val (.int p1_0)] [(.int p1_0)])) t
              refine X0.ldcInt hx hown (mvT hZ (hw _ (List.mem_of_getElem? (i := 23) rfl))) (g := (mkF m 37 #[.val (.int p1_0)] [(.int p1_0)])) rfl (hb hby d1_37) _ ?_
              show Steps p.tables e below (s₁.setTop (mkF m 39 #[.val (.int p1_0)] [(.int (65533 : Int32)), (.int p1_0)])) t
              exact k
            by_cases hc72 : (65533 : Int32) < p1_0
            · skip
              refine own_by (T' := s₁) (g' := (mkF m 45 #[.val (.int p1_0)] [(.int (65536 : Int32)), (.int p1_0)])) (fun t k => ?_) ?_
              · show Steps p.tables e below (s₁.setTop (mkF m 39 #[.val (.int p1_0)] [(.int (65533 : Int32)), (.int p1_0)])) t
                refine XS.icmpNo X0.here hx rfl (hb hby d1_39) rfl (tlt hc72).2.2.2 ?_
                show Steps p.tables e below (s₁.setTop (mkF m 42 #[.val (.int p1_0)] [])) t
                refine XS.iloadN X0.here hx rfl (hb hby d1_42) rfl ?_
                show Steps p.tables e below (s₁.setTop (mkF m 43 #[.val (.int p1_0)] [(.int p1_0)])) t
                refine X0.ldcInt hx hown (mvT hZ (hw _ (List.mem_of_getElem? (i := 15) rfl))) (g := (mkF m 43 #[.val (.int p1_0)] [(.int p1_0)])) rfl (hb hby d1_43) _ ?_
                show Steps p.tables e below (s₁.setTop (mkF m 45 #[.val (.int p1_0)] [(.int (65536 : Int32)), (.int p1_0)])) t
                exact k
              by_cases hc75 : p1_0 < (65536 : Int32)
              · skip
                refine own_by (T' := s₁) (g' := (mkF m 59 #[.val (.int p1_0)] [(.int (0 : Int32))])) (fun t k => ?_) ?_
                · show Steps p.tables e below (s₁.setTop (mkF m 45 #[.val (.int p1_0)] [(.int (65536 : Int32)), (.int p1_0)])) t
                  refine XS.icmpYes X0.here hx rfl (pc0 := 45) (pc' := 58) rfl (hb hby d1_45) rfl (tlt hc75).1 (by decide) (by decide) ?_
                  show Steps p.tables e below (s₁.setTop (mkF m 58 #[.val (.int p1_0)] [])) t
                  refine XS.iconst X0.here hx rfl (hb hby d1_58) ?_
                  show Steps p.tables e below (s₁.setTop (mkF m 59 #[.val (.int p1_0)] [(.int (0 : Int32))])) t
                  exact k
                rw [show own_F1 p1_0 = (0 : Int32) from ((if_neg hc1).trans ((if_neg hc18).trans ((if_neg hc34).trans ((if_pos hc49).trans ((if_neg hc63).trans ((if_pos hc72).trans ((if_pos hc75).trans rfl)))))))]
                exact own_retN X0 hx (t := .boolean) Bd.returns (by simp) (hb hby d1_59) hlk (by decide) (by decide) ⟨rfl, N0, e0⟩
              · skip
                refine own_by (T' := s₁) (g' := (mkF m 51 #[.val (.int p1_0)] [(.int (1114111 : Int32)), (.int p1_0)])) (fun t k => ?_) ?_
                · show Steps p.tables e below (s₁.setTop (mkF m 45 #[.val (.int p1_0)] [(.int (65536 : Int32)), (.int p1_0)])) t
                  refine XS.icmpNo X0.here hx rfl (hb hby d1_45) rfl (flt hc75).1 ?_
                  show Steps p.tables e below (s₁.setTop (mkF m 48 #[.val (.int p1_0)] [])) t
                  refine XS.iloadN X0.here hx rfl (hb hby d1_48) rfl ?_
                  show Steps p.tables e below (s₁.setTop (mkF m 49 #[.val (.int p1_0)] [(.int p1_0)])) t
                  refine X0.ldcInt hx hown (mvT hZ (hw _ (List.mem_of_getElem? (i := 24) rfl))) (g := (mkF m 49 #[.val (.int p1_0)] [(.int p1_0)])) rfl (hb hby d1_49) _ ?_
                  show Steps p.tables e below (s₁.setTop (mkF m 51 #[.val (.int p1_0)] [(.int (1114111 : Int32)), (.int p1_0)])) t
                  exact k
                by_cases hc77 : (1114111 : Int32) < p1_0
                · skip
                  refine own_by (T' := s₁) (g' := (mkF m 59 #[.val (.int p1_0)] [(.int (0 : Int32))])) (fun t k => ?_) ?_
                  · show Steps p.tables e below (s₁.setTop (mkF m 51 #[.val (.int p1_0)] [(.int (1114111 : Int32)), (.int p1_0)])) t
                    refine XS.icmpYes X0.here hx rfl (pc0 := 51) (pc' := 58) rfl (hb hby d1_51) rfl (tlt hc77).2.2.1 (by decide) (by decide) ?_
                    show Steps p.tables e below (s₁.setTop (mkF m 58 #[.val (.int p1_0)] [])) t
                    refine XS.iconst X0.here hx rfl (hb hby d1_58) ?_
                    show Steps p.tables e below (s₁.setTop (mkF m 59 #[.val (.int p1_0)] [(.int (0 : Int32))])) t
                    exact k
                  rw [show own_F1 p1_0 = (0 : Int32) from ((if_neg hc1).trans ((if_neg hc18).trans ((if_neg hc34).trans ((if_pos hc49).trans ((if_neg hc63).trans ((if_pos hc72).trans ((if_neg hc75).trans ((if_pos hc77).trans rfl))))))))]
                  exact own_retN X0 hx (t := .boolean) Bd.returns (by simp) (hb hby d1_59) hlk (by decide) (by decide) ⟨rfl, N0, e0⟩
                · skip
                  refine own_by (T' := s₁) (g' := (mkF m 59 #[.val (.int p1_0)] [(.int (1 : Int32))])) (fun t k => ?_) ?_
                  · show Steps p.tables e below (s₁.setTop (mkF m 51 #[.val (.int p1_0)] [(.int (1114111 : Int32)), (.int p1_0)])) t
                    refine XS.icmpNo X0.here hx rfl (hb hby d1_51) rfl (flt hc77).2.2.1 ?_
                    show Steps p.tables e below (s₁.setTop (mkF m 54 #[.val (.int p1_0)] [])) t
                    refine XS.iconst X0.here hx rfl (hb hby d1_54) ?_
                    show Steps p.tables e below (s₁.setTop (mkF m 55 #[.val (.int p1_0)] [(.int (1 : Int32))])) t
                    refine XS.goto X0.here hx rfl (pc0 := 55) (pc' := 59) rfl (hb hby d1_55) (by decide) (by decide) ?_
                    show Steps p.tables e below (s₁.setTop (mkF m 59 #[.val (.int p1_0)] [(.int (1 : Int32))])) t
                    exact k
                  rw [show own_F1 p1_0 = (1 : Int32) from ((if_neg hc1).trans ((if_neg hc18).trans ((if_neg hc34).trans ((if_pos hc49).trans ((if_neg hc63).trans ((if_pos hc72).trans ((if_neg hc75).trans ((if_neg hc77).trans rfl))))))))]
                  exact own_retN X0 hx (t := .boolean) Bd.returns (by simp) (hb hby d1_59) hlk (by decide) (by decide) ⟨rfl, N0, e0⟩
            · skip
              refine own_by (T' := s₁) (g' := (mkF m 59 #[.val (.int p1_0)] [(.int (1 : Int32))])) (fun t k => ?_) ?_
              · show Steps p.tables e below (s₁.setTop (mkF m 39 #[.val (.int p1_0)] [(.int (65533 : Int32)), (.int p1_0)])) t
                refine XS.icmpYes X0.here hx rfl (pc0 := 39) (pc' := 54) rfl (hb hby d1_39) rfl (flt hc72).2.2.2 (by decide) (by decide) ?_
                show Steps p.tables e below (s₁.setTop (mkF m 54 #[.val (.int p1_0)] [])) t
                refine XS.iconst X0.here hx rfl (hb hby d1_54) ?_
                show Steps p.tables e below (s₁.setTop (mkF m 55 #[.val (.int p1_0)] [(.int (1 : Int32))])) t
                refine XS.goto X0.here hx rfl (pc0 := 55) (pc' := 59) rfl (hb hby d1_55) (by decide) (by decide) ?_
                show Steps p.tables e below (s₁.setTop (mkF m 59 #[.val (.int p1_0)] [(.int (1 : Int32))])) t
                exact k
              rw [show own_F1 p1_0 = (1 : Int32) from ((if_neg hc1).trans ((if_neg hc18).trans ((if_neg hc34).trans ((if_pos hc49).trans ((if_neg hc63).trans ((if_neg hc72).trans rfl))))))]
              exact own_retN X0 hx (t := .boolean) Bd.returns (by simp) (hb hby d1_59) hlk (by decide) (by decide) ⟨rfl, N0, e0⟩
        · skip
          refine own_by (T' := s₁) (g' := (mkF m 27 #[.val (.int p1_0)] [(.int (55295 : Int32)), (.int p1_0)])) (fun t k => ?_) ?_
          · show Steps p.tables e below (s₁.setTop (mkF m 21 #[.val (.int p1_0)] [(.int (32 : Int32)), (.int p1_0)])) t
            refine XS.icmpNo X0.here hx rfl (hb hby d1_21) rfl (flt hc49).1 ?_
            show Steps p.tables e below (s₁.setTop (mkF m 24 #[.val (.int p1_0)] [])) t
            refine XS.iloadN X0.here hx rfl (hb hby d1_24) rfl ?_
            show Steps p.tables e below (s₁.setTop (mkF m 25 #[.val (.int p1_0)] [(.int p1_0)])) t
            refine X0.ldcInt hx hown (mvT hZ (hw _ (List.mem_of_getElem? (i := 20) rfl))) (g := (mkF m 25 #[.val (.int p1_0)] [(.int p1_0)])) rfl (hb hby d1_25) _ ?_
            show Steps p.tables e below (s₁.setTop (mkF m 27 #[.val (.int p1_0)] [(.int (55295 : Int32)), (.int p1_0)])) t
            exact k
          by_cases hc78 : (55295 : Int32) < p1_0
          · skip
            refine own_by (T' := s₁) (g' := (mkF m 33 #[.val (.int p1_0)] [(.int (57344 : Int32)), (.int p1_0)])) (fun t k => ?_) ?_
            · show Steps p.tables e below (s₁.setTop (mkF m 27 #[.val (.int p1_0)] [(.int (55295 : Int32)), (.int p1_0)])) t
              refine XS.icmpNo X0.here hx rfl (hb hby d1_27) rfl (tlt hc78).2.2.2 ?_
              show Steps p.tables e below (s₁.setTop (mkF m 30 #[.val (.int p1_0)] [])) t
              refine XS.iloadN X0.here hx rfl (hb hby d1_30) rfl ?_
              show Steps p.tables e below (s₁.setTop (mkF m 31 #[.val (.int p1_0)] [(.int p1_0)])) t
              refine X0.ldcInt hx hown (mvT hZ (hw _ (List.mem_of_getElem? (i := 14) rfl))) (g := (mkF m 31 #[.val (.int p1_0)] [(.int p1_0)])) rfl (hb hby d1_31) _ ?_
              show Steps p.tables e below (s₁.setTop (mkF m 33 #[.val (.int p1_0)] [(.int (57344 : Int32)), (.int p1_0)])) t
              exact k
            by_cases hc85 : p1_0 < (57344 : Int32)
            · skip
              refine own_by (T' := s₁) (g' := (mkF m 45 #[.val (.int p1_0)] [(.int (65536 : Int32)), (.int p1_0)])) (fun t k => ?_) ?_
              · show Steps p.tables e below (s₁.setTop (mkF m 33 #[.val (.int p1_0)] [(.int (57344 : Int32)), (.int p1_0)])) t
                refine XS.icmpYes X0.here hx rfl (pc0 := 33) (pc' := 42) rfl (hb hby d1_33) rfl (tlt hc85).1 (by decide) (by decide) ?_
                show Steps p.tables e below (s₁.setTop (mkF m 42 #[.val (.int p1_0)] [])) t
                refine XS.iloadN X0.here hx rfl (hb hby d1_42) rfl ?_
                show Steps p.tables e below (s₁.setTop (mkF m 43 #[.val (.int p1_0)] [(.int p1_0)])) t
                refine X0.ldcInt hx hown (mvT hZ (hw _ (List.mem_of_getElem? (i := 15) rfl))) (g := (mkF m 43 #[.val (.int p1_0)] [(.int p1_0)])) rfl (hb hby d1_43) _ ?_
                show Steps p.tables e below (s₁.setTop (mkF m 45 #[.val (.int p1_0)] [(.int (65536 : Int32)), (.int p1_0)])) t
                exact k
              by_cases hc91 : p1_0 < (65536 : Int32)
              · skip
                refine own_by (T' := s₁) (g' := (mkF m 59 #[.val (.int p1_0)] [(.int (0 : Int32))])) (fun t k => ?_) ?_
                · show Steps p.tables e below (s₁.setTop (mkF m 45 #[.val (.int p1_0)] [(.int (65536 : Int32)), (.int p1_0)])) t
                  refine XS.icmpYes X0.here hx rfl (pc0 := 45) (pc' := 58) rfl (hb hby d1_45) rfl (tlt hc91).1 (by decide) (by decide) ?_
                  show Steps p.tables e below (s₁.setTop (mkF m 58 #[.val (.int p1_0)] [])) t
                  refine XS.iconst X0.here hx rfl (hb hby d1_58) ?_
                  show Steps p.tables e below (s₁.setTop (mkF m 59 #[.val (.int p1_0)] [(.int (0 : Int32))])) t
                  exact k
                rw [show own_F1 p1_0 = (0 : Int32) from ((if_neg hc1).trans ((if_neg hc18).trans ((if_neg hc34).trans ((if_neg hc49).trans ((if_pos hc78).trans ((if_pos hc85).trans ((if_pos hc91).trans rfl)))))))]
                exact own_retN X0 hx (t := .boolean) Bd.returns (by simp) (hb hby d1_59) hlk (by decide) (by decide) ⟨rfl, N0, e0⟩
              · skip
                refine own_by (T' := s₁) (g' := (mkF m 51 #[.val (.int p1_0)] [(.int (1114111 : Int32)), (.int p1_0)])) (fun t k => ?_) ?_
                · show Steps p.tables e below (s₁.setTop (mkF m 45 #[.val (.int p1_0)] [(.int (65536 : Int32)), (.int p1_0)])) t
                  refine XS.icmpNo X0.here hx rfl (hb hby d1_45) rfl (flt hc91).1 ?_
                  show Steps p.tables e below (s₁.setTop (mkF m 48 #[.val (.int p1_0)] [])) t
                  refine XS.iloadN X0.here hx rfl (hb hby d1_48) rfl ?_
                  show Steps p.tables e below (s₁.setTop (mkF m 49 #[.val (.int p1_0)] [(.int p1_0)])) t
                  refine X0.ldcInt hx hown (mvT hZ (hw _ (List.mem_of_getElem? (i := 24) rfl))) (g := (mkF m 49 #[.val (.int p1_0)] [(.int p1_0)])) rfl (hb hby d1_49) _ ?_
                  show Steps p.tables e below (s₁.setTop (mkF m 51 #[.val (.int p1_0)] [(.int (1114111 : Int32)), (.int p1_0)])) t
                  exact k
                by_cases hc93 : (1114111 : Int32) < p1_0
                · skip
                  refine own_by (T' := s₁) (g' := (mkF m 59 #[.val (.int p1_0)] [(.int (0 : Int32))])) (fun t k => ?_) ?_
                  · show Steps p.tables e below (s₁.setTop (mkF m 51 #[.val (.int p1_0)] [(.int (1114111 : Int32)), (.int p1_0)])) t
                    refine XS.icmpYes X0.here hx rfl (pc0 := 51) (pc' := 58) rfl (hb hby d1_51) rfl (tlt hc93).2.2.1 (by decide) (by decide) ?_
                    show Steps p.tables e below (s₁.setTop (mkF m 58 #[.val (.int p1_0)] [])) t
                    refine XS.iconst X0.here hx rfl (hb hby d1_58) ?_
                    show Steps p.tables e below (s₁.setTop (mkF m 59 #[.val (.int p1_0)] [(.int (0 : Int32))])) t
                    exact k
                  rw [show own_F1 p1_0 = (0 : Int32) from ((if_neg hc1).trans ((if_neg hc18).trans ((if_neg hc34).trans ((if_neg hc49).trans ((if_pos hc78).trans ((if_pos hc85).trans ((if_neg hc91).trans ((if_pos hc93).trans rfl))))))))]
                  exact own_retN X0 hx (t := .boolean) Bd.returns (by simp) (hb hby d1_59) hlk (by decide) (by decide) ⟨rfl, N0, e0⟩
                · skip
                  refine own_by (T' := s₁) (g' := (mkF m 59 #[.val (.int p1_0)] [(.int (1 : Int32))])) (fun t k => ?_) ?_
                  · show Steps p.tables e below (s₁.setTop (mkF m 51 #[.val (.int p1_0)] [(.int (1114111 : Int32)), (.int p1_0)])) t
                    refine XS.icmpNo X0.here hx rfl (hb hby d1_51) rfl (flt hc93).2.2.1 ?_
                    show Steps p.tables e below (s₁.setTop (mkF m 54 #[.val (.int p1_0)] [])) t
                    refine XS.iconst X0.here hx rfl (hb hby d1_54) ?_
                    show Steps p.tables e below (s₁.setTop (mkF m 55 #[.val (.int p1_0)] [(.int (1 : Int32))])) t
                    refine XS.goto X0.here hx rfl (pc0 := 55) (pc' := 59) rfl (hb hby d1_55) (by decide) (by decide) ?_
                    show Steps p.tables e below (s₁.setTop (mkF m 59 #[.val (.int p1_0)] [(.int (1 : Int32))])) t
                    exact k
                  rw [show own_F1 p1_0 = (1 : Int32) from ((if_neg hc1).trans ((if_neg hc18).trans ((if_neg hc34).trans ((if_neg hc49).trans ((if_pos hc78).trans ((if_pos hc85).trans ((if_neg hc91).trans ((if_neg hc93).trans rfl))))))))]
                  exact own_retN X0 hx (t := .boolean) Bd.returns (by simp) (hb hby d1_59) hlk (by decide) (by decide) ⟨rfl, N0, e0⟩
            · skip
              refine own_by (T' := s₁) (g' := (mkF m 39 #[.val (.int p1_0)] [(.int (65533 : Int32)), (.int p1_0)])) (fun t k => ?_) ?_
              · show Steps p.tables e below (s₁.setTop (mkF m 33 #[.val (.int p1_0)] [(.int (57344 : Int32)), (.int p1_0)])) t
                refine XS.icmpNo X0.here hx rfl (hb hby d1_33) rfl (flt hc85).1 ?_
                show Steps p.tables e below (s₁.setTop (mkF m 36 #[.val (.int p1_0)] [])) t
                refine XS.iloadN X0.here hx rfl (hb hby d1_36) rfl ?_
                show Steps p.tables e below (s₁.setTop (mkF m 37 #[.val (.int p1_0)] [(.int p1_0)])) t
                refine X0.ldcInt hx hown (mvT hZ (hw _ (List.mem_of_getElem? (i := 23) rfl))) (g := (mkF m 37 #[.val (.int p1_0)] [(.int p1_0)])) rfl (hb hby d1_37) _ ?_
                show Steps p.tables e below (s₁.setTop (mkF m 39 #[.val (.int p1_0)] [(.int (65533 : Int32)), (.int p1_0)])) t
                exact k
              by_cases hc94 : (65533 : Int32) < p1_0
              · skip
                refine own_by (T' := s₁) (g' := (mkF m 45 #[.val (.int p1_0)] [(.int (65536 : Int32)), (.int p1_0)])) (fun t k => ?_) ?_
                · show Steps p.tables e below (s₁.setTop (mkF m 39 #[.val (.int p1_0)] [(.int (65533 : Int32)), (.int p1_0)])) t
                  refine XS.icmpNo X0.here hx rfl (hb hby d1_39) rfl (tlt hc94).2.2.2 ?_
                  show Steps p.tables e below (s₁.setTop (mkF m 42 #[.val (.int p1_0)] [])) t
                  refine XS.iloadN X0.here hx rfl (hb hby d1_42) rfl ?_
                  show Steps p.tables e below (s₁.setTop (mkF m 43 #[.val (.int p1_0)] [(.int p1_0)])) t
                  refine X0.ldcInt hx hown (mvT hZ (hw _ (List.mem_of_getElem? (i := 15) rfl))) (g := (mkF m 43 #[.val (.int p1_0)] [(.int p1_0)])) rfl (hb hby d1_43) _ ?_
                  show Steps p.tables e below (s₁.setTop (mkF m 45 #[.val (.int p1_0)] [(.int (65536 : Int32)), (.int p1_0)])) t
                  exact k
                by_cases hc97 : p1_0 < (65536 : Int32)
                · skip
                  refine own_by (T' := s₁) (g' := (mkF m 59 #[.val (.int p1_0)] [(.int (0 : Int32))])) (fun t k => ?_) ?_
                  · show Steps p.tables e below (s₁.setTop (mkF m 45 #[.val (.int p1_0)] [(.int (65536 : Int32)), (.int p1_0)])) t
                    refine XS.icmpYes X0.here hx rfl (pc0 := 45) (pc' := 58) rfl (hb hby d1_45) rfl (tlt hc97).1 (by decide) (by decide) ?_
                    show Steps p.tables e below (s₁.setTop (mkF m 58 #[.val (.int p1_0)] [])) t
                    refine XS.iconst X0.here hx rfl (hb hby d1_58) ?_
                    show Steps p.tables e below (s₁.setTop (mkF m 59 #[.val (.int p1_0)] [(.int (0 : Int32))])) t
                    exact k
                  rw [show own_F1 p1_0 = (0 : Int32) from ((if_neg hc1).trans ((if_neg hc18).trans ((if_neg hc34).trans ((if_neg hc49).trans ((if_pos hc78).trans ((if_neg hc85).trans ((if_pos hc94).trans ((if_pos hc97).trans rfl))))))))]
                  exact own_retN X0 hx (t := .boolean) Bd.returns (by simp) (hb hby d1_59) hlk (by decide) (by decide) ⟨rfl, N0, e0⟩
                · skip
                  refine own_by (T' := s₁) (g' := (mkF m 51 #[.val (.int p1_0)] [(.int (1114111 : Int32)), (.int p1_0)])) (fun t k => ?_) ?_
                  · show Steps p.tables e below (s₁.setTop (mkF m 45 #[.val (.int p1_0)] [(.int (65536 : Int32)), (.int p1_0)])) t
                    refine XS.icmpNo X0.here hx rfl (hb hby d1_45) rfl (flt hc97).1 ?_
                    show Steps p.tables e below (s₁.setTop (mkF m 48 #[.val (.int p1_0)] [])) t
                    refine XS.iloadN X0.here hx rfl (hb hby d1_48) rfl ?_
                    show Steps p.tables e below (s₁.setTop (mkF m 49 #[.val (.int p1_0)] [(.int p1_0)])) t
                    refine X0.ldcInt hx hown (mvT hZ (hw _ (List.mem_of_getElem? (i := 24) rfl))) (g := (mkF m 49 #[.val (.int p1_0)] [(.int p1_0)])) rfl (hb hby d1_49) _ ?_
                    show Steps p.tables e below (s₁.setTop (mkF m 51 #[.val (.int p1_0)] [(.int (1114111 : Int32)), (.int p1_0)])) t
                    exact k
                  by_cases hc99 : (1114111 : Int32) < p1_0
                  · skip
                    refine own_by (T' := s₁) (g' := (mkF m 59 #[.val (.int p1_0)] [(.int (0 : Int32))])) (fun t k => ?_) ?_
                    · show Steps p.tables e below (s₁.setTop (mkF m 51 #[.val (.int p1_0)] [(.int (1114111 : Int32)), (.int p1_0)])) t
                      refine XS.icmpYes X0.here hx rfl (pc0 := 51) (pc' := 58) rfl (hb hby d1_51) rfl (tlt hc99).2.2.1 (by decide) (by decide) ?_
                      show Steps p.tables e below (s₁.setTop (mkF m 58 #[.val (.int p1_0)] [])) t
                      refine XS.iconst X0.here hx rfl (hb hby d1_58) ?_
                      show Steps p.tables e below (s₁.setTop (mkF m 59 #[.val (.int p1_0)] [(.int (0 : Int32))])) t
                      exact k
                    rw [show own_F1 p1_0 = (0 : Int32) from ((if_neg hc1).trans ((if_neg hc18).trans ((if_neg hc34).trans ((if_neg hc49).trans ((if_pos hc78).trans ((if_neg hc85).trans ((if_pos hc94).trans ((if_neg hc97).trans ((if_pos hc99).trans rfl)))))))))]
                    exact own_retN X0 hx (t := .boolean) Bd.returns (by simp) (hb hby d1_59) hlk (by decide) (by decide) ⟨rfl, N0, e0⟩
                  · skip
                    refine own_by (T' := s₁) (g' := (mkF m 59 #[.val (.int p1_0)] [(.int (1 : Int32))])) (fun t k => ?_) ?_
                    · show Steps p.tables e below (s₁.setTop (mkF m 51 #[.val (.int p1_0)] [(.int (1114111 : Int32)), (.int p1_0)])) t
                      refine XS.icmpNo X0.here hx rfl (hb hby d1_51) rfl (flt hc99).2.2.1 ?_
                      show Steps p.tables e below (s₁.setTop (mkF m 54 #[.val (.int p1_0)] [])) t
                      refine XS.iconst X0.here hx rfl (hb hby d1_54) ?_
                      show Steps p.tables e below (s₁.setTop (mkF m 55 #[.val (.int p1_0)] [(.int (1 : Int32))])) t
                      refine XS.goto X0.here hx rfl (pc0 := 55) (pc' := 59) rfl (hb hby d1_55) (by decide) (by decide) ?_
                      show Steps p.tables e below (s₁.setTop (mkF m 59 #[.val (.int p1_0)] [(.int (1 : Int32))])) t
                      exact k
                    rw [show own_F1 p1_0 = (1 : Int32) from ((if_neg hc1).trans ((if_neg hc18).trans ((if_neg hc34).trans ((if_neg hc49).trans ((if_pos hc78).trans ((if_neg hc85).trans ((if_pos hc94).trans ((if_neg hc97).trans ((if_neg hc99).trans rfl)))))))))]
                    exact own_retN X0 hx (t := .boolean) Bd.returns (by simp) (hb hby d1_59) hlk (by decide) (by decide) ⟨rfl, N0, e0⟩
              · skip
                refine own_by (T' := s₁) (g' := (mkF m 59 #[.val (.int p1_0)] [(.int (1 : Int32))])) (fun t k => ?_) ?_
                · show Steps p.tables e below (s₁.setTop (mkF m 39 #[.val (.int p1_0)] [(.int (65533 : Int32)), (.int p1_0)])) t
                  refine XS.icmpYes X0.here hx rfl (pc0 := 39) (pc' := 54) rfl (hb hby d1_39) rfl (flt hc94).2.2.2 (by decide) (by decide) ?_
                  show Steps p.tables e below (s₁.setTop (mkF m 54 #[.val (.int p1_0)] [])) t
                  refine XS.iconst X0.here hx rfl (hb hby d1_54) ?_
                  show Steps p.tables e below (s₁.setTop (mkF m 55 #[.val (.int p1_0)] [(.int (1 : Int32))])) t
                  refine XS.goto X0.here hx rfl (pc0 := 55) (pc' := 59) rfl (hb hby d1_55) (by decide) (by decide) ?_
                  show Steps p.tables e below (s₁.setTop (mkF m 59 #[.val (.int p1_0)] [(.int (1 : Int32))])) t
                  exact k
                rw [show own_F1 p1_0 = (1 : Int32) from ((if_neg hc1).trans ((if_neg hc18).trans ((if_neg hc34).trans ((if_neg hc49).trans ((if_pos hc78).trans ((if_neg hc85).trans ((if_neg hc94).trans rfl)))))))]
                exact own_retN X0 hx (t := .boolean) Bd.returns (by simp) (hb hby d1_59) hlk (by decide) (by decide) ⟨rfl, N0, e0⟩
          · skip
            refine own_by (T' := s₁) (g' := (mkF m 59 #[.val (.int p1_0)] [(.int (1 : Int32))])) (fun t k => ?_) ?_
            · show Steps p.tables e below (s₁.setTop (mkF m 27 #[.val (.int p1_0)] [(.int (55295 : Int32)), (.int p1_0)])) t
              refine XS.icmpYes X0.here hx rfl (pc0 := 27) (pc' := 54) rfl (hb hby d1_27) rfl (flt hc78).2.2.2 (by decide) (by decide) ?_
              show Steps p.tables e below (s₁.setTop (mkF m 54 #[.val (.int p1_0)] [])) t
              refine XS.iconst X0.here hx rfl (hb hby d1_54) ?_
              show Steps p.tables e below (s₁.setTop (mkF m 55 #[.val (.int p1_0)] [(.int (1 : Int32))])) t
              refine XS.goto X0.here hx rfl (pc0 := 55) (pc' := 59) rfl (hb hby d1_55) (by decide) (by decide) ?_
              show Steps p.tables e below (s₁.setTop (mkF m 59 #[.val (.int p1_0)] [(.int (1 : Int32))])) t
              exact k
            rw [show own_F1 p1_0 = (1 : Int32) from ((if_neg hc1).trans ((if_neg hc18).trans ((if_neg hc34).trans ((if_neg hc49).trans ((if_neg hc78).trans rfl)))))]
            exact own_retN X0 hx (t := .boolean) Bd.returns (by simp) (hb hby d1_59) hlk (by decide) (by decide) ⟨rfl, N0, e0⟩
theorem d2_0 : decode method_3_code 0 = .ok (.iload_n 0, 1) := by decide +kernel
theorem d2_1 : decode method_3_code 1 = .ok (.ifCond .lt 9, 3) := by decide +kernel
theorem d2_10 : decode method_3_code 10 = .ok (.iconst 1, 1) := by decide +kernel
theorem d2_11 : decode method_3_code 11 = .ok (.ireturn, 1) := by decide +kernel
theorem d2_4 : decode method_3_code 4 = .ok (.iload_n 0, 1) := by decide +kernel
theorem d2_5 : decode method_3_code 5 = .ok (.ldc 13, 2) := by decide +kernel
theorem d2_7 : decode method_3_code 7 = .ok (.if_icmp .le 5, 3) := by decide +kernel
theorem d2_12 : decode method_3_code 12 = .ok (.iload_n 0, 1) := by decide +kernel
theorem d2_13 : decode method_3_code 13 = .ok (.bipush 32, 2) := by decide +kernel
theorem d2_15 : decode method_3_code 15 = .ok (.if_icmp .ge 27, 3) := by decide +kernel
theorem d2_18 : decode method_3_code 18 = .ok (.iload_n 0, 1) := by decide +kernel
theorem d2_19 : decode method_3_code 19 = .ok (.bipush 9, 2) := by decide +kernel
theorem d2_21 : decode method_3_code 21 = .ok (.if_icmp .eq 19, 3) := by decide +kernel
theorem d2_40 : decode method_3_code 40 = .ok (.iconst 0, 1) := by decide +kernel
theorem d2_24 : decode method_3_code 24 = .ok (.iload_n 0, 1) := by decide +kernel
theorem d2_25 : decode method_3_code 25 = .ok (.bipush 10, 2) := by decide +kernel
theorem d2_27 : decode method_3_code 27 = .ok (.if_icmp .eq 13, 3) := by decide +kernel
theorem d2_30 : decode method_3_code 30 = .ok (.iload_n 0, 1) := by decide +kernel
theorem d2_31 : decode method_3_code 31 = .ok (.bipush 13, 2) := by decide +kernel
theorem d2_33 : decode method_3_code 33 = .ok (.if_icmp .eq 7, 3) := by decide +kernel
theorem d2_36 : decode method_3_code 36 = .ok (.iconst 1, 1) := by decide +kernel
theorem d2_37 : decode method_3_code 37 = .ok (.goto 4, 3) := by decide +kernel
theorem d2_41 : decode method_3_code 41 = .ok (.ireturn, 1) := by decide +kernel
theorem d2_42 : decode method_3_code 42 = .ok (.iload_n 0, 1) := by decide +kernel
theorem d2_43 : decode method_3_code 43 = .ok (.ldc 8, 2) := by decide +kernel
theorem d2_45 : decode method_3_code 45 = .ok (.if_icmp .lt 11, 3) := by decide +kernel
theorem d2_56 : decode method_3_code 56 = .ok (.iload_n 0, 1) := by decide +kernel
theorem d2_57 : decode method_3_code 57 = .ok (.ldc 29, 2) := by decide +kernel
theorem d2_59 : decode method_3_code 59 = .ok (.if_icmp .eq 9, 3) := by decide +kernel
theorem d2_68 : decode method_3_code 68 = .ok (.iconst 1, 1) := by decide +kernel
theorem d2_69 : decode method_3_code 69 = .ok (.ireturn, 1) := by decide +kernel
theorem d2_62 : decode method_3_code 62 = .ok (.iload_n 0, 1) := by decide +kernel
theorem d2_63 : decode method_3_code 63 = .ok (.ldc 30, 2) := by decide +kernel
theorem d2_65 : decode method_3_code 65 = .ok (.if_icmp .ne 5, 3) := by decide +kernel
theorem d2_70 : decode method_3_code 70 = .ok (.iconst 0, 1) := by decide +kernel
theorem d2_71 : decode method_3_code 71 = .ok (.ireturn, 1) := by decide +kernel
theorem d2_48 : decode method_3_code 48 = .ok (.iload_n 0, 1) := by decide +kernel
theorem d2_49 : decode method_3_code 49 = .ok (.ldc 9, 2) := by decide +kernel
theorem d2_51 : decode method_3_code 51 = .ok (.if_icmp .gt 5, 3) := by decide +kernel
theorem d2_54 : decode method_3_code 54 = .ok (.iconst 1, 1) := by decide +kernel
theorem d2_55 : decode method_3_code 55 = .ok (.ireturn, 1) := by decide +kernel
theorem pn_com_example_buzon_buzon_engine_ApiLimitsIsCarriedCharacterPinLaw : plainName "com/example/buzon/buzon/engine/ApiLimitsIsCarriedCharacterPinLaw" = true := by first | (simp [plainName, overriddenIn]; done) | decide +kernel
def own_F2 (p2_0 : Int32) : Int32 := (if p2_0 < (0 : Int32) then (1 : Int32) else (if (1114111 : Int32) < p2_0 then (1 : Int32) else (if p2_0 < (32 : Int32) then (if p2_0 = (9 : Int32) then (0 : Int32) else (if p2_0 = (10 : Int32) then (0 : Int32) else (if p2_0 = (13 : Int32) then (0 : Int32) else (1 : Int32)))) else (if p2_0 < (55296 : Int32) then (if p2_0 = (65534 : Int32) then (1 : Int32) else (if p2_0 = (65535 : Int32) then (1 : Int32) else (0 : Int32))) else (if (57343 : Int32) < p2_0 then (if p2_0 = (65534 : Int32) then (1 : Int32) else (if p2_0 = (65535 : Int32) then (1 : Int32) else (0 : Int32))) else (1 : Int32))))))
theorem own_ef2 (m : MethodId) (x0 : Int32) : entryFrame m #[(.int x0)] 1 = mkF m 0 #[.val (.int x0)] [] := by first | (simp [entryFrame, mkF, argsToLocals, Value.category]; done) | rfl
def own_Q2 (r : Int32) (h0 : Heap) (n0 : Nat) (v : Option Value) (h : Heap) (L : List Loc) : Prop := v = some (.int r) ∧ Fr n0 L ∧ h = h0
set_option maxRecDepth 65536 in
set_option maxHeartbeats 40000000 in
theorem own_rm2 (l : Launch) (Z : State) (a0 : Array Value) (hw : ∀ d ∈ tables_1, d.before a0 Z = true) (ws : List Jvm.Cond) (p2_0 : Int32) (h0 : Heap) (n0 : Nat) (Z0 : n0 ≤ h0.size) :
    MetFree l (⟨"com/example/buzon/buzon/engine/ApiLimitsIsCarriedCharacterPinLaw", "refused", "(I)Z"⟩ : MethodName) (head1 (Jvm.Cond.code (⟨"com/example/buzon/buzon/engine/ApiLimitsIsCarriedCharacterPinLaw", "refused", "(I)Z"⟩ : MethodName) method_3_code 1 (some .boolean) :: ws) ({ frames := 0, cells := 0, slots := 0, locals := 0 } : Room)) (fun a U => a = #[(.int p2_0)] ∧ Z.Warmed39 U.vm ∧ U.heap = h0) (fun _ _ _ _ _ => True) (fun _ U o U' => ∃ v L, o = .returned v ∧ own_Q2 (own_F2 p2_0) h0 n0 v U'.heap L ∧ FrameEnd U o U' L ({ frames := 0, cells := 0, slots := 0, locals := 0 } : Room).cells ({ frames := 0, cells := 0, slots := 0, locals := 0 } : Room).slots) := by
  refine MetFree.of_bodySF (plainFor_of_name pn_com_example_buzon_buzon_engine_ApiLimitsIsCarriedCharacterPinLaw) hisR ?_
  intro p e s m args below meth c s₁ Bd hml0 hP hK
  obtain ⟨rfl, hZ, hh⟩ := hP
  have hx := Bd.exec
  have hby := Bd.bytes
  have hlk : meth.locks = false := BodyLoose.notSynchronized Bd
  have hml : c.maxLocals = 1 := hml0
  have hown : s.vm.findClass "com/example/buzon/buzon/engine/ApiLimitsIsCarriedCharacterPinLaw" = some m.cls := findClass_of_methodNamed Bd.named
  have hnm := (name_of_methodNamed Bd.named Bd.method).1
  have X0 : Stand p l e ({ frames := 0, cells := 0, slots := 0, locals := 0 } : Room) s m #[(.int p2_0)] below meth c s₁ [] 0 0 := Stand.of_body Bd
  have e0 : s₁.heap = h0 := by rw [← hh, Bd.state]; rfl
  have N0 := Fr.nil n0
  show own_Go p e below (own_P s below ({ frames := 0, cells := 0, slots := 0, locals := 0 } : Room) (own_Q2 (own_F2 p2_0) h0 n0)) s₁ (entryFrame m #[(.int p2_0)] 1)
  refine own_in (own_ef2 m p2_0) ?_
  refine own_by (T' := s₁) (g' := (mkF m 1 #[.val (.int p2_0)] [(.int p2_0)])) (fun t k => ?_) ?_
  · show Steps p.tables e below (s₁.setTop (mkF m 0 #[.val (.int p2_0)] [])) t
    refine XS.iloadN X0.here hx rfl (hb hby d2_0) rfl ?_
    show Steps p.tables e below (s₁.setTop (mkF m 1 #[.val (.int p2_0)] [(.int p2_0)])) t
    exact k
  by_cases hc100 : p2_0 < (0 : Int32)
  · skip
    refine own_by (T' := s₁) (g' := (mkF m 11 #[.val (.int p2_0)] [(.int (1 : Int32))])) (fun t k => ?_) ?_
    · show Steps p.tables e below (s₁.setTop (mkF m 1 #[.val (.int p2_0)] [(.int p2_0)])) t
      refine XS.ifYes X0.here hx rfl (pc0 := 1) (pc' := 10) rfl (hb hby d2_1) rfl ((if0 _ _).trans (tlt hc100).1) (by decide) (by decide) ?_
      show Steps p.tables e below (s₁.setTop (mkF m 10 #[.val (.int p2_0)] [])) t
      refine XS.iconst X0.here hx rfl (hb hby d2_10) ?_
      show Steps p.tables e below (s₁.setTop (mkF m 11 #[.val (.int p2_0)] [(.int (1 : Int32))])) t
      exact k
    rw [show own_F2 p2_0 = (1 : Int32) from ((if_pos hc100).trans rfl)]
    exact own_retN X0 hx (t := .boolean) Bd.returns (by simp) (hb hby d2_11) hlk (by decide) (by decide) ⟨rfl, N0, e0⟩
  · skip
    refine own_by (T' := s₁) (g' := (mkF m 7 #[.val (.int p2_0)] [(.int (1114111 : Int32)), (.int p2_0)])) (fun t k => ?_) ?_
    · show Steps p.tables e below (s₁.setTop (mkF m 1 #[.val (.int p2_0)] [(.int p2_0)])) t
      refine XS.ifNo X0.here hx rfl (hb hby d2_1) rfl ((if0 _ _).trans (flt hc100).1) ?_
      show Steps p.tables e below (s₁.setTop (mkF m 4 #[.val (.int p2_0)] [])) t
      refine XS.iloadN X0.here hx rfl (hb hby d2_4) rfl ?_
      show Steps p.tables e below (s₁.setTop (mkF m 5 #[.val (.int p2_0)] [(.int p2_0)])) t
      refine X0.ldcInt hx hown (mvT hZ (hw _ (List.mem_of_getElem? (i := 7) rfl))) (g := (mkF m 5 #[.val (.int p2_0)] [(.int p2_0)])) rfl (hb hby d2_5) _ ?_
      show Steps p.tables e below (s₁.setTop (mkF m 7 #[.val (.int p2_0)] [(.int (1114111 : Int32)), (.int p2_0)])) t
      exact k
    by_cases hc101 : (1114111 : Int32) < p2_0
    · skip
      refine own_by (T' := s₁) (g' := (mkF m 11 #[.val (.int p2_0)] [(.int (1 : Int32))])) (fun t k => ?_) ?_
      · show Steps p.tables e below (s₁.setTop (mkF m 7 #[.val (.int p2_0)] [(.int (1114111 : Int32)), (.int p2_0)])) t
        refine XS.icmpNo X0.here hx rfl (hb hby d2_7) rfl (tlt hc101).2.2.2 ?_
        show Steps p.tables e below (s₁.setTop (mkF m 10 #[.val (.int p2_0)] [])) t
        refine XS.iconst X0.here hx rfl (hb hby d2_10) ?_
        show Steps p.tables e below (s₁.setTop (mkF m 11 #[.val (.int p2_0)] [(.int (1 : Int32))])) t
        exact k
      rw [show own_F2 p2_0 = (1 : Int32) from ((if_neg hc100).trans ((if_pos hc101).trans rfl))]
      exact own_retN X0 hx (t := .boolean) Bd.returns (by simp) (hb hby d2_11) hlk (by decide) (by decide) ⟨rfl, N0, e0⟩
    · skip
      refine own_by (T' := s₁) (g' := (mkF m 15 #[.val (.int p2_0)] [(.int (32 : Int32)), (.int p2_0)])) (fun t k => ?_) ?_
      · show Steps p.tables e below (s₁.setTop (mkF m 7 #[.val (.int p2_0)] [(.int (1114111 : Int32)), (.int p2_0)])) t
        refine XS.icmpYes X0.here hx rfl (pc0 := 7) (pc' := 12) rfl (hb hby d2_7) rfl (flt hc101).2.2.2 (by decide) (by decide) ?_
        show Steps p.tables e below (s₁.setTop (mkF m 12 #[.val (.int p2_0)] [])) t
        refine XS.iloadN X0.here hx rfl (hb hby d2_12) rfl ?_
        show Steps p.tables e below (s₁.setTop (mkF m 13 #[.val (.int p2_0)] [(.int p2_0)])) t
        refine XS.bipush X0.here hx rfl (hb hby d2_13) ?_
        show Steps p.tables e below (s₁.setTop (mkF m 15 #[.val (.int p2_0)] [(.int (32 : Int32)), (.int p2_0)])) t
        exact k
      by_cases hc102 : p2_0 < (32 : Int32)
      · skip
        refine own_by (T' := s₁) (g' := (mkF m 21 #[.val (.int p2_0)] [(.int (9 : Int32)), (.int p2_0)])) (fun t k => ?_) ?_
        · show Steps p.tables e below (s₁.setTop (mkF m 15 #[.val (.int p2_0)] [(.int (32 : Int32)), (.int p2_0)])) t
          refine XS.icmpNo X0.here hx rfl (hb hby d2_15) rfl (tlt hc102).2.1 ?_
          show Steps p.tables e below (s₁.setTop (mkF m 18 #[.val (.int p2_0)] [])) t
          refine XS.iloadN X0.here hx rfl (hb hby d2_18) rfl ?_
          show Steps p.tables e below (s₁.setTop (mkF m 19 #[.val (.int p2_0)] [(.int p2_0)])) t
          refine XS.bipush X0.here hx rfl (hb hby d2_19) ?_
          show Steps p.tables e below (s₁.setTop (mkF m 21 #[.val (.int p2_0)] [(.int (9 : Int32)), (.int p2_0)])) t
          exact k
        by_cases hc103 : p2_0 = (9 : Int32)
        · skip
          refine own_by (T' := s₁) (g' := (mkF m 41 #[.val (.int p2_0)] [(.int (0 : Int32))])) (fun t k => ?_) ?_
          · show Steps p.tables e below (s₁.setTop (mkF m 21 #[.val (.int p2_0)] [(.int (9 : Int32)), (.int p2_0)])) t
            refine XS.icmpYes X0.here hx rfl (pc0 := 21) (pc' := 40) rfl (hb hby d2_21) rfl (teq hc103).1 (by decide) (by decide) ?_
            show Steps p.tables e below (s₁.setTop (mkF m 40 #[.val (.int p2_0)] [])) t
            refine XS.iconst X0.here hx rfl (hb hby d2_40) ?_
            show Steps p.tables e below (s₁.setTop (mkF m 41 #[.val (.int p2_0)] [(.int (0 : Int32))])) t
            exact k
          rw [show own_F2 p2_0 = (0 : Int32) from ((if_neg hc100).trans ((if_neg hc101).trans ((if_pos hc102).trans ((if_pos hc103).trans rfl))))]
          exact own_retN X0 hx (t := .boolean) Bd.returns (by simp) (hb hby d2_41) hlk (by decide) (by decide) ⟨rfl, N0, e0⟩
        · skip
          refine own_by (T' := s₁) (g' := (mkF m 27 #[.val (.int p2_0)] [(.int (10 : Int32)), (.int p2_0)])) (fun t k => ?_) ?_
          · show Steps p.tables e below (s₁.setTop (mkF m 21 #[.val (.int p2_0)] [(.int (9 : Int32)), (.int p2_0)])) t
            refine XS.icmpNo X0.here hx rfl (hb hby d2_21) rfl (feq hc103).1 ?_
            show Steps p.tables e below (s₁.setTop (mkF m 24 #[.val (.int p2_0)] [])) t
            refine XS.iloadN X0.here hx rfl (hb hby d2_24) rfl ?_
            show Steps p.tables e below (s₁.setTop (mkF m 25 #[.val (.int p2_0)] [(.int p2_0)])) t
            refine XS.bipush X0.here hx rfl (hb hby d2_25) ?_
            show Steps p.tables e below (s₁.setTop (mkF m 27 #[.val (.int p2_0)] [(.int (10 : Int32)), (.int p2_0)])) t
            exact k
          by_cases hc106 : p2_0 = (10 : Int32)
          · skip
            refine own_by (T' := s₁) (g' := (mkF m 41 #[.val (.int p2_0)] [(.int (0 : Int32))])) (fun t k => ?_) ?_
            · show Steps p.tables e below (s₁.setTop (mkF m 27 #[.val (.int p2_0)] [(.int (10 : Int32)), (.int p2_0)])) t
              refine XS.icmpYes X0.here hx rfl (pc0 := 27) (pc' := 40) rfl (hb hby d2_27) rfl (teq hc106).1 (by decide) (by decide) ?_
              show Steps p.tables e below (s₁.setTop (mkF m 40 #[.val (.int p2_0)] [])) t
              refine XS.iconst X0.here hx rfl (hb hby d2_40) ?_
              show Steps p.tables e below (s₁.setTop (mkF m 41 #[.val (.int p2_0)] [(.int (0 : Int32))])) t
              exact k
            rw [show own_F2 p2_0 = (0 : Int32) from ((if_neg hc100).trans ((if_neg hc101).trans ((if_pos hc102).trans ((if_neg hc103).trans ((if_pos hc106).trans rfl)))))]
            exact own_retN X0 hx (t := .boolean) Bd.returns (by simp) (hb hby d2_41) hlk (by decide) (by decide) ⟨rfl, N0, e0⟩
          · skip
            refine own_by (T' := s₁) (g' := (mkF m 33 #[.val (.int p2_0)] [(.int (13 : Int32)), (.int p2_0)])) (fun t k => ?_) ?_
            · show Steps p.tables e below (s₁.setTop (mkF m 27 #[.val (.int p2_0)] [(.int (10 : Int32)), (.int p2_0)])) t
              refine XS.icmpNo X0.here hx rfl (hb hby d2_27) rfl (feq hc106).1 ?_
              show Steps p.tables e below (s₁.setTop (mkF m 30 #[.val (.int p2_0)] [])) t
              refine XS.iloadN X0.here hx rfl (hb hby d2_30) rfl ?_
              show Steps p.tables e below (s₁.setTop (mkF m 31 #[.val (.int p2_0)] [(.int p2_0)])) t
              refine XS.bipush X0.here hx rfl (hb hby d2_31) ?_
              show Steps p.tables e below (s₁.setTop (mkF m 33 #[.val (.int p2_0)] [(.int (13 : Int32)), (.int p2_0)])) t
              exact k
            by_cases hc108 : p2_0 = (13 : Int32)
            · skip
              refine own_by (T' := s₁) (g' := (mkF m 41 #[.val (.int p2_0)] [(.int (0 : Int32))])) (fun t k => ?_) ?_
              · show Steps p.tables e below (s₁.setTop (mkF m 33 #[.val (.int p2_0)] [(.int (13 : Int32)), (.int p2_0)])) t
                refine XS.icmpYes X0.here hx rfl (pc0 := 33) (pc' := 40) rfl (hb hby d2_33) rfl (teq hc108).1 (by decide) (by decide) ?_
                show Steps p.tables e below (s₁.setTop (mkF m 40 #[.val (.int p2_0)] [])) t
                refine XS.iconst X0.here hx rfl (hb hby d2_40) ?_
                show Steps p.tables e below (s₁.setTop (mkF m 41 #[.val (.int p2_0)] [(.int (0 : Int32))])) t
                exact k
              rw [show own_F2 p2_0 = (0 : Int32) from ((if_neg hc100).trans ((if_neg hc101).trans ((if_pos hc102).trans ((if_neg hc103).trans ((if_neg hc106).trans ((if_pos hc108).trans rfl))))))]
              exact own_retN X0 hx (t := .boolean) Bd.returns (by simp) (hb hby d2_41) hlk (by decide) (by decide) ⟨rfl, N0, e0⟩
            · skip
              refine own_by (T' := s₁) (g' := (mkF m 41 #[.val (.int p2_0)] [(.int (1 : Int32))])) (fun t k => ?_) ?_
              · show Steps p.tables e below (s₁.setTop (mkF m 33 #[.val (.int p2_0)] [(.int (13 : Int32)), (.int p2_0)])) t
                refine XS.icmpNo X0.here hx rfl (hb hby d2_33) rfl (feq hc108).1 ?_
                show Steps p.tables e below (s₁.setTop (mkF m 36 #[.val (.int p2_0)] [])) t
                refine XS.iconst X0.here hx rfl (hb hby d2_36) ?_
                show Steps p.tables e below (s₁.setTop (mkF m 37 #[.val (.int p2_0)] [(.int (1 : Int32))])) t
                refine XS.goto X0.here hx rfl (pc0 := 37) (pc' := 41) rfl (hb hby d2_37) (by decide) (by decide) ?_
                show Steps p.tables e below (s₁.setTop (mkF m 41 #[.val (.int p2_0)] [(.int (1 : Int32))])) t
                exact k
              rw [show own_F2 p2_0 = (1 : Int32) from ((if_neg hc100).trans ((if_neg hc101).trans ((if_pos hc102).trans ((if_neg hc103).trans ((if_neg hc106).trans ((if_neg hc108).trans rfl))))))]
              exact own_retN X0 hx (t := .boolean) Bd.returns (by simp) (hb hby d2_41) hlk (by decide) (by decide) ⟨rfl, N0, e0⟩
      · skip
        refine own_by (T' := s₁) (g' := (mkF m 45 #[.val (.int p2_0)] [(.int (55296 : Int32)), (.int p2_0)])) (fun t k => ?_) ?_
        · show Steps p.tables e below (s₁.setTop (mkF m 15 #[.val (.int p2_0)] [(.int (32 : Int32)), (.int p2_0)])) t
          refine XS.icmpYes X0.here hx rfl (pc0 := 15) (pc' := 42) rfl (hb hby d2_15) rfl (flt hc102).2.1 (by decide) (by decide) ?_
          show Steps p.tables e below (s₁.setTop (mkF m 42 #[.val (.int p2_0)] [])) t
          refine XS.iloadN X0.here hx rfl (hb hby d2_42) rfl ?_
          show Steps p.tables e below (s₁.setTop (mkF m 43 #[.val (.int p2_0)] [(.int p2_0)])) t
          refine X0.ldcInt hx hown (mvT hZ (hw _ (List.mem_of_getElem? (i := 2) rfl))) (g := (mkF m 43 #[.val (.int p2_0)] [(.int p2_0)])) rfl (hb hby d2_43) _ ?_
          show Steps p.tables e below (s₁.setTop (mkF m 45 #[.val (.int p2_0)] [(.int (55296 : Int32)), (.int p2_0)])) t
          exact k
        by_cases hc109 : p2_0 < (55296 : Int32)
        · skip
          refine own_by (T' := s₁) (g' := (mkF m 59 #[.val (.int p2_0)] [(.int (65534 : Int32)), (.int p2_0)])) (fun t k => ?_) ?_
          · show Steps p.tables e below (s₁.setTop (mkF m 45 #[.val (.int p2_0)] [(.int (55296 : Int32)), (.int p2_0)])) t
            refine XS.icmpYes X0.here hx rfl (pc0 := 45) (pc' := 56) rfl (hb hby d2_45) rfl (tlt hc109).1 (by decide) (by decide) ?_
            show Steps p.tables e below (s₁.setTop (mkF m 56 #[.val (.int p2_0)] [])) t
            refine XS.iloadN X0.here hx rfl (hb hby d2_56) rfl ?_
            show Steps p.tables e below (s₁.setTop (mkF m 57 #[.val (.int p2_0)] [(.int p2_0)])) t
            refine X0.ldcInt hx hown (mvT hZ (hw _ (List.mem_of_getElem? (i := 21) rfl))) (g := (mkF m 57 #[.val (.int p2_0)] [(.int p2_0)])) rfl (hb hby d2_57) _ ?_
            show Steps p.tables e below (s₁.setTop (mkF m 59 #[.val (.int p2_0)] [(.int (65534 : Int32)), (.int p2_0)])) t
            exact k
          by_cases hc110 : p2_0 = (65534 : Int32)
          · skip
            refine own_by (T' := s₁) (g' := (mkF m 69 #[.val (.int p2_0)] [(.int (1 : Int32))])) (fun t k => ?_) ?_
            · show Steps p.tables e below (s₁.setTop (mkF m 59 #[.val (.int p2_0)] [(.int (65534 : Int32)), (.int p2_0)])) t
              refine XS.icmpYes X0.here hx rfl (pc0 := 59) (pc' := 68) rfl (hb hby d2_59) rfl (teq hc110).1 (by decide) (by decide) ?_
              show Steps p.tables e below (s₁.setTop (mkF m 68 #[.val (.int p2_0)] [])) t
              refine XS.iconst X0.here hx rfl (hb hby d2_68) ?_
              show Steps p.tables e below (s₁.setTop (mkF m 69 #[.val (.int p2_0)] [(.int (1 : Int32))])) t
              exact k
            rw [show own_F2 p2_0 = (1 : Int32) from ((if_neg hc100).trans ((if_neg hc101).trans ((if_neg hc102).trans ((if_pos hc109).trans ((if_pos hc110).trans rfl)))))]
            exact own_retN X0 hx (t := .boolean) Bd.returns (by simp) (hb hby d2_69) hlk (by decide) (by decide) ⟨rfl, N0, e0⟩
          · skip
            refine own_by (T' := s₁) (g' := (mkF m 65 #[.val (.int p2_0)] [(.int (65535 : Int32)), (.int p2_0)])) (fun t k => ?_) ?_
            · show Steps p.tables e below (s₁.setTop (mkF m 59 #[.val (.int p2_0)] [(.int (65534 : Int32)), (.int p2_0)])) t
              refine XS.icmpNo X0.here hx rfl (hb hby d2_59) rfl (feq hc110).1 ?_
              show Steps p.tables e below (s₁.setTop (mkF m 62 #[.val (.int p2_0)] [])) t
              refine XS.iloadN X0.here hx rfl (hb hby d2_62) rfl ?_
              show Steps p.tables e below (s₁.setTop (mkF m 63 #[.val (.int p2_0)] [(.int p2_0)])) t
              refine X0.ldcInt hx hown (mvT hZ (hw _ (List.mem_of_getElem? (i := 22) rfl))) (g := (mkF m 63 #[.val (.int p2_0)] [(.int p2_0)])) rfl (hb hby d2_63) _ ?_
              show Steps p.tables e below (s₁.setTop (mkF m 65 #[.val (.int p2_0)] [(.int (65535 : Int32)), (.int p2_0)])) t
              exact k
            by_cases hc111 : p2_0 = (65535 : Int32)
            · skip
              refine own_by (T' := s₁) (g' := (mkF m 69 #[.val (.int p2_0)] [(.int (1 : Int32))])) (fun t k => ?_) ?_
              · show Steps p.tables e below (s₁.setTop (mkF m 65 #[.val (.int p2_0)] [(.int (65535 : Int32)), (.int p2_0)])) t
                refine XS.icmpNo X0.here hx rfl (hb hby d2_65) rfl (teq hc111).2 ?_
                show Steps p.tables e below (s₁.setTop (mkF m 68 #[.val (.int p2_0)] [])) t
                refine XS.iconst X0.here hx rfl (hb hby d2_68) ?_
                show Steps p.tables e below (s₁.setTop (mkF m 69 #[.val (.int p2_0)] [(.int (1 : Int32))])) t
                exact k
              rw [show own_F2 p2_0 = (1 : Int32) from ((if_neg hc100).trans ((if_neg hc101).trans ((if_neg hc102).trans ((if_pos hc109).trans ((if_neg hc110).trans ((if_pos hc111).trans rfl))))))]
              exact own_retN X0 hx (t := .boolean) Bd.returns (by simp) (hb hby d2_69) hlk (by decide) (by decide) ⟨rfl, N0, e0⟩
            · skip
              refine own_by (T' := s₁) (g' := (mkF m 71 #[.val (.int p2_0)] [(.int (0 : Int32))])) (fun t k => ?_) ?_
              · show Steps p.tables e below (s₁.setTop (mkF m 65 #[.val (.int p2_0)] [(.int (65535 : Int32)), (.int p2_0)])) t
                refine XS.icmpYes X0.here hx rfl (pc0 := 65) (pc' := 70) rfl (hb hby d2_65) rfl (feq hc111).2 (by decide) (by decide) ?_
                show Steps p.tables e below (s₁.setTop (mkF m 70 #[.val (.int p2_0)] [])) t
                refine XS.iconst X0.here hx rfl (hb hby d2_70) ?_
                show Steps p.tables e below (s₁.setTop (mkF m 71 #[.val (.int p2_0)] [(.int (0 : Int32))])) t
                exact k
              rw [show own_F2 p2_0 = (0 : Int32) from ((if_neg hc100).trans ((if_neg hc101).trans ((if_neg hc102).trans ((if_pos hc109).trans ((if_neg hc110).trans ((if_neg hc111).trans rfl))))))]
              exact own_retN X0 hx (t := .boolean) Bd.returns (by simp) (hb hby d2_71) hlk (by decide) (by decide) ⟨rfl, N0, e0⟩
        · skip
          refine own_by (T' := s₁) (g' := (mkF m 51 #[.val (.int p2_0)] [(.int (57343 : Int32)), (.int p2_0)])) (fun t k => ?_) ?_
          · show Steps p.tables e below (s₁.setTop (mkF m 45 #[.val (.int p2_0)] [(.int (55296 : Int32)), (.int p2_0)])) t
            refine XS.icmpNo X0.here hx rfl (hb hby d2_45) rfl (flt hc109).1 ?_
            show Steps p.tables e below (s₁.setTop (mkF m 48 #[.val (.int p2_0)] [])) t
            refine XS.iloadN X0.here hx rfl (hb hby d2_48) rfl ?_
            show Steps p.tables e below (s₁.setTop (mkF m 49 #[.val (.int p2_0)] [(.int p2_0)])) t
            refine X0.ldcInt hx hown (mvT hZ (hw _ (List.mem_of_getElem? (i := 3) rfl))) (g := (mkF m 49 #[.val (.int p2_0)] [(.int p2_0)])) rfl (hb hby d2_49) _ ?_
            show Steps p.tables e below (s₁.setTop (mkF m 51 #[.val (.int p2_0)] [(.int (57343 : Int32)), (.int p2_0)])) t
            exact k
          by_cases hc112 : (57343 : Int32) < p2_0
          · skip
            refine own_by (T' := s₁) (g' := (mkF m 59 #[.val (.int p2_0)] [(.int (65534 : Int32)), (.int p2_0)])) (fun t k => ?_) ?_
            · show Steps p.tables e below (s₁.setTop (mkF m 51 #[.val (.int p2_0)] [(.int (57343 : Int32)), (.int p2_0)])) t
              refine XS.icmpYes X0.here hx rfl (pc0 := 51) (pc' := 56) rfl (hb hby d2_51) rfl (tlt hc112).2.2.1 (by decide) (by decide) ?_
              show Steps p.tables e below (s₁.setTop (mkF m 56 #[.val (.int p2_0)] [])) t
              refine XS.iloadN X0.here hx rfl (hb hby d2_56) rfl ?_
              show Steps p.tables e below (s₁.setTop (mkF m 57 #[.val (.int p2_0)] [(.int p2_0)])) t
              refine X0.ldcInt hx hown (mvT hZ (hw _ (List.mem_of_getElem? (i := 21) rfl))) (g := (mkF m 57 #[.val (.int p2_0)] [(.int p2_0)])) rfl (hb hby d2_57) _ ?_
              show Steps p.tables e below (s₁.setTop (mkF m 59 #[.val (.int p2_0)] [(.int (65534 : Int32)), (.int p2_0)])) t
              exact k
            by_cases hc113 : p2_0 = (65534 : Int32)
            · skip
              refine own_by (T' := s₁) (g' := (mkF m 69 #[.val (.int p2_0)] [(.int (1 : Int32))])) (fun t k => ?_) ?_
              · show Steps p.tables e below (s₁.setTop (mkF m 59 #[.val (.int p2_0)] [(.int (65534 : Int32)), (.int p2_0)])) t
                refine XS.icmpYes X0.here hx rfl (pc0 := 59) (pc' := 68) rfl (hb hby d2_59) rfl (teq hc113).1 (by decide) (by decide) ?_
                show Steps p.tables e below (s₁.setTop (mkF m 68 #[.val (.int p2_0)] [])) t
                refine XS.iconst X0.here hx rfl (hb hby d2_68) ?_
                show Steps p.tables e below (s₁.setTop (mkF m 69 #[.val (.int p2_0)] [(.int (1 : Int32))])) t
                exact k
              rw [show own_F2 p2_0 = (1 : Int32) from ((if_neg hc100).trans ((if_neg hc101).trans ((if_neg hc102).trans ((if_neg hc109).trans ((if_pos hc112).trans ((if_pos hc113).trans rfl))))))]
              exact own_retN X0 hx (t := .boolean) Bd.returns (by simp) (hb hby d2_69) hlk (by decide) (by decide) ⟨rfl, N0, e0⟩
            · skip
              refine own_by (T' := s₁) (g' := (mkF m 65 #[.val (.int p2_0)] [(.int (65535 : Int32)), (.int p2_0)])) (fun t k => ?_) ?_
              · show Steps p.tables e below (s₁.setTop (mkF m 59 #[.val (.int p2_0)] [(.int (65534 : Int32)), (.int p2_0)])) t
                refine XS.icmpNo X0.here hx rfl (hb hby d2_59) rfl (feq hc113).1 ?_
                show Steps p.tables e below (s₁.setTop (mkF m 62 #[.val (.int p2_0)] [])) t
                refine XS.iloadN X0.here hx rfl (hb hby d2_62) rfl ?_
                show Steps p.tables e below (s₁.setTop (mkF m 63 #[.val (.int p2_0)] [(.int p2_0)])) t
                refine X0.ldcInt hx hown (mvT hZ (hw _ (List.mem_of_getElem? (i := 22) rfl))) (g := (mkF m 63 #[.val (.int p2_0)] [(.int p2_0)])) rfl (hb hby d2_63) _ ?_
                show Steps p.tables e below (s₁.setTop (mkF m 65 #[.val (.int p2_0)] [(.int (65535 : Int32)), (.int p2_0)])) t
                exact k
              by_cases hc114 : p2_0 = (65535 : Int32)
              · skip
                refine own_by (T' := s₁) (g' := (mkF m 69 #[.val (.int p2_0)] [(.int (1 : Int32))])) (fun t k => ?_) ?_
                · show Steps p.tables e below (s₁.setTop (mkF m 65 #[.val (.int p2_0)] [(.int (65535 : Int32)), (.int p2_0)])) t
                  refine XS.icmpNo X0.here hx rfl (hb hby d2_65) rfl (teq hc114).2 ?_
                  show Steps p.tables e below (s₁.setTop (mkF m 68 #[.val (.int p2_0)] [])) t
                  refine XS.iconst X0.here hx rfl (hb hby d2_68) ?_
                  show Steps p.tables e below (s₁.setTop (mkF m 69 #[.val (.int p2_0)] [(.int (1 : Int32))])) t
                  exact k
                rw [show own_F2 p2_0 = (1 : Int32) from ((if_neg hc100).trans ((if_neg hc101).trans ((if_neg hc102).trans ((if_neg hc109).trans ((if_pos hc112).trans ((if_neg hc113).trans ((if_pos hc114).trans rfl)))))))]
                exact own_retN X0 hx (t := .boolean) Bd.returns (by simp) (hb hby d2_69) hlk (by decide) (by decide) ⟨rfl, N0, e0⟩
              · skip
                refine own_by (T' := s₁) (g' := (mkF m 71 #[.val (.int p2_0)] [(.int (0 : Int32))])) (fun t k => ?_) ?_
                · show Steps p.tables e below (s₁.setTop (mkF m 65 #[.val (.int p2_0)] [(.int (65535 : Int32)), (.int p2_0)])) t
                  refine XS.icmpYes X0.here hx rfl (pc0 := 65) (pc' := 70) rfl (hb hby d2_65) rfl (feq hc114).2 (by decide) (by decide) ?_
                  show Steps p.tables e below (s₁.setTop (mkF m 70 #[.val (.int p2_0)] [])) t
                  refine XS.iconst X0.here hx rfl (hb hby d2_70) ?_
                  show Steps p.tables e below (s₁.setTop (mkF m 71 #[.val (.int p2_0)] [(.int (0 : Int32))])) t
                  exact k
                rw [show own_F2 p2_0 = (0 : Int32) from ((if_neg hc100).trans ((if_neg hc101).trans ((if_neg hc102).trans ((if_neg hc109).trans ((if_pos hc112).trans ((if_neg hc113).trans ((if_neg hc114).trans rfl)))))))]
                exact own_retN X0 hx (t := .boolean) Bd.returns (by simp) (hb hby d2_71) hlk (by decide) (by decide) ⟨rfl, N0, e0⟩
          · skip
            refine own_by (T' := s₁) (g' := (mkF m 55 #[.val (.int p2_0)] [(.int (1 : Int32))])) (fun t k => ?_) ?_
            · show Steps p.tables e below (s₁.setTop (mkF m 51 #[.val (.int p2_0)] [(.int (57343 : Int32)), (.int p2_0)])) t
              refine XS.icmpNo X0.here hx rfl (hb hby d2_51) rfl (flt hc112).2.2.1 ?_
              show Steps p.tables e below (s₁.setTop (mkF m 54 #[.val (.int p2_0)] [])) t
              refine XS.iconst X0.here hx rfl (hb hby d2_54) ?_
              show Steps p.tables e below (s₁.setTop (mkF m 55 #[.val (.int p2_0)] [(.int (1 : Int32))])) t
              exact k
            rw [show own_F2 p2_0 = (1 : Int32) from ((if_neg hc100).trans ((if_neg hc101).trans ((if_neg hc102).trans ((if_neg hc109).trans ((if_neg hc112).trans rfl)))))]
            exact own_retN X0 hx (t := .boolean) Bd.returns (by simp) (hb hby d2_55) hlk (by decide) (by decide) ⟨rfl, N0, e0⟩
theorem pd__I_Z : parseMethodDescriptor "(I)Z" = some ⟨[.int], some .boolean⟩ := by decide +kernel
def own_F0_108_1 (p0_0 : Int32) (p0_1 : Int32) (p0_2 : Int32) (i219 : Int32) : Int32 := (if (own_F2 i219) = (0 : Int32) then (if (own_F1 i219) = (1 : Int32) then (1 : Int32) else (0 : Int32)) else (if (own_F1 i219) = (0 : Int32) then (1 : Int32) else (0 : Int32)))
def own_T0_101 : List Int32 := [(0 : Int32), (9 : Int32), (10 : Int32), (13 : Int32), (32 : Int32), (55295 : Int32), (55296 : Int32), (57343 : Int32), (57344 : Int32), (65533 : Int32), (65536 : Int32), (1114111 : Int32), (-2147483648 : Int32), (2147483647 : Int32)]
def own_F0 (p0_0 : Int32) (p0_1 : Int32) (p0_2 : Int32) : Int32 := (if (p0_1 &&& (1 : Int32)) = (0 : Int32) then (own_F0_108_1 p0_0 p0_1 p0_2 p0_0) else (own_F0_108_1 p0_0 p0_1 p0_2 ((own_T0_101.getD ((((p0_1.toUInt32 >>> ((1 : Int32) &&& 31).toUInt32).toInt32) % (14 : Int32))).toNatClampNeg (0 : Int32)) + (p0_2 % (5 : Int32)))))
theorem own_ef0 (m : MethodId) (x0 : Int32) (x1 : Int32) (x2 : Int32) : entryFrame m #[(.int x0), (.int x1), (.int x2)] maxLocals = mkF m 0 #[.val (.int x0), .val (.int x1), .val (.int x2), .unset, .unset, .unset] [] := by first | (simp [entryFrame, mkF, argsToLocals, Value.category, maxLocals]; done) | rfl
def own_Q0 (r : Int32) (h0 : Heap) (n0 : Nat) (v : Option Value) (h : Heap) (L : List Loc) : Prop := v = some (.int r) ∧ Fr n0 L
set_option maxRecDepth 65536 in
set_option maxHeartbeats 40000000 in
theorem own_rm0 (l : Launch) (Z : State) (a0 : Array Value) (hw : ∀ d ∈ tables_1, d.before a0 Z = true) (ws : List Jvm.Cond) (p0_0 : Int32) (p0_1 : Int32) (p0_2 : Int32) (h0 : Heap) (n0 : Nat) (Z0 : n0 ≤ h0.size) :
    MetFree l x (head1 (Jvm.Cond.code x code maxLocals ret :: ws) room_1) (fun a U => a = #[(.int p0_0), (.int p0_1), (.int p0_2)] ∧ Z.Warmed39 U.vm ∧ U.heap = h0) (fun _ _ _ _ _ => True) (fun _ U o U' => ∃ v L, o = .returned v ∧ own_Q0 (own_F0 p0_0 p0_1 p0_2) h0 n0 v U'.heap L ∧ FrameEnd U o U' L room_1.cells room_1.slots) := by
  refine MetFree.of_bodySF (plainFor_of_name pn_com_example_buzon_buzon_engine_ApiLimitsIsCarriedCharacterPinLaw) hisR ?_
  intro p e s m args below meth c s₁ Bd hml0 hP hK
  obtain ⟨rfl, hZ, hh⟩ := hP
  have hx := Bd.exec
  have hby := Bd.bytes
  have hlk : meth.locks = false := BodyLoose.notSynchronized Bd
  have hml : c.maxLocals = 6 := hml0
  have hown : s.vm.findClass "com/example/buzon/buzon/engine/ApiLimitsIsCarriedCharacterPinLaw" = some m.cls := findClass_of_methodNamed Bd.named
  have hnm := (name_of_methodNamed Bd.named Bd.method).1
  have X0 : Stand p l e room_1 s m #[(.int p0_0), (.int p0_1), (.int p0_2)] below meth c s₁ [] 0 0 := Stand.of_body Bd
  have e0 : s₁.heap = h0 := by rw [← hh, Bd.state]; rfl
  have N0 := Fr.nil n0
  show own_Go p e below (own_P s below room_1 (own_Q0 (own_F0 p0_0 p0_1 p0_2) h0 n0)) s₁ (entryFrame m #[(.int p0_0), (.int p0_1), (.int p0_2)] maxLocals)
  refine own_in (own_ef0 m p0_0 p0_1 p0_2) ?_
  refine own_by (T' := s₁) (g' := (mkF m 2 #[.val (.int p0_0), .val (.int p0_1), .val (.int p0_2), .unset, .unset, .unset] [(.int (14 : Int32))])) (fun t k => ?_) ?_
  · show Steps p.tables e below (s₁.setTop (mkF m 0 #[.val (.int p0_0), .val (.int p0_1), .val (.int p0_2), .unset, .unset, .unset] [])) t
    refine XS.bipush X0.here hx rfl (hb hby at_0) ?_
    show Steps p.tables e below (s₁.setTop (mkF m 2 #[.val (.int p0_0), .val (.int p0_1), .val (.int p0_2), .unset, .unset, .unset] [(.int (14 : Int32))])) t
    exact k
  obtain ⟨T115, h115, k115, X115, e115, E115, A115, st115⟩ := newP X0 hx hZ (hw _ (List.mem_of_getElem? (i := 0) rfl)) e0 (g := (mkF m 2 #[.val (.int p0_0), .val (.int p0_1), .val (.int p0_2), .unset, .unset, .unset] [(.int (14 : Int32))])) rfl (hb hby at_2) rfl (by decide) (cap := 14) (by decide) (by decide) (by decide) (by decide)
  obtain ⟨b115, g115⟩ : ∃ z, z = h0.size := ⟨_, rfl⟩
  rw [← g115] at A115 st115
  have gn_b115 : n0 ≤ b115 := Nat.le_trans Z0 (Nat.le_of_eq g115.symm)
  have sz_b115 : h0.size ≤ b115 := Nat.le_trans (Keep.refl h0 []).1 (Nat.le_of_eq g115.symm)
  have K116 : Keep h0 h115 [] := (Keep.refl h0 []).ext E115
  have Z117 := Nat.le_trans Z0 E115.1
  have f118 : Arv Z h115 b115 k115 .int (14 : Int32) [(.int (0 : Int32)), (.int (0 : Int32)), (.int (0 : Int32)), (.int (0 : Int32)), (.int (0 : Int32)), (.int (0 : Int32)), (.int (0 : Int32)), (.int (0 : Int32)), (.int (0 : Int32)), (.int (0 : Int32)), (.int (0 : Int32)), (.int (0 : Int32)), (.int (0 : Int32)), (.int (0 : Int32))] (.int (0 : Int32)) := (Arv.new A115 (by decide)).pad (pad_rep [] (.int (0 : Int32)) 14)
  refine own_by (T' := T115) (g' := (mkF m 4 #[.val (.int p0_0), .val (.int p0_1), .val (.int p0_2), .unset, .unset, .unset] [(.ref b115)])) st115 ?_
  refine own_by (T' := T115) (g' := (mkF m 7 #[.val (.int p0_0), .val (.int p0_1), .val (.int p0_2), .unset, .unset, .unset] [(.int (0 : Int32)), (.int (0 : Int32)), (.ref b115), (.ref b115)])) (fun t k => ?_) ?_
  · show Steps p.tables e below (T115.setTop (mkF m 4 #[.val (.int p0_0), .val (.int p0_1), .val (.int p0_2), .unset, .unset, .unset] [(.ref b115)])) t
    refine XS.dup X115.here hx rfl (hb hby at_4) rfl rfl ?_
    show Steps p.tables e below (T115.setTop (mkF m 5 #[.val (.int p0_0), .val (.int p0_1), .val (.int p0_2), .unset, .unset, .unset] [(.ref b115), (.ref b115)])) t
    refine XS.iconst X115.here hx rfl (hb hby at_5) ?_
    show Steps p.tables e below (T115.setTop (mkF m 6 #[.val (.int p0_0), .val (.int p0_1), .val (.int p0_2), .unset, .unset, .unset] [(.int (0 : Int32)), (.ref b115), (.ref b115)])) t
    refine XS.iconst X115.here hx rfl (hb hby at_6) ?_
    show Steps p.tables e below (T115.setTop (mkF m 7 #[.val (.int p0_0), .val (.int p0_1), .val (.int p0_2), .unset, .unset, .unset] [(.int (0 : Int32)), (.int (0 : Int32)), (.ref b115), (.ref b115)])) t
    exact k
  obtain ⟨cl119, Ar119, q119, S119, N119, H119, G119⟩ := f118
  obtain ⟨T120, h120, X120, e120, W120, st120⟩ := stI X115 hx hZ e115 Ar119 (j := (0 : Int32)) (inb_of S119 ⟨by decide, by decide⟩) (g := (mkF m 7 #[.val (.int p0_0), .val (.int p0_1), .val (.int p0_2), .unset, .unset, .unset] [(.int (0 : Int32)), (.int (0 : Int32)), (.ref b115), (.ref b115)])) rfl rfl (hb hby at_7)
  have f121 : Arv Z h120 b115 k115 .int (14 : Int32) [(.int (0 : Int32)), (.int (0 : Int32)), (.int (0 : Int32)), (.int (0 : Int32)), (.int (0 : Int32)), (.int (0 : Int32)), (.int (0 : Int32)), (.int (0 : Int32)), (.int (0 : Int32)), (.int (0 : Int32)), (.int (0 : Int32)), (.int (0 : Int32)), (.int (0 : Int32)), (.int (0 : Int32))] (.int (0 : Int32)) := Arv.set Ar119 q119 S119 N119 H119 G119 rfl W120 0 rfl (Nat.le_of_ble_eq_true rfl)
  have K123 : Keep h0 h120 [] := K116.wr W120 (Or.inr sz_b115)
  have N124 := Fr.snoc X120 N0 gn_b115
  have Z125 := (Nat.le_trans Z117 (Keep.of_wr W120).1)
  refine own_by (T' := T120) (g' := (mkF m 8 #[.val (.int p0_0), .val (.int p0_1), .val (.int p0_2), .unset, .unset, .unset] [(.ref b115)])) st120 ?_
  refine own_by (T' := T120) (g' := (mkF m 12 #[.val (.int p0_0), .val (.int p0_1), .val (.int p0_2), .unset, .unset, .unset] [(.int (9 : Int32)), (.int (1 : Int32)), (.ref b115), (.ref b115)])) (fun t k => ?_) ?_
  · show Steps p.tables e below (T120.setTop (mkF m 8 #[.val (.int p0_0), .val (.int p0_1), .val (.int p0_2), .unset, .unset, .unset] [(.ref b115)])) t
    refine XS.dup X120.here hx rfl (hb hby at_8) rfl rfl ?_
    show Steps p.tables e below (T120.setTop (mkF m 9 #[.val (.int p0_0), .val (.int p0_1), .val (.int p0_2), .unset, .unset, .unset] [(.ref b115), (.ref b115)])) t
    refine XS.iconst X120.here hx rfl (hb hby at_9) ?_
    show Steps p.tables e below (T120.setTop (mkF m 10 #[.val (.int p0_0), .val (.int p0_1), .val (.int p0_2), .unset, .unset, .unset] [(.int (1 : Int32)), (.ref b115), (.ref b115)])) t
    refine XS.bipush X120.here hx rfl (hb hby at_10) ?_
    show Steps p.tables e below (T120.setTop (mkF m 12 #[.val (.int p0_0), .val (.int p0_1), .val (.int p0_2), .unset, .unset, .unset] [(.int (9 : Int32)), (.int (1 : Int32)), (.ref b115), (.ref b115)])) t
    exact k
  obtain ⟨cl126, Ar126, q126, S126, N126, H126, G126⟩ := f121
  obtain ⟨T127, h127, X127, e127, W127, st127⟩ := stI X120 hx hZ e120 Ar126 (j := (1 : Int32)) (inb_of S126 ⟨by decide, by decide⟩) (g := (mkF m 12 #[.val (.int p0_0), .val (.int p0_1), .val (.int p0_2), .unset, .unset, .unset] [(.int (9 : Int32)), (.int (1 : Int32)), (.ref b115), (.ref b115)])) rfl rfl (hb hby at_12)
  have f128 : Arv Z h127 b115 k115 .int (14 : Int32) [(.int (0 : Int32)), (.int (9 : Int32)), (.int (0 : Int32)), (.int (0 : Int32)), (.int (0 : Int32)), (.int (0 : Int32)), (.int (0 : Int32)), (.int (0 : Int32)), (.int (0 : Int32)), (.int (0 : Int32)), (.int (0 : Int32)), (.int (0 : Int32)), (.int (0 : Int32)), (.int (0 : Int32))] (.int (0 : Int32)) := Arv.set Ar126 q126 S126 N126 H126 G126 rfl W127 1 rfl (Nat.le_of_ble_eq_true rfl)
  have K130 : Keep h0 h127 [] := K123.wr W127 (Or.inr sz_b115)
  have N131 := Fr.snoc X127 N124 gn_b115
  have Z132 := (Nat.le_trans Z125 (Keep.of_wr W127).1)
  refine own_by (T' := T127) (g' := (mkF m 13 #[.val (.int p0_0), .val (.int p0_1), .val (.int p0_2), .unset, .unset, .unset] [(.ref b115)])) st127 ?_
  refine own_by (T' := T127) (g' := (mkF m 17 #[.val (.int p0_0), .val (.int p0_1), .val (.int p0_2), .unset, .unset, .unset] [(.int (10 : Int32)), (.int (2 : Int32)), (.ref b115), (.ref b115)])) (fun t k => ?_) ?_
  · show Steps p.tables e below (T127.setTop (mkF m 13 #[.val (.int p0_0), .val (.int p0_1), .val (.int p0_2), .unset, .unset, .unset] [(.ref b115)])) t
    refine XS.dup X127.here hx rfl (hb hby at_13) rfl rfl ?_
    show Steps p.tables e below (T127.setTop (mkF m 14 #[.val (.int p0_0), .val (.int p0_1), .val (.int p0_2), .unset, .unset, .unset] [(.ref b115), (.ref b115)])) t
    refine XS.iconst X127.here hx rfl (hb hby at_14) ?_
    show Steps p.tables e below (T127.setTop (mkF m 15 #[.val (.int p0_0), .val (.int p0_1), .val (.int p0_2), .unset, .unset, .unset] [(.int (2 : Int32)), (.ref b115), (.ref b115)])) t
    refine XS.bipush X127.here hx rfl (hb hby at_15) ?_
    show Steps p.tables e below (T127.setTop (mkF m 17 #[.val (.int p0_0), .val (.int p0_1), .val (.int p0_2), .unset, .unset, .unset] [(.int (10 : Int32)), (.int (2 : Int32)), (.ref b115), (.ref b115)])) t
    exact k
  obtain ⟨cl133, Ar133, q133, S133, N133, H133, G133⟩ := f128
  obtain ⟨T134, h134, X134, e134, W134, st134⟩ := stI X127 hx hZ e127 Ar133 (j := (2 : Int32)) (inb_of S133 ⟨by decide, by decide⟩) (g := (mkF m 17 #[.val (.int p0_0), .val (.int p0_1), .val (.int p0_2), .unset, .unset, .unset] [(.int (10 : Int32)), (.int (2 : Int32)), (.ref b115), (.ref b115)])) rfl rfl (hb hby at_17)
  have f135 : Arv Z h134 b115 k115 .int (14 : Int32) [(.int (0 : Int32)), (.int (9 : Int32)), (.int (10 : Int32)), (.int (0 : Int32)), (.int (0 : Int32)), (.int (0 : Int32)), (.int (0 : Int32)), (.int (0 : Int32)), (.int (0 : Int32)), (.int (0 : Int32)), (.int (0 : Int32)), (.int (0 : Int32)), (.int (0 : Int32)), (.int (0 : Int32))] (.int (0 : Int32)) := Arv.set Ar133 q133 S133 N133 H133 G133 rfl W134 2 rfl (Nat.le_of_ble_eq_true rfl)
  have K137 : Keep h0 h134 [] := K130.wr W134 (Or.inr sz_b115)
  have N138 := Fr.snoc X134 N131 gn_b115
  have Z139 := (Nat.le_trans Z132 (Keep.of_wr W134).1)
  refine own_by (T' := T134) (g' := (mkF m 18 #[.val (.int p0_0), .val (.int p0_1), .val (.int p0_2), .unset, .unset, .unset] [(.ref b115)])) st134 ?_
  refine own_by (T' := T134) (g' := (mkF m 22 #[.val (.int p0_0), .val (.int p0_1), .val (.int p0_2), .unset, .unset, .unset] [(.int (13 : Int32)), (.int (3 : Int32)), (.ref b115), (.ref b115)])) (fun t k => ?_) ?_
  · show Steps p.tables e below (T134.setTop (mkF m 18 #[.val (.int p0_0), .val (.int p0_1), .val (.int p0_2), .unset, .unset, .unset] [(.ref b115)])) t
    refine XS.dup X134.here hx rfl (hb hby at_18) rfl rfl ?_
    show Steps p.tables e below (T134.setTop (mkF m 19 #[.val (.int p0_0), .val (.int p0_1), .val (.int p0_2), .unset, .unset, .unset] [(.ref b115), (.ref b115)])) t
    refine XS.iconst X134.here hx rfl (hb hby at_19) ?_
    show Steps p.tables e below (T134.setTop (mkF m 20 #[.val (.int p0_0), .val (.int p0_1), .val (.int p0_2), .unset, .unset, .unset] [(.int (3 : Int32)), (.ref b115), (.ref b115)])) t
    refine XS.bipush X134.here hx rfl (hb hby at_20) ?_
    show Steps p.tables e below (T134.setTop (mkF m 22 #[.val (.int p0_0), .val (.int p0_1), .val (.int p0_2), .unset, .unset, .unset] [(.int (13 : Int32)), (.int (3 : Int32)), (.ref b115), (.ref b115)])) t
    exact k
  obtain ⟨cl140, Ar140, q140, S140, N140, H140, G140⟩ := f135
  obtain ⟨T141, h141, X141, e141, W141, st141⟩ := stI X134 hx hZ e134 Ar140 (j := (3 : Int32)) (inb_of S140 ⟨by decide, by decide⟩) (g := (mkF m 22 #[.val (.int p0_0), .val (.int p0_1), .val (.int p0_2), .unset, .unset, .unset] [(.int (13 : Int32)), (.int (3 : Int32)), (.ref b115), (.ref b115)])) rfl rfl (hb hby at_22)
  have f142 : Arv Z h141 b115 k115 .int (14 : Int32) [(.int (0 : Int32)), (.int (9 : Int32)), (.int (10 : Int32)), (.int (13 : Int32)), (.int (0 : Int32)), (.int (0 : Int32)), (.int (0 : Int32)), (.int (0 : Int32)), (.int (0 : Int32)), (.int (0 : Int32)), (.int (0 : Int32)), (.int (0 : Int32)), (.int (0 : Int32)), (.int (0 : Int32))] (.int (0 : Int32)) := Arv.set Ar140 q140 S140 N140 H140 G140 rfl W141 3 rfl (Nat.le_of_ble_eq_true rfl)
  have K144 : Keep h0 h141 [] := K137.wr W141 (Or.inr sz_b115)
  have N145 := Fr.snoc X141 N138 gn_b115
  have Z146 := (Nat.le_trans Z139 (Keep.of_wr W141).1)
  refine own_by (T' := T141) (g' := (mkF m 23 #[.val (.int p0_0), .val (.int p0_1), .val (.int p0_2), .unset, .unset, .unset] [(.ref b115)])) st141 ?_
  refine own_by (T' := T141) (g' := (mkF m 27 #[.val (.int p0_0), .val (.int p0_1), .val (.int p0_2), .unset, .unset, .unset] [(.int (32 : Int32)), (.int (4 : Int32)), (.ref b115), (.ref b115)])) (fun t k => ?_) ?_
  · show Steps p.tables e below (T141.setTop (mkF m 23 #[.val (.int p0_0), .val (.int p0_1), .val (.int p0_2), .unset, .unset, .unset] [(.ref b115)])) t
    refine XS.dup X141.here hx rfl (hb hby at_23) rfl rfl ?_
    show Steps p.tables e below (T141.setTop (mkF m 24 #[.val (.int p0_0), .val (.int p0_1), .val (.int p0_2), .unset, .unset, .unset] [(.ref b115), (.ref b115)])) t
    refine XS.iconst X141.here hx rfl (hb hby at_24) ?_
    show Steps p.tables e below (T141.setTop (mkF m 25 #[.val (.int p0_0), .val (.int p0_1), .val (.int p0_2), .unset, .unset, .unset] [(.int (4 : Int32)), (.ref b115), (.ref b115)])) t
    refine XS.bipush X141.here hx rfl (hb hby at_25) ?_
    show Steps p.tables e below (T141.setTop (mkF m 27 #[.val (.int p0_0), .val (.int p0_1), .val (.int p0_2), .unset, .unset, .unset] [(.int (32 : Int32)), (.int (4 : Int32)), (.ref b115), (.ref b115)])) t
    exact k
  obtain ⟨cl147, Ar147, q147, S147, N147, H147, G147⟩ := f142
  obtain ⟨T148, h148, X148, e148, W148, st148⟩ := stI X141 hx hZ e141 Ar147 (j := (4 : Int32)) (inb_of S147 ⟨by decide, by decide⟩) (g := (mkF m 27 #[.val (.int p0_0), .val (.int p0_1), .val (.int p0_2), .unset, .unset, .unset] [(.int (32 : Int32)), (.int (4 : Int32)), (.ref b115), (.ref b115)])) rfl rfl (hb hby at_27)
  have f149 : Arv Z h148 b115 k115 .int (14 : Int32) [(.int (0 : Int32)), (.int (9 : Int32)), (.int (10 : Int32)), (.int (13 : Int32)), (.int (32 : Int32)), (.int (0 : Int32)), (.int (0 : Int32)), (.int (0 : Int32)), (.int (0 : Int32)), (.int (0 : Int32)), (.int (0 : Int32)), (.int (0 : Int32)), (.int (0 : Int32)), (.int (0 : Int32))] (.int (0 : Int32)) := Arv.set Ar147 q147 S147 N147 H147 G147 rfl W148 4 rfl (Nat.le_of_ble_eq_true rfl)
  have K151 : Keep h0 h148 [] := K144.wr W148 (Or.inr sz_b115)
  have N152 := Fr.snoc X148 N145 gn_b115
  have Z153 := (Nat.le_trans Z146 (Keep.of_wr W148).1)
  refine own_by (T' := T148) (g' := (mkF m 28 #[.val (.int p0_0), .val (.int p0_1), .val (.int p0_2), .unset, .unset, .unset] [(.ref b115)])) st148 ?_
  refine own_by (T' := T148) (g' := (mkF m 32 #[.val (.int p0_0), .val (.int p0_1), .val (.int p0_2), .unset, .unset, .unset] [(.int (55295 : Int32)), (.int (5 : Int32)), (.ref b115), (.ref b115)])) (fun t k => ?_) ?_
  · show Steps p.tables e below (T148.setTop (mkF m 28 #[.val (.int p0_0), .val (.int p0_1), .val (.int p0_2), .unset, .unset, .unset] [(.ref b115)])) t
    refine XS.dup X148.here hx rfl (hb hby at_28) rfl rfl ?_
    show Steps p.tables e below (T148.setTop (mkF m 29 #[.val (.int p0_0), .val (.int p0_1), .val (.int p0_2), .unset, .unset, .unset] [(.ref b115), (.ref b115)])) t
    refine XS.iconst X148.here hx rfl (hb hby at_29) ?_
    show Steps p.tables e below (T148.setTop (mkF m 30 #[.val (.int p0_0), .val (.int p0_1), .val (.int p0_2), .unset, .unset, .unset] [(.int (5 : Int32)), (.ref b115), (.ref b115)])) t
    refine X148.ldcInt hx hown (mvT hZ (hw _ (List.mem_of_getElem? (i := 1) rfl))) (g := (mkF m 30 #[.val (.int p0_0), .val (.int p0_1), .val (.int p0_2), .unset, .unset, .unset] [(.int (5 : Int32)), (.ref b115), (.ref b115)])) rfl (hb hby at_30) _ ?_
    show Steps p.tables e below (T148.setTop (mkF m 32 #[.val (.int p0_0), .val (.int p0_1), .val (.int p0_2), .unset, .unset, .unset] [(.int (55295 : Int32)), (.int (5 : Int32)), (.ref b115), (.ref b115)])) t
    exact k
  obtain ⟨cl154, Ar154, q154, S154, N154, H154, G154⟩ := f149
  obtain ⟨T155, h155, X155, e155, W155, st155⟩ := stI X148 hx hZ e148 Ar154 (j := (5 : Int32)) (inb_of S154 ⟨by decide, by decide⟩) (g := (mkF m 32 #[.val (.int p0_0), .val (.int p0_1), .val (.int p0_2), .unset, .unset, .unset] [(.int (55295 : Int32)), (.int (5 : Int32)), (.ref b115), (.ref b115)])) rfl rfl (hb hby at_32)
  have f156 : Arv Z h155 b115 k115 .int (14 : Int32) [(.int (0 : Int32)), (.int (9 : Int32)), (.int (10 : Int32)), (.int (13 : Int32)), (.int (32 : Int32)), (.int (55295 : Int32)), (.int (0 : Int32)), (.int (0 : Int32)), (.int (0 : Int32)), (.int (0 : Int32)), (.int (0 : Int32)), (.int (0 : Int32)), (.int (0 : Int32)), (.int (0 : Int32))] (.int (0 : Int32)) := Arv.set Ar154 q154 S154 N154 H154 G154 rfl W155 5 rfl (Nat.le_of_ble_eq_true rfl)
  have K158 : Keep h0 h155 [] := K151.wr W155 (Or.inr sz_b115)
  have N159 := Fr.snoc X155 N152 gn_b115
  have Z160 := (Nat.le_trans Z153 (Keep.of_wr W155).1)
  refine own_by (T' := T155) (g' := (mkF m 33 #[.val (.int p0_0), .val (.int p0_1), .val (.int p0_2), .unset, .unset, .unset] [(.ref b115)])) st155 ?_
  refine own_by (T' := T155) (g' := (mkF m 38 #[.val (.int p0_0), .val (.int p0_1), .val (.int p0_2), .unset, .unset, .unset] [(.int (55296 : Int32)), (.int (6 : Int32)), (.ref b115), (.ref b115)])) (fun t k => ?_) ?_
  · show Steps p.tables e below (T155.setTop (mkF m 33 #[.val (.int p0_0), .val (.int p0_1), .val (.int p0_2), .unset, .unset, .unset] [(.ref b115)])) t
    refine XS.dup X155.here hx rfl (hb hby at_33) rfl rfl ?_
    show Steps p.tables e below (T155.setTop (mkF m 34 #[.val (.int p0_0), .val (.int p0_1), .val (.int p0_2), .unset, .unset, .unset] [(.ref b115), (.ref b115)])) t
    refine XS.bipush X155.here hx rfl (hb hby at_34) ?_
    show Steps p.tables e below (T155.setTop (mkF m 36 #[.val (.int p0_0), .val (.int p0_1), .val (.int p0_2), .unset, .unset, .unset] [(.int (6 : Int32)), (.ref b115), (.ref b115)])) t
    refine X155.ldcInt hx hown (mvT hZ (hw _ (List.mem_of_getElem? (i := 2) rfl))) (g := (mkF m 36 #[.val (.int p0_0), .val (.int p0_1), .val (.int p0_2), .unset, .unset, .unset] [(.int (6 : Int32)), (.ref b115), (.ref b115)])) rfl (hb hby at_36) _ ?_
    show Steps p.tables e below (T155.setTop (mkF m 38 #[.val (.int p0_0), .val (.int p0_1), .val (.int p0_2), .unset, .unset, .unset] [(.int (55296 : Int32)), (.int (6 : Int32)), (.ref b115), (.ref b115)])) t
    exact k
  obtain ⟨cl161, Ar161, q161, S161, N161, H161, G161⟩ := f156
  obtain ⟨T162, h162, X162, e162, W162, st162⟩ := stI X155 hx hZ e155 Ar161 (j := (6 : Int32)) (inb_of S161 ⟨by decide, by decide⟩) (g := (mkF m 38 #[.val (.int p0_0), .val (.int p0_1), .val (.int p0_2), .unset, .unset, .unset] [(.int (55296 : Int32)), (.int (6 : Int32)), (.ref b115), (.ref b115)])) rfl rfl (hb hby at_38)
  have f163 : Arv Z h162 b115 k115 .int (14 : Int32) [(.int (0 : Int32)), (.int (9 : Int32)), (.int (10 : Int32)), (.int (13 : Int32)), (.int (32 : Int32)), (.int (55295 : Int32)), (.int (55296 : Int32)), (.int (0 : Int32)), (.int (0 : Int32)), (.int (0 : Int32)), (.int (0 : Int32)), (.int (0 : Int32)), (.int (0 : Int32)), (.int (0 : Int32))] (.int (0 : Int32)) := Arv.set Ar161 q161 S161 N161 H161 G161 rfl W162 6 rfl (Nat.le_of_ble_eq_true rfl)
  have K165 : Keep h0 h162 [] := K158.wr W162 (Or.inr sz_b115)
  have N166 := Fr.snoc X162 N159 gn_b115
  have Z167 := (Nat.le_trans Z160 (Keep.of_wr W162).1)
  refine own_by (T' := T162) (g' := (mkF m 39 #[.val (.int p0_0), .val (.int p0_1), .val (.int p0_2), .unset, .unset, .unset] [(.ref b115)])) st162 ?_
  refine own_by (T' := T162) (g' := (mkF m 44 #[.val (.int p0_0), .val (.int p0_1), .val (.int p0_2), .unset, .unset, .unset] [(.int (57343 : Int32)), (.int (7 : Int32)), (.ref b115), (.ref b115)])) (fun t k => ?_) ?_
  · show Steps p.tables e below (T162.setTop (mkF m 39 #[.val (.int p0_0), .val (.int p0_1), .val (.int p0_2), .unset, .unset, .unset] [(.ref b115)])) t
    refine XS.dup X162.here hx rfl (hb hby at_39) rfl rfl ?_
    show Steps p.tables e below (T162.setTop (mkF m 40 #[.val (.int p0_0), .val (.int p0_1), .val (.int p0_2), .unset, .unset, .unset] [(.ref b115), (.ref b115)])) t
    refine XS.bipush X162.here hx rfl (hb hby at_40) ?_
    show Steps p.tables e below (T162.setTop (mkF m 42 #[.val (.int p0_0), .val (.int p0_1), .val (.int p0_2), .unset, .unset, .unset] [(.int (7 : Int32)), (.ref b115), (.ref b115)])) t
    refine X162.ldcInt hx hown (mvT hZ (hw _ (List.mem_of_getElem? (i := 3) rfl))) (g := (mkF m 42 #[.val (.int p0_0), .val (.int p0_1), .val (.int p0_2), .unset, .unset, .unset] [(.int (7 : Int32)), (.ref b115), (.ref b115)])) rfl (hb hby at_42) _ ?_
    show Steps p.tables e below (T162.setTop (mkF m 44 #[.val (.int p0_0), .val (.int p0_1), .val (.int p0_2), .unset, .unset, .unset] [(.int (57343 : Int32)), (.int (7 : Int32)), (.ref b115), (.ref b115)])) t
    exact k
  obtain ⟨cl168, Ar168, q168, S168, N168, H168, G168⟩ := f163
  obtain ⟨T169, h169, X169, e169, W169, st169⟩ := stI X162 hx hZ e162 Ar168 (j := (7 : Int32)) (inb_of S168 ⟨by decide, by decide⟩) (g := (mkF m 44 #[.val (.int p0_0), .val (.int p0_1), .val (.int p0_2), .unset, .unset, .unset] [(.int (57343 : Int32)), (.int (7 : Int32)), (.ref b115), (.ref b115)])) rfl rfl (hb hby at_44)
  have f170 : Arv Z h169 b115 k115 .int (14 : Int32) [(.int (0 : Int32)), (.int (9 : Int32)), (.int (10 : Int32)), (.int (13 : Int32)), (.int (32 : Int32)), (.int (55295 : Int32)), (.int (55296 : Int32)), (.int (57343 : Int32)), (.int (0 : Int32)), (.int (0 : Int32)), (.int (0 : Int32)), (.int (0 : Int32)), (.int (0 : Int32)), (.int (0 : Int32))] (.int (0 : Int32)) := Arv.set Ar168 q168 S168 N168 H168 G168 rfl W169 7 rfl (Nat.le_of_ble_eq_true rfl)
  have K172 : Keep h0 h169 [] := K165.wr W169 (Or.inr sz_b115)
  have N173 := Fr.snoc X169 N166 gn_b115
  have Z174 := (Nat.le_trans Z167 (Keep.of_wr W169).1)
  refine own_by (T' := T169) (g' := (mkF m 45 #[.val (.int p0_0), .val (.int p0_1), .val (.int p0_2), .unset, .unset, .unset] [(.ref b115)])) st169 ?_
  refine own_by (T' := T169) (g' := (mkF m 50 #[.val (.int p0_0), .val (.int p0_1), .val (.int p0_2), .unset, .unset, .unset] [(.int (57344 : Int32)), (.int (8 : Int32)), (.ref b115), (.ref b115)])) (fun t k => ?_) ?_
  · show Steps p.tables e below (T169.setTop (mkF m 45 #[.val (.int p0_0), .val (.int p0_1), .val (.int p0_2), .unset, .unset, .unset] [(.ref b115)])) t
    refine XS.dup X169.here hx rfl (hb hby at_45) rfl rfl ?_
    show Steps p.tables e below (T169.setTop (mkF m 46 #[.val (.int p0_0), .val (.int p0_1), .val (.int p0_2), .unset, .unset, .unset] [(.ref b115), (.ref b115)])) t
    refine XS.bipush X169.here hx rfl (hb hby at_46) ?_
    show Steps p.tables e below (T169.setTop (mkF m 48 #[.val (.int p0_0), .val (.int p0_1), .val (.int p0_2), .unset, .unset, .unset] [(.int (8 : Int32)), (.ref b115), (.ref b115)])) t
    refine X169.ldcInt hx hown (mvT hZ (hw _ (List.mem_of_getElem? (i := 4) rfl))) (g := (mkF m 48 #[.val (.int p0_0), .val (.int p0_1), .val (.int p0_2), .unset, .unset, .unset] [(.int (8 : Int32)), (.ref b115), (.ref b115)])) rfl (hb hby at_48) _ ?_
    show Steps p.tables e below (T169.setTop (mkF m 50 #[.val (.int p0_0), .val (.int p0_1), .val (.int p0_2), .unset, .unset, .unset] [(.int (57344 : Int32)), (.int (8 : Int32)), (.ref b115), (.ref b115)])) t
    exact k
  obtain ⟨cl175, Ar175, q175, S175, N175, H175, G175⟩ := f170
  obtain ⟨T176, h176, X176, e176, W176, st176⟩ := stI X169 hx hZ e169 Ar175 (j := (8 : Int32)) (inb_of S175 ⟨by decide, by decide⟩) (g := (mkF m 50 #[.val (.int p0_0), .val (.int p0_1), .val (.int p0_2), .unset, .unset, .unset] [(.int (57344 : Int32)), (.int (8 : Int32)), (.ref b115), (.ref b115)])) rfl rfl (hb hby at_50)
  have f177 : Arv Z h176 b115 k115 .int (14 : Int32) [(.int (0 : Int32)), (.int (9 : Int32)), (.int (10 : Int32)), (.int (13 : Int32)), (.int (32 : Int32)), (.int (55295 : Int32)), (.int (55296 : Int32)), (.int (57343 : Int32)), (.int (57344 : Int32)), (.int (0 : Int32)), (.int (0 : Int32)), (.int (0 : Int32)), (.int (0 : Int32)), (.int (0 : Int32))] (.int (0 : Int32)) := Arv.set Ar175 q175 S175 N175 H175 G175 rfl W176 8 rfl (Nat.le_of_ble_eq_true rfl)
  have K179 : Keep h0 h176 [] := K172.wr W176 (Or.inr sz_b115)
  have N180 := Fr.snoc X176 N173 gn_b115
  have Z181 := (Nat.le_trans Z174 (Keep.of_wr W176).1)
  refine own_by (T' := T176) (g' := (mkF m 51 #[.val (.int p0_0), .val (.int p0_1), .val (.int p0_2), .unset, .unset, .unset] [(.ref b115)])) st176 ?_
  refine own_by (T' := T176) (g' := (mkF m 56 #[.val (.int p0_0), .val (.int p0_1), .val (.int p0_2), .unset, .unset, .unset] [(.int (65533 : Int32)), (.int (9 : Int32)), (.ref b115), (.ref b115)])) (fun t k => ?_) ?_
  · show Steps p.tables e below (T176.setTop (mkF m 51 #[.val (.int p0_0), .val (.int p0_1), .val (.int p0_2), .unset, .unset, .unset] [(.ref b115)])) t
    refine XS.dup X176.here hx rfl (hb hby at_51) rfl rfl ?_
    show Steps p.tables e below (T176.setTop (mkF m 52 #[.val (.int p0_0), .val (.int p0_1), .val (.int p0_2), .unset, .unset, .unset] [(.ref b115), (.ref b115)])) t
    refine XS.bipush X176.here hx rfl (hb hby at_52) ?_
    show Steps p.tables e below (T176.setTop (mkF m 54 #[.val (.int p0_0), .val (.int p0_1), .val (.int p0_2), .unset, .unset, .unset] [(.int (9 : Int32)), (.ref b115), (.ref b115)])) t
    refine X176.ldcInt hx hown (mvT hZ (hw _ (List.mem_of_getElem? (i := 5) rfl))) (g := (mkF m 54 #[.val (.int p0_0), .val (.int p0_1), .val (.int p0_2), .unset, .unset, .unset] [(.int (9 : Int32)), (.ref b115), (.ref b115)])) rfl (hb hby at_54) _ ?_
    show Steps p.tables e below (T176.setTop (mkF m 56 #[.val (.int p0_0), .val (.int p0_1), .val (.int p0_2), .unset, .unset, .unset] [(.int (65533 : Int32)), (.int (9 : Int32)), (.ref b115), (.ref b115)])) t
    exact k
  obtain ⟨cl182, Ar182, q182, S182, N182, H182, G182⟩ := f177
  obtain ⟨T183, h183, X183, e183, W183, st183⟩ := stI X176 hx hZ e176 Ar182 (j := (9 : Int32)) (inb_of S182 ⟨by decide, by decide⟩) (g := (mkF m 56 #[.val (.int p0_0), .val (.int p0_1), .val (.int p0_2), .unset, .unset, .unset] [(.int (65533 : Int32)), (.int (9 : Int32)), (.ref b115), (.ref b115)])) rfl rfl (hb hby at_56)
  have f184 : Arv Z h183 b115 k115 .int (14 : Int32) [(.int (0 : Int32)), (.int (9 : Int32)), (.int (10 : Int32)), (.int (13 : Int32)), (.int (32 : Int32)), (.int (55295 : Int32)), (.int (55296 : Int32)), (.int (57343 : Int32)), (.int (57344 : Int32)), (.int (65533 : Int32)), (.int (0 : Int32)), (.int (0 : Int32)), (.int (0 : Int32)), (.int (0 : Int32))] (.int (0 : Int32)) := Arv.set Ar182 q182 S182 N182 H182 G182 rfl W183 9 rfl (Nat.le_of_ble_eq_true rfl)
  have K186 : Keep h0 h183 [] := K179.wr W183 (Or.inr sz_b115)
  have N187 := Fr.snoc X183 N180 gn_b115
  have Z188 := (Nat.le_trans Z181 (Keep.of_wr W183).1)
  refine own_by (T' := T183) (g' := (mkF m 57 #[.val (.int p0_0), .val (.int p0_1), .val (.int p0_2), .unset, .unset, .unset] [(.ref b115)])) st183 ?_
  refine own_by (T' := T183) (g' := (mkF m 62 #[.val (.int p0_0), .val (.int p0_1), .val (.int p0_2), .unset, .unset, .unset] [(.int (65536 : Int32)), (.int (10 : Int32)), (.ref b115), (.ref b115)])) (fun t k => ?_) ?_
  · show Steps p.tables e below (T183.setTop (mkF m 57 #[.val (.int p0_0), .val (.int p0_1), .val (.int p0_2), .unset, .unset, .unset] [(.ref b115)])) t
    refine XS.dup X183.here hx rfl (hb hby at_57) rfl rfl ?_
    show Steps p.tables e below (T183.setTop (mkF m 58 #[.val (.int p0_0), .val (.int p0_1), .val (.int p0_2), .unset, .unset, .unset] [(.ref b115), (.ref b115)])) t
    refine XS.bipush X183.here hx rfl (hb hby at_58) ?_
    show Steps p.tables e below (T183.setTop (mkF m 60 #[.val (.int p0_0), .val (.int p0_1), .val (.int p0_2), .unset, .unset, .unset] [(.int (10 : Int32)), (.ref b115), (.ref b115)])) t
    refine X183.ldcInt hx hown (mvT hZ (hw _ (List.mem_of_getElem? (i := 6) rfl))) (g := (mkF m 60 #[.val (.int p0_0), .val (.int p0_1), .val (.int p0_2), .unset, .unset, .unset] [(.int (10 : Int32)), (.ref b115), (.ref b115)])) rfl (hb hby at_60) _ ?_
    show Steps p.tables e below (T183.setTop (mkF m 62 #[.val (.int p0_0), .val (.int p0_1), .val (.int p0_2), .unset, .unset, .unset] [(.int (65536 : Int32)), (.int (10 : Int32)), (.ref b115), (.ref b115)])) t
    exact k
  obtain ⟨cl189, Ar189, q189, S189, N189, H189, G189⟩ := f184
  obtain ⟨T190, h190, X190, e190, W190, st190⟩ := stI X183 hx hZ e183 Ar189 (j := (10 : Int32)) (inb_of S189 ⟨by decide, by decide⟩) (g := (mkF m 62 #[.val (.int p0_0), .val (.int p0_1), .val (.int p0_2), .unset, .unset, .unset] [(.int (65536 : Int32)), (.int (10 : Int32)), (.ref b115), (.ref b115)])) rfl rfl (hb hby at_62)
  have f191 : Arv Z h190 b115 k115 .int (14 : Int32) [(.int (0 : Int32)), (.int (9 : Int32)), (.int (10 : Int32)), (.int (13 : Int32)), (.int (32 : Int32)), (.int (55295 : Int32)), (.int (55296 : Int32)), (.int (57343 : Int32)), (.int (57344 : Int32)), (.int (65533 : Int32)), (.int (65536 : Int32)), (.int (0 : Int32)), (.int (0 : Int32)), (.int (0 : Int32))] (.int (0 : Int32)) := Arv.set Ar189 q189 S189 N189 H189 G189 rfl W190 10 rfl (Nat.le_of_ble_eq_true rfl)
  have K193 : Keep h0 h190 [] := K186.wr W190 (Or.inr sz_b115)
  have N194 := Fr.snoc X190 N187 gn_b115
  have Z195 := (Nat.le_trans Z188 (Keep.of_wr W190).1)
  refine own_by (T' := T190) (g' := (mkF m 63 #[.val (.int p0_0), .val (.int p0_1), .val (.int p0_2), .unset, .unset, .unset] [(.ref b115)])) st190 ?_
  refine own_by (T' := T190) (g' := (mkF m 68 #[.val (.int p0_0), .val (.int p0_1), .val (.int p0_2), .unset, .unset, .unset] [(.int (1114111 : Int32)), (.int (11 : Int32)), (.ref b115), (.ref b115)])) (fun t k => ?_) ?_
  · show Steps p.tables e below (T190.setTop (mkF m 63 #[.val (.int p0_0), .val (.int p0_1), .val (.int p0_2), .unset, .unset, .unset] [(.ref b115)])) t
    refine XS.dup X190.here hx rfl (hb hby at_63) rfl rfl ?_
    show Steps p.tables e below (T190.setTop (mkF m 64 #[.val (.int p0_0), .val (.int p0_1), .val (.int p0_2), .unset, .unset, .unset] [(.ref b115), (.ref b115)])) t
    refine XS.bipush X190.here hx rfl (hb hby at_64) ?_
    show Steps p.tables e below (T190.setTop (mkF m 66 #[.val (.int p0_0), .val (.int p0_1), .val (.int p0_2), .unset, .unset, .unset] [(.int (11 : Int32)), (.ref b115), (.ref b115)])) t
    refine X190.ldcInt hx hown (mvT hZ (hw _ (List.mem_of_getElem? (i := 7) rfl))) (g := (mkF m 66 #[.val (.int p0_0), .val (.int p0_1), .val (.int p0_2), .unset, .unset, .unset] [(.int (11 : Int32)), (.ref b115), (.ref b115)])) rfl (hb hby at_66) _ ?_
    show Steps p.tables e below (T190.setTop (mkF m 68 #[.val (.int p0_0), .val (.int p0_1), .val (.int p0_2), .unset, .unset, .unset] [(.int (1114111 : Int32)), (.int (11 : Int32)), (.ref b115), (.ref b115)])) t
    exact k
  obtain ⟨cl196, Ar196, q196, S196, N196, H196, G196⟩ := f191
  obtain ⟨T197, h197, X197, e197, W197, st197⟩ := stI X190 hx hZ e190 Ar196 (j := (11 : Int32)) (inb_of S196 ⟨by decide, by decide⟩) (g := (mkF m 68 #[.val (.int p0_0), .val (.int p0_1), .val (.int p0_2), .unset, .unset, .unset] [(.int (1114111 : Int32)), (.int (11 : Int32)), (.ref b115), (.ref b115)])) rfl rfl (hb hby at_68)
  have f198 : Arv Z h197 b115 k115 .int (14 : Int32) [(.int (0 : Int32)), (.int (9 : Int32)), (.int (10 : Int32)), (.int (13 : Int32)), (.int (32 : Int32)), (.int (55295 : Int32)), (.int (55296 : Int32)), (.int (57343 : Int32)), (.int (57344 : Int32)), (.int (65533 : Int32)), (.int (65536 : Int32)), (.int (1114111 : Int32)), (.int (0 : Int32)), (.int (0 : Int32))] (.int (0 : Int32)) := Arv.set Ar196 q196 S196 N196 H196 G196 rfl W197 11 rfl (Nat.le_of_ble_eq_true rfl)
  have K200 : Keep h0 h197 [] := K193.wr W197 (Or.inr sz_b115)
  have N201 := Fr.snoc X197 N194 gn_b115
  have Z202 := (Nat.le_trans Z195 (Keep.of_wr W197).1)
  refine own_by (T' := T197) (g' := (mkF m 69 #[.val (.int p0_0), .val (.int p0_1), .val (.int p0_2), .unset, .unset, .unset] [(.ref b115)])) st197 ?_
  refine own_by (T' := T197) (g' := (mkF m 74 #[.val (.int p0_0), .val (.int p0_1), .val (.int p0_2), .unset, .unset, .unset] [(.int (-2147483648 : Int32)), (.int (12 : Int32)), (.ref b115), (.ref b115)])) (fun t k => ?_) ?_
  · show Steps p.tables e below (T197.setTop (mkF m 69 #[.val (.int p0_0), .val (.int p0_1), .val (.int p0_2), .unset, .unset, .unset] [(.ref b115)])) t
    refine XS.dup X197.here hx rfl (hb hby at_69) rfl rfl ?_
    show Steps p.tables e below (T197.setTop (mkF m 70 #[.val (.int p0_0), .val (.int p0_1), .val (.int p0_2), .unset, .unset, .unset] [(.ref b115), (.ref b115)])) t
    refine XS.bipush X197.here hx rfl (hb hby at_70) ?_
    show Steps p.tables e below (T197.setTop (mkF m 72 #[.val (.int p0_0), .val (.int p0_1), .val (.int p0_2), .unset, .unset, .unset] [(.int (12 : Int32)), (.ref b115), (.ref b115)])) t
    refine X197.ldcInt hx hown (mvT hZ (hw _ (List.mem_of_getElem? (i := 8) rfl))) (g := (mkF m 72 #[.val (.int p0_0), .val (.int p0_1), .val (.int p0_2), .unset, .unset, .unset] [(.int (12 : Int32)), (.ref b115), (.ref b115)])) rfl (hb hby at_72) _ ?_
    show Steps p.tables e below (T197.setTop (mkF m 74 #[.val (.int p0_0), .val (.int p0_1), .val (.int p0_2), .unset, .unset, .unset] [(.int (-2147483648 : Int32)), (.int (12 : Int32)), (.ref b115), (.ref b115)])) t
    exact k
  obtain ⟨cl203, Ar203, q203, S203, N203, H203, G203⟩ := f198
  obtain ⟨T204, h204, X204, e204, W204, st204⟩ := stI X197 hx hZ e197 Ar203 (j := (12 : Int32)) (inb_of S203 ⟨by decide, by decide⟩) (g := (mkF m 74 #[.val (.int p0_0), .val (.int p0_1), .val (.int p0_2), .unset, .unset, .unset] [(.int (-2147483648 : Int32)), (.int (12 : Int32)), (.ref b115), (.ref b115)])) rfl rfl (hb hby at_74)
  have f205 : Arv Z h204 b115 k115 .int (14 : Int32) [(.int (0 : Int32)), (.int (9 : Int32)), (.int (10 : Int32)), (.int (13 : Int32)), (.int (32 : Int32)), (.int (55295 : Int32)), (.int (55296 : Int32)), (.int (57343 : Int32)), (.int (57344 : Int32)), (.int (65533 : Int32)), (.int (65536 : Int32)), (.int (1114111 : Int32)), (.int (-2147483648 : Int32)), (.int (0 : Int32))] (.int (0 : Int32)) := Arv.set Ar203 q203 S203 N203 H203 G203 rfl W204 12 rfl (Nat.le_of_ble_eq_true rfl)
  have K207 : Keep h0 h204 [] := K200.wr W204 (Or.inr sz_b115)
  have N208 := Fr.snoc X204 N201 gn_b115
  have Z209 := (Nat.le_trans Z202 (Keep.of_wr W204).1)
  refine own_by (T' := T204) (g' := (mkF m 75 #[.val (.int p0_0), .val (.int p0_1), .val (.int p0_2), .unset, .unset, .unset] [(.ref b115)])) st204 ?_
  refine own_by (T' := T204) (g' := (mkF m 80 #[.val (.int p0_0), .val (.int p0_1), .val (.int p0_2), .unset, .unset, .unset] [(.int (2147483647 : Int32)), (.int (13 : Int32)), (.ref b115), (.ref b115)])) (fun t k => ?_) ?_
  · show Steps p.tables e below (T204.setTop (mkF m 75 #[.val (.int p0_0), .val (.int p0_1), .val (.int p0_2), .unset, .unset, .unset] [(.ref b115)])) t
    refine XS.dup X204.here hx rfl (hb hby at_75) rfl rfl ?_
    show Steps p.tables e below (T204.setTop (mkF m 76 #[.val (.int p0_0), .val (.int p0_1), .val (.int p0_2), .unset, .unset, .unset] [(.ref b115), (.ref b115)])) t
    refine XS.bipush X204.here hx rfl (hb hby at_76) ?_
    show Steps p.tables e below (T204.setTop (mkF m 78 #[.val (.int p0_0), .val (.int p0_1), .val (.int p0_2), .unset, .unset, .unset] [(.int (13 : Int32)), (.ref b115), (.ref b115)])) t
    refine X204.ldcInt hx hown (mvT hZ (hw _ (List.mem_of_getElem? (i := 9) rfl))) (g := (mkF m 78 #[.val (.int p0_0), .val (.int p0_1), .val (.int p0_2), .unset, .unset, .unset] [(.int (13 : Int32)), (.ref b115), (.ref b115)])) rfl (hb hby at_78) _ ?_
    show Steps p.tables e below (T204.setTop (mkF m 80 #[.val (.int p0_0), .val (.int p0_1), .val (.int p0_2), .unset, .unset, .unset] [(.int (2147483647 : Int32)), (.int (13 : Int32)), (.ref b115), (.ref b115)])) t
    exact k
  obtain ⟨cl210, Ar210, q210, S210, N210, H210, G210⟩ := f205
  obtain ⟨T211, h211, X211, e211, W211, st211⟩ := stI X204 hx hZ e204 Ar210 (j := (13 : Int32)) (inb_of S210 ⟨by decide, by decide⟩) (g := (mkF m 80 #[.val (.int p0_0), .val (.int p0_1), .val (.int p0_2), .unset, .unset, .unset] [(.int (2147483647 : Int32)), (.int (13 : Int32)), (.ref b115), (.ref b115)])) rfl rfl (hb hby at_80)
  have f212 : Arv Z h211 b115 k115 .int (14 : Int32) [(.int (0 : Int32)), (.int (9 : Int32)), (.int (10 : Int32)), (.int (13 : Int32)), (.int (32 : Int32)), (.int (55295 : Int32)), (.int (55296 : Int32)), (.int (57343 : Int32)), (.int (57344 : Int32)), (.int (65533 : Int32)), (.int (65536 : Int32)), (.int (1114111 : Int32)), (.int (-2147483648 : Int32)), (.int (2147483647 : Int32))] (.int (0 : Int32)) := Arv.set Ar210 q210 S210 N210 H210 G210 rfl W211 13 rfl (Nat.le_of_ble_eq_true rfl)
  have K214 : Keep h0 h211 [] := K207.wr W211 (Or.inr sz_b115)
  have N215 := Fr.snoc X211 N208 gn_b115
  have Z216 := (Nat.le_trans Z209 (Keep.of_wr W211).1)
  refine own_by (T' := T211) (g' := (mkF m 81 #[.val (.int p0_0), .val (.int p0_1), .val (.int p0_2), .unset, .unset, .unset] [(.ref b115)])) st211 ?_
  refine own_by (T' := T211) (g' := (mkF m 85 #[.val (.int p0_0), .val (.int p0_1), .val (.int p0_2), .val (.ref b115), .unset, .unset] [(.int (p0_1 &&& (1 : Int32)))])) (fun t k => ?_) ?_
  · show Steps p.tables e below (T211.setTop (mkF m 81 #[.val (.int p0_0), .val (.int p0_1), .val (.int p0_2), .unset, .unset, .unset] [(.ref b115)])) t
    refine XS.astoreN X211.here hx rfl (hb hby at_81) rfl rfl (l' := #[.val (.int p0_0), .val (.int p0_1), .val (.int p0_2), .val (.ref b115), .unset, .unset]) rfl ?_
    show Steps p.tables e below (T211.setTop (mkF m 82 #[.val (.int p0_0), .val (.int p0_1), .val (.int p0_2), .val (.ref b115), .unset, .unset] [])) t
    refine XS.iloadN X211.here hx rfl (hb hby at_82) rfl ?_
    show Steps p.tables e below (T211.setTop (mkF m 83 #[.val (.int p0_0), .val (.int p0_1), .val (.int p0_2), .val (.ref b115), .unset, .unset] [(.int p0_1)])) t
    refine XS.iconst X211.here hx rfl (hb hby at_83) ?_
    show Steps p.tables e below (T211.setTop (mkF m 84 #[.val (.int p0_0), .val (.int p0_1), .val (.int p0_2), .val (.ref b115), .unset, .unset] [(.int (1 : Int32)), (.int p0_1)])) t
    refine XS.iand X211.here hx rfl (hb hby at_84) rfl ?_
    show Steps p.tables e below (T211.setTop (mkF m 85 #[.val (.int p0_0), .val (.int p0_1), .val (.int p0_2), .val (.ref b115), .unset, .unset] [(.int (p0_1 &&& (1 : Int32)))])) t
    exact k
  have J0_1 : ∀ (T220 : State) (L220 : List Loc) (i219 : Int32), Stand p l e room_1 s m #[(.int p0_0), (.int p0_1), (.int p0_2)] below meth c T220 L220 1 14 → T220.heap = h211 → Fr n0 L220 → own_Go p e below (own_P s below room_1 (own_Q0 (own_F0_108_1 p0_0 p0_1 p0_2 i219) h0 n0)) T220 (mkF m 108 #[.val (.int p0_0), .val (.int p0_1), .val (.int p0_2), .val (.ref b115), .val (.int i219), .unset] []) := by
    intro T220 L220 i219 X220 e220 N220
    refine own_by (T' := T220) (g' := (mkF m 110 #[.val (.int p0_0), .val (.int p0_1), .val (.int p0_2), .val (.ref b115), .val (.int i219), .unset] [(.int i219)])) (fun t k => ?_) ?_
    · show Steps p.tables e below (T220.setTop (mkF m 108 #[.val (.int p0_0), .val (.int p0_1), .val (.int p0_2), .val (.ref b115), .val (.int i219), .unset] [])) t
      refine XS.iload X220.here hx rfl (hb hby at_108) rfl ?_
      show Steps p.tables e below (T220.setTop (mkF m 110 #[.val (.int p0_0), .val (.int p0_1), .val (.int p0_2), .val (.ref b115), .val (.int i219), .unset] [(.int i219)])) t
      exact k
    obtain ⟨v221, _, ⟨T221, L221, k221, n221⟩, -, X221, ⟨Lc221, hQ221, l221, y221, z221⟩, st221⟩ := Jvm.LawKit.callS X220 hx (y := (⟨"com/example/buzon/buzon/engine/ApiLimits", "isCarriedCharacter", "(I)Z"⟩ : MethodName)) hown (mvT hZ (hw _ (List.mem_of_getElem? (i := 10) rfl))) (mvT hZ (hw _ (List.mem_of_getElem? (i := 11) rfl))) (mvT hZ (hw _ (List.mem_of_getElem? (i := 12) rfl))) (mvT hZ (hw _ (List.mem_of_getElem? (i := 13) rfl))) (by decide) (backOf (W := 0) (own_rm1 l Z a0 hw [] i219 h211 n0 Z216) hZ (hw _ (List.mem_of_getElem? (i := 13) rfl)) (hw _ (List.mem_of_getElem? (i := 12) rfl)) (by decide) (by decide)) (g := (mkF m 110 #[.val (.int p0_0), .val (.int p0_1), .val (.int p0_2), .val (.ref b115), .val (.int i219), .unset] [(.int i219)])) rfl (by rw [hml]; rfl) (argsL := [(.int i219)]) (rest := []) (lenOf pd__I_Z rfl) rfl (by show 2 * 0 + _ ≤ _; exact Nat.le_of_eq rfl) (hb hby at_110) (fun _ _ => ⟨rfl, e220, (by decide : 1 + 0 ≤ _), (by decide : 14 + 0 ≤ _)⟩)
    dsimp only [Pt.U, Pt.locs, Pt.cells, Pt.slots] at X221 l221 y221 z221 st221 hQ221
    subst l221 y221 z221
    obtain ⟨rfl, M221, e221⟩ := hQ221
    have N222 := Fr.app N220 M221
    refine own_by (T' := T221) (g' := (mkF m 113 #[.val (.int p0_0), .val (.int p0_1), .val (.int p0_2), .val (.ref b115), .val (.int i219), .unset] [(.int (own_F1 i219))])) st221 ?_
    refine own_by (T' := T221) (g' := (mkF m 119 #[.val (.int p0_0), .val (.int p0_1), .val (.int p0_2), .val (.ref b115), .val (.int i219), .val (.int (own_F1 i219))] [(.int i219), (.int (own_F1 i219))])) (fun t k => ?_) ?_
    · show Steps p.tables e below (T221.setTop (mkF m 113 #[.val (.int p0_0), .val (.int p0_1), .val (.int p0_2), .val (.ref b115), .val (.int i219), .unset] [(.int (own_F1 i219))])) t
      refine XS.istore X221.here hx rfl (hb hby at_113) rfl (l' := #[.val (.int p0_0), .val (.int p0_1), .val (.int p0_2), .val (.ref b115), .val (.int i219), .val (.int (own_F1 i219))]) rfl ?_
      show Steps p.tables e below (T221.setTop (mkF m 115 #[.val (.int p0_0), .val (.int p0_1), .val (.int p0_2), .val (.ref b115), .val (.int i219), .val (.int (own_F1 i219))] [])) t
      refine XS.iload X221.here hx rfl (hb hby at_115) rfl ?_
      show Steps p.tables e below (T221.setTop (mkF m 117 #[.val (.int p0_0), .val (.int p0_1), .val (.int p0_2), .val (.ref b115), .val (.int i219), .val (.int (own_F1 i219))] [(.int (own_F1 i219))])) t
      refine XS.iload X221.here hx rfl (hb hby at_117) rfl ?_
      show Steps p.tables e below (T221.setTop (mkF m 119 #[.val (.int p0_0), .val (.int p0_1), .val (.int p0_2), .val (.ref b115), .val (.int i219), .val (.int (own_F1 i219))] [(.int i219), (.int (own_F1 i219))])) t
      exact k
    obtain ⟨v223, _, ⟨T223, L223, k223, n223⟩, -, X223, ⟨Lc223, hQ223, l223, y223, z223⟩, st223⟩ := Jvm.LawKit.callS X221 hx (y := (⟨"com/example/buzon/buzon/engine/ApiLimitsIsCarriedCharacterPinLaw", "refused", "(I)Z"⟩ : MethodName)) hown (mvT hZ (hw _ (List.mem_of_getElem? (i := 16) rfl))) (mvT hZ (hw _ (List.mem_of_getElem? (i := 17) rfl))) (mvT hZ (hw _ (List.mem_of_getElem? (i := 18) rfl))) (mvT hZ (hw _ (List.mem_of_getElem? (i := 19) rfl))) (by decide) (backOf (W := 1) (own_rm2 l Z a0 hw [] i219 h211 n0 Z216) hZ (hw _ (List.mem_of_getElem? (i := 19) rfl)) (hw _ (List.mem_of_getElem? (i := 18) rfl)) (by decide) (by decide)) (g := (mkF m 119 #[.val (.int p0_0), .val (.int p0_1), .val (.int p0_2), .val (.ref b115), .val (.int i219), .val (.int (own_F1 i219))] [(.int i219), (.int (own_F1 i219))])) rfl (by rw [hml]; rfl) (argsL := [(.int i219)]) (rest := [(.int (own_F1 i219))]) (lenOf pd__I_Z rfl) rfl (by show 2 * 0 + _ ≤ _; exact Nat.le_of_eq rfl) (hb hby at_119) (fun _ _ => ⟨rfl, e221, (by decide : 1 + 0 ≤ _), (by decide : 14 + 0 ≤ _)⟩)
    dsimp only [Pt.U, Pt.locs, Pt.cells, Pt.slots] at X223 l223 y223 z223 st223 hQ223
    subst l223 y223 z223
    obtain ⟨rfl, M223, e223⟩ := hQ223
    have N224 := Fr.app N222 M223
    refine own_by (T' := T223) (g' := (mkF m 122 #[.val (.int p0_0), .val (.int p0_1), .val (.int p0_2), .val (.ref b115), .val (.int i219), .val (.int (own_F1 i219))] [(.int (own_F2 i219)), (.int (own_F1 i219))])) st223 ?_
    by_cases hc225 : (own_F2 i219) = (0 : Int32)
    · skip
      refine own_by (T' := T223) (g' := (mkF m 130 #[.val (.int p0_0), .val (.int p0_1), .val (.int p0_2), .val (.ref b115), .val (.int i219), .val (.int (own_F1 i219))] [(.int (1 : Int32)), (.int (own_F1 i219))])) (fun t k => ?_) ?_
      · show Steps p.tables e below (T223.setTop (mkF m 122 #[.val (.int p0_0), .val (.int p0_1), .val (.int p0_2), .val (.ref b115), .val (.int i219), .val (.int (own_F1 i219))] [(.int (own_F2 i219)), (.int (own_F1 i219))])) t
        refine XS.ifNo X223.here hx rfl (hb hby at_122) rfl ((if0 _ _).trans (teq hc225).2) ?_
        show Steps p.tables e below (T223.setTop (mkF m 125 #[.val (.int p0_0), .val (.int p0_1), .val (.int p0_2), .val (.ref b115), .val (.int i219), .val (.int (own_F1 i219))] [(.int (own_F1 i219))])) t
        refine XS.iconst X223.here hx rfl (hb hby at_125) ?_
        show Steps p.tables e below (T223.setTop (mkF m 126 #[.val (.int p0_0), .val (.int p0_1), .val (.int p0_2), .val (.ref b115), .val (.int i219), .val (.int (own_F1 i219))] [(.int (1 : Int32)), (.int (own_F1 i219))])) t
        refine XS.goto X223.here hx rfl (pc0 := 126) (pc' := 130) rfl (hb hby at_126) (by decide) (by decide) ?_
        show Steps p.tables e below (T223.setTop (mkF m 130 #[.val (.int p0_0), .val (.int p0_1), .val (.int p0_2), .val (.ref b115), .val (.int i219), .val (.int (own_F1 i219))] [(.int (1 : Int32)), (.int (own_F1 i219))])) t
        exact k
      by_cases hc226 : (own_F1 i219) = (1 : Int32)
      · skip
        refine own_by (T' := T223) (g' := (mkF m 138 #[.val (.int p0_0), .val (.int p0_1), .val (.int p0_2), .val (.ref b115), .val (.int i219), .val (.int (own_F1 i219))] [(.int (1 : Int32))])) (fun t k => ?_) ?_
        · show Steps p.tables e below (T223.setTop (mkF m 130 #[.val (.int p0_0), .val (.int p0_1), .val (.int p0_2), .val (.ref b115), .val (.int i219), .val (.int (own_F1 i219))] [(.int (1 : Int32)), (.int (own_F1 i219))])) t
          refine XS.icmpNo X223.here hx rfl (hb hby at_130) rfl (teq hc226).2 ?_
          show Steps p.tables e below (T223.setTop (mkF m 133 #[.val (.int p0_0), .val (.int p0_1), .val (.int p0_2), .val (.ref b115), .val (.int i219), .val (.int (own_F1 i219))] [])) t
          refine XS.iconst X223.here hx rfl (hb hby at_133) ?_
          show Steps p.tables e below (T223.setTop (mkF m 134 #[.val (.int p0_0), .val (.int p0_1), .val (.int p0_2), .val (.ref b115), .val (.int i219), .val (.int (own_F1 i219))] [(.int (1 : Int32))])) t
          refine XS.goto X223.here hx rfl (pc0 := 134) (pc' := 138) rfl (hb hby at_134) (by decide) (by decide) ?_
          show Steps p.tables e below (T223.setTop (mkF m 138 #[.val (.int p0_0), .val (.int p0_1), .val (.int p0_2), .val (.ref b115), .val (.int i219), .val (.int (own_F1 i219))] [(.int (1 : Int32))])) t
          exact k
        rw [show own_F0_108_1 p0_0 p0_1 p0_2 i219 = (1 : Int32) from ((if_pos hc225).trans ((if_pos hc226).trans rfl))]
        exact own_retN X223 hx (t := .boolean) Bd.returns (by simp) (hb hby at_138) hlk (by decide) (by decide) ⟨rfl, N224⟩
      · skip
        refine own_by (T' := T223) (g' := (mkF m 138 #[.val (.int p0_0), .val (.int p0_1), .val (.int p0_2), .val (.ref b115), .val (.int i219), .val (.int (own_F1 i219))] [(.int (0 : Int32))])) (fun t k => ?_) ?_
        · show Steps p.tables e below (T223.setTop (mkF m 130 #[.val (.int p0_0), .val (.int p0_1), .val (.int p0_2), .val (.ref b115), .val (.int i219), .val (.int (own_F1 i219))] [(.int (1 : Int32)), (.int (own_F1 i219))])) t
          refine XS.icmpYes X223.here hx rfl (pc0 := 130) (pc' := 137) rfl (hb hby at_130) rfl (feq hc226).2 (by decide) (by decide) ?_
          show Steps p.tables e below (T223.setTop (mkF m 137 #[.val (.int p0_0), .val (.int p0_1), .val (.int p0_2), .val (.ref b115), .val (.int i219), .val (.int (own_F1 i219))] [])) t
          refine XS.iconst X223.here hx rfl (hb hby at_137) ?_
          show Steps p.tables e below (T223.setTop (mkF m 138 #[.val (.int p0_0), .val (.int p0_1), .val (.int p0_2), .val (.ref b115), .val (.int i219), .val (.int (own_F1 i219))] [(.int (0 : Int32))])) t
          exact k
        rw [show own_F0_108_1 p0_0 p0_1 p0_2 i219 = (0 : Int32) from ((if_pos hc225).trans ((if_neg hc226).trans rfl))]
        exact own_retN X223 hx (t := .boolean) Bd.returns (by simp) (hb hby at_138) hlk (by decide) (by decide) ⟨rfl, N224⟩
    · skip
      refine own_by (T' := T223) (g' := (mkF m 130 #[.val (.int p0_0), .val (.int p0_1), .val (.int p0_2), .val (.ref b115), .val (.int i219), .val (.int (own_F1 i219))] [(.int (0 : Int32)), (.int (own_F1 i219))])) (fun t k => ?_) ?_
      · show Steps p.tables e below (T223.setTop (mkF m 122 #[.val (.int p0_0), .val (.int p0_1), .val (.int p0_2), .val (.ref b115), .val (.int i219), .val (.int (own_F1 i219))] [(.int (own_F2 i219)), (.int (own_F1 i219))])) t
        refine XS.ifYes X223.here hx rfl (pc0 := 122) (pc' := 129) rfl (hb hby at_122) rfl ((if0 _ _).trans (feq hc225).2) (by decide) (by decide) ?_
        show Steps p.tables e below (T223.setTop (mkF m 129 #[.val (.int p0_0), .val (.int p0_1), .val (.int p0_2), .val (.ref b115), .val (.int i219), .val (.int (own_F1 i219))] [(.int (own_F1 i219))])) t
        refine XS.iconst X223.here hx rfl (hb hby at_129) ?_
        show Steps p.tables e below (T223.setTop (mkF m 130 #[.val (.int p0_0), .val (.int p0_1), .val (.int p0_2), .val (.ref b115), .val (.int i219), .val (.int (own_F1 i219))] [(.int (0 : Int32)), (.int (own_F1 i219))])) t
        exact k
      by_cases hc227 : (own_F1 i219) = (0 : Int32)
      · skip
        refine own_by (T' := T223) (g' := (mkF m 138 #[.val (.int p0_0), .val (.int p0_1), .val (.int p0_2), .val (.ref b115), .val (.int i219), .val (.int (own_F1 i219))] [(.int (1 : Int32))])) (fun t k => ?_) ?_
        · show Steps p.tables e below (T223.setTop (mkF m 130 #[.val (.int p0_0), .val (.int p0_1), .val (.int p0_2), .val (.ref b115), .val (.int i219), .val (.int (own_F1 i219))] [(.int (0 : Int32)), (.int (own_F1 i219))])) t
          refine XS.icmpNo X223.here hx rfl (hb hby at_130) rfl (teq hc227).2 ?_
          show Steps p.tables e below (T223.setTop (mkF m 133 #[.val (.int p0_0), .val (.int p0_1), .val (.int p0_2), .val (.ref b115), .val (.int i219), .val (.int (own_F1 i219))] [])) t
          refine XS.iconst X223.here hx rfl (hb hby at_133) ?_
          show Steps p.tables e below (T223.setTop (mkF m 134 #[.val (.int p0_0), .val (.int p0_1), .val (.int p0_2), .val (.ref b115), .val (.int i219), .val (.int (own_F1 i219))] [(.int (1 : Int32))])) t
          refine XS.goto X223.here hx rfl (pc0 := 134) (pc' := 138) rfl (hb hby at_134) (by decide) (by decide) ?_
          show Steps p.tables e below (T223.setTop (mkF m 138 #[.val (.int p0_0), .val (.int p0_1), .val (.int p0_2), .val (.ref b115), .val (.int i219), .val (.int (own_F1 i219))] [(.int (1 : Int32))])) t
          exact k
        rw [show own_F0_108_1 p0_0 p0_1 p0_2 i219 = (1 : Int32) from ((if_neg hc225).trans ((if_pos hc227).trans rfl))]
        exact own_retN X223 hx (t := .boolean) Bd.returns (by simp) (hb hby at_138) hlk (by decide) (by decide) ⟨rfl, N224⟩
      · skip
        refine own_by (T' := T223) (g' := (mkF m 138 #[.val (.int p0_0), .val (.int p0_1), .val (.int p0_2), .val (.ref b115), .val (.int i219), .val (.int (own_F1 i219))] [(.int (0 : Int32))])) (fun t k => ?_) ?_
        · show Steps p.tables e below (T223.setTop (mkF m 130 #[.val (.int p0_0), .val (.int p0_1), .val (.int p0_2), .val (.ref b115), .val (.int i219), .val (.int (own_F1 i219))] [(.int (0 : Int32)), (.int (own_F1 i219))])) t
          refine XS.icmpYes X223.here hx rfl (pc0 := 130) (pc' := 137) rfl (hb hby at_130) rfl (feq hc227).2 (by decide) (by decide) ?_
          show Steps p.tables e below (T223.setTop (mkF m 137 #[.val (.int p0_0), .val (.int p0_1), .val (.int p0_2), .val (.ref b115), .val (.int i219), .val (.int (own_F1 i219))] [])) t
          refine XS.iconst X223.here hx rfl (hb hby at_137) ?_
          show Steps p.tables e below (T223.setTop (mkF m 138 #[.val (.int p0_0), .val (.int p0_1), .val (.int p0_2), .val (.ref b115), .val (.int i219), .val (.int (own_F1 i219))] [(.int (0 : Int32))])) t
          exact k
        rw [show own_F0_108_1 p0_0 p0_1 p0_2 i219 = (0 : Int32) from ((if_neg hc225).trans ((if_neg hc227).trans rfl))]
        exact own_retN X223 hx (t := .boolean) Bd.returns (by simp) (hb hby at_138) hlk (by decide) (by decide) ⟨rfl, N224⟩
  by_cases hc217 : (p0_1 &&& (1 : Int32)) = (0 : Int32)
  · skip
    refine own_by (T' := T211) (g' := (mkF m 108 #[.val (.int p0_0), .val (.int p0_1), .val (.int p0_2), .val (.ref b115), .val (.int p0_0), .unset] [])) (fun t k => ?_) ?_
    · show Steps p.tables e below (T211.setTop (mkF m 85 #[.val (.int p0_0), .val (.int p0_1), .val (.int p0_2), .val (.ref b115), .unset, .unset] [(.int (p0_1 &&& (1 : Int32)))])) t
      refine XS.ifNo X211.here hx rfl (hb hby at_85) rfl ((if0 _ _).trans (teq hc217).2) ?_
      show Steps p.tables e below (T211.setTop (mkF m 88 #[.val (.int p0_0), .val (.int p0_1), .val (.int p0_2), .val (.ref b115), .unset, .unset] [])) t
      refine XS.iloadN X211.here hx rfl (hb hby at_88) rfl ?_
      show Steps p.tables e below (T211.setTop (mkF m 89 #[.val (.int p0_0), .val (.int p0_1), .val (.int p0_2), .val (.ref b115), .unset, .unset] [(.int p0_0)])) t
      refine XS.istore X211.here hx rfl (hb hby at_89) rfl (l' := #[.val (.int p0_0), .val (.int p0_1), .val (.int p0_2), .val (.ref b115), .val (.int p0_0), .unset]) rfl ?_
      show Steps p.tables e below (T211.setTop (mkF m 91 #[.val (.int p0_0), .val (.int p0_1), .val (.int p0_2), .val (.ref b115), .val (.int p0_0), .unset] [])) t
      refine XS.goto X211.here hx rfl (pc0 := 91) (pc' := 108) rfl (hb hby at_91) (by decide) (by decide) ?_
      show Steps p.tables e below (T211.setTop (mkF m 108 #[.val (.int p0_0), .val (.int p0_1), .val (.int p0_2), .val (.ref b115), .val (.int p0_0), .unset] [])) t
      exact k
    rw [show own_F0 p0_0 p0_1 p0_2 = (own_F0_108_1 p0_0 p0_1 p0_2 p0_0) from ((if_pos hc217).trans rfl)]
    exact J0_1 _ _ p0_0 X211 e211 N215
  · skip
    refine own_by (T' := T211) (g' := (mkF m 101 #[.val (.int p0_0), .val (.int p0_1), .val (.int p0_2), .val (.ref b115), .unset, .unset] [(.int (((p0_1.toUInt32 >>> ((1 : Int32) &&& 31).toUInt32).toInt32) % (14 : Int32))), (.ref b115)])) (fun t k => ?_) ?_
    · show Steps p.tables e below (T211.setTop (mkF m 85 #[.val (.int p0_0), .val (.int p0_1), .val (.int p0_2), .val (.ref b115), .unset, .unset] [(.int (p0_1 &&& (1 : Int32)))])) t
      refine XS.ifYes X211.here hx rfl (pc0 := 85) (pc' := 94) rfl (hb hby at_85) rfl ((if0 _ _).trans (feq hc217).2) (by decide) (by decide) ?_
      show Steps p.tables e below (T211.setTop (mkF m 94 #[.val (.int p0_0), .val (.int p0_1), .val (.int p0_2), .val (.ref b115), .unset, .unset] [])) t
      refine XS.aloadN X211.here hx rfl (hb hby at_94) rfl rfl ?_
      show Steps p.tables e below (T211.setTop (mkF m 95 #[.val (.int p0_0), .val (.int p0_1), .val (.int p0_2), .val (.ref b115), .unset, .unset] [(.ref b115)])) t
      refine XS.iloadN X211.here hx rfl (hb hby at_95) rfl ?_
      show Steps p.tables e below (T211.setTop (mkF m 96 #[.val (.int p0_0), .val (.int p0_1), .val (.int p0_2), .val (.ref b115), .unset, .unset] [(.int p0_1), (.ref b115)])) t
      refine XS.iconst X211.here hx rfl (hb hby at_96) ?_
      show Steps p.tables e below (T211.setTop (mkF m 97 #[.val (.int p0_0), .val (.int p0_1), .val (.int p0_2), .val (.ref b115), .unset, .unset] [(.int (1 : Int32)), (.int p0_1), (.ref b115)])) t
      refine XS.iushr X211.here hx rfl (hb hby at_97) rfl ?_
      show Steps p.tables e below (T211.setTop (mkF m 98 #[.val (.int p0_0), .val (.int p0_1), .val (.int p0_2), .val (.ref b115), .unset, .unset] [(.int ((p0_1.toUInt32 >>> ((1 : Int32) &&& 31).toUInt32).toInt32)), (.ref b115)])) t
      refine XS.bipush X211.here hx rfl (hb hby at_98) ?_
      show Steps p.tables e below (T211.setTop (mkF m 100 #[.val (.int p0_0), .val (.int p0_1), .val (.int p0_2), .val (.ref b115), .unset, .unset] [(.int (14 : Int32)), (.int ((p0_1.toUInt32 >>> ((1 : Int32) &&& 31).toUInt32).toInt32)), (.ref b115)])) t
      refine iremM (g := (mkF m 100 #[.val (.int p0_0), .val (.int p0_1), .val (.int p0_2), .val (.ref b115), .unset, .unset] [(.int (14 : Int32)), (.int ((p0_1.toUInt32 >>> ((1 : Int32) &&& 31).toUInt32).toInt32)), (.ref b115)])) X211 hx rfl (hb hby at_100) rfl (by decide) ?_
      show Steps p.tables e below (T211.setTop (mkF m 101 #[.val (.int p0_0), .val (.int p0_1), .val (.int p0_2), .val (.ref b115), .unset, .unset] [(.int (((p0_1.toUInt32 >>> ((1 : Int32) &&& 31).toUInt32).toInt32) % (14 : Int32))), (.ref b115)])) t
      exact k
    obtain ⟨cl228, Ar228, q228, S228, N228, H228, G228⟩ := f212
    have hin228 := inb_of S228 (j := (((p0_1.toUInt32 >>> ((1 : Int32) &&& 31).toUInt32).toInt32) % (14 : Int32))) (own_idx p0_1)
    refine own_by (T' := T211) (g' := (mkF m 102 #[.val (.int p0_0), .val (.int p0_1), .val (.int p0_2), .val (.ref b115), .unset, .unset] [(.int (own_T0_101.getD ((((p0_1.toUInt32 >>> ((1 : Int32) &&& 31).toUInt32).toInt32) % (14 : Int32))).toNatClampNeg (0 : Int32)))])) (fun t k => X211.iaload hx (j := (((p0_1.toUInt32 >>> ((1 : Int32) &&& 31).toUInt32).toInt32) % (14 : Int32))) (v := (.int (own_T0_101.getD ((((p0_1.toUInt32 >>> ((1 : Int32) &&& 31).toUInt32).toInt32) % (14 : Int32))).toNatClampNeg (0 : Int32)))) (by rw [e211]; exact Ar228.1) (State.isArrayOf_alike hZ.alike Ar228.2.1) Ar228.2.2 hin228 (H228.at hin228 (own_tab own_T0_101 (0 : Int32) _)) (g := (mkF m 101 #[.val (.int p0_0), .val (.int p0_1), .val (.int p0_2), .val (.ref b115), .unset, .unset] [(.int (((p0_1.toUInt32 >>> ((1 : Int32) &&& 31).toUInt32).toInt32) % (14 : Int32))), (.ref b115)])) rfl rfl (hb hby at_101) t k) ?_
    refine own_by (T' := T211) (g' := (mkF m 108 #[.val (.int p0_0), .val (.int p0_1), .val (.int p0_2), .val (.ref b115), .val (.int ((own_T0_101.getD ((((p0_1.toUInt32 >>> ((1 : Int32) &&& 31).toUInt32).toInt32) % (14 : Int32))).toNatClampNeg (0 : Int32)) + (p0_2 % (5 : Int32)))), .unset] [])) (fun t k => ?_) ?_
    · show Steps p.tables e below (T211.setTop (mkF m 102 #[.val (.int p0_0), .val (.int p0_1), .val (.int p0_2), .val (.ref b115), .unset, .unset] [(.int (own_T0_101.getD ((((p0_1.toUInt32 >>> ((1 : Int32) &&& 31).toUInt32).toInt32) % (14 : Int32))).toNatClampNeg (0 : Int32)))])) t
      refine XS.iloadN X211.here hx rfl (hb hby at_102) rfl ?_
      show Steps p.tables e below (T211.setTop (mkF m 103 #[.val (.int p0_0), .val (.int p0_1), .val (.int p0_2), .val (.ref b115), .unset, .unset] [(.int p0_2), (.int (own_T0_101.getD ((((p0_1.toUInt32 >>> ((1 : Int32) &&& 31).toUInt32).toInt32) % (14 : Int32))).toNatClampNeg (0 : Int32)))])) t
      refine XS.iconst X211.here hx rfl (hb hby at_103) ?_
      show Steps p.tables e below (T211.setTop (mkF m 104 #[.val (.int p0_0), .val (.int p0_1), .val (.int p0_2), .val (.ref b115), .unset, .unset] [(.int (5 : Int32)), (.int p0_2), (.int (own_T0_101.getD ((((p0_1.toUInt32 >>> ((1 : Int32) &&& 31).toUInt32).toInt32) % (14 : Int32))).toNatClampNeg (0 : Int32)))])) t
      refine iremM (g := (mkF m 104 #[.val (.int p0_0), .val (.int p0_1), .val (.int p0_2), .val (.ref b115), .unset, .unset] [(.int (5 : Int32)), (.int p0_2), (.int (own_T0_101.getD ((((p0_1.toUInt32 >>> ((1 : Int32) &&& 31).toUInt32).toInt32) % (14 : Int32))).toNatClampNeg (0 : Int32)))])) X211 hx rfl (hb hby at_104) rfl (by decide) ?_
      show Steps p.tables e below (T211.setTop (mkF m 105 #[.val (.int p0_0), .val (.int p0_1), .val (.int p0_2), .val (.ref b115), .unset, .unset] [(.int (p0_2 % (5 : Int32))), (.int (own_T0_101.getD ((((p0_1.toUInt32 >>> ((1 : Int32) &&& 31).toUInt32).toInt32) % (14 : Int32))).toNatClampNeg (0 : Int32)))])) t
      refine XS.iadd X211.here hx rfl (hb hby at_105) rfl ?_
      show Steps p.tables e below (T211.setTop (mkF m 106 #[.val (.int p0_0), .val (.int p0_1), .val (.int p0_2), .val (.ref b115), .unset, .unset] [(.int ((own_T0_101.getD ((((p0_1.toUInt32 >>> ((1 : Int32) &&& 31).toUInt32).toInt32) % (14 : Int32))).toNatClampNeg (0 : Int32)) + (p0_2 % (5 : Int32))))])) t
      refine XS.istore X211.here hx rfl (hb hby at_106) rfl (l' := #[.val (.int p0_0), .val (.int p0_1), .val (.int p0_2), .val (.ref b115), .val (.int ((own_T0_101.getD ((((p0_1.toUInt32 >>> ((1 : Int32) &&& 31).toUInt32).toInt32) % (14 : Int32))).toNatClampNeg (0 : Int32)) + (p0_2 % (5 : Int32)))), .unset]) rfl ?_
      show Steps p.tables e below (T211.setTop (mkF m 108 #[.val (.int p0_0), .val (.int p0_1), .val (.int p0_2), .val (.ref b115), .val (.int ((own_T0_101.getD ((((p0_1.toUInt32 >>> ((1 : Int32) &&& 31).toUInt32).toInt32) % (14 : Int32))).toNatClampNeg (0 : Int32)) + (p0_2 % (5 : Int32)))), .unset] [])) t
      exact k
    rw [show own_F0 p0_0 p0_1 p0_2 = (own_F0_108_1 p0_0 p0_1 p0_2 ((own_T0_101.getD ((((p0_1.toUInt32 >>> ((1 : Int32) &&& 31).toUInt32).toInt32) % (14 : Int32))).toNatClampNeg (0 : Int32)) + (p0_2 % (5 : Int32)))) from ((if_neg hc217).trans rfl)]
    exact J0_1 _ _ ((own_T0_101.getD ((((p0_1.toUInt32 >>> ((1 : Int32) &&& 31).toUInt32).toInt32) % (14 : Int32))).toNatClampNeg (0 : Int32)) + (p0_2 % (5 : Int32))) X211 e211 N215
theorem own_c (i : Int32) : own_F0_108_1 0 0 0 i = 1 := by
  have e0 : (0 : Int32).toInt = 0 := by decide
  have e9 : (9 : Int32).toInt = 9 := by decide
  have e10 : (10 : Int32).toInt = 10 := by decide
  have e13 : (13 : Int32).toInt = 13 := by decide
  have e32 : (32 : Int32).toInt = 32 := by decide
  have ea : (55295 : Int32).toInt = 55295 := by decide
  have eb : (55296 : Int32).toInt = 55296 := by decide
  have ec : (57343 : Int32).toInt = 57343 := by decide
  have ed : (57344 : Int32).toInt = 57344 := by decide
  have ee : (65533 : Int32).toInt = 65533 := by decide
  have ef : (65534 : Int32).toInt = 65534 := by decide
  have eg : (65535 : Int32).toInt = 65535 := by decide
  have eh : (65536 : Int32).toInt = 65536 := by decide
  have ei : (1114111 : Int32).toInt = 1114111 := by decide
  have h2 : own_F2 i = if i.toInt < 0 ∨ 1114111 < i.toInt ∨ (i.toInt < 32 ∧ i.toInt ≠ 9 ∧ i.toInt ≠ 10 ∧ i.toInt ≠ 13) ∨ (55296 ≤ i.toInt ∧ i.toInt ≤ 57343) ∨ i.toInt = 65534 ∨ i.toInt = 65535 then 1 else 0 := by
    unfold own_F2
    simp only [Int32.lt_iff_toInt_lt, ← Int32.toInt_inj, e0, e9, e10, e13, e32, ea, eb, ec, ed, ee, ef, eg, eh, ei]
    repeat' split
    all_goals first | rfl | (exfalso; omega)
  have h1 : own_F1 i = if i.toInt < 0 ∨ 1114111 < i.toInt ∨ (i.toInt < 32 ∧ i.toInt ≠ 9 ∧ i.toInt ≠ 10 ∧ i.toInt ≠ 13) ∨ (55296 ≤ i.toInt ∧ i.toInt ≤ 57343) ∨ i.toInt = 65534 ∨ i.toInt = 65535 then 0 else 1 := by
    unfold own_F1
    simp only [Int32.lt_iff_toInt_lt, ← Int32.toInt_inj, e0, e9, e10, e13, e32, ea, eb, ec, ed, ee, ef, eg, eh, ei]
    repeat' split
    all_goals first | rfl | (exfalso; omega)
  unfold own_F0_108_1
  rw [h1, h2]
  split <;> rfl
theorem own_law (a b c : Int32) : own_F0 a b c = 1 := by
  unfold own_F0
  split <;> exact own_c _

set_option maxRecDepth 65536 in
set_option maxHeartbeats 40000000 in
theorem own_comes {Post : Tables → Env → Array Value → State → Outcome → State → Prop} (hpost : ∀ tb e args s v u, (limb_1_1.after args s (.returned v) u = true ∧ limb_1_2.after args s (.returned v) u = true ∧ True) → FrameEnd s (.returned v) u (Jvm.fieldLocs frame_1_writes args s ++ Jvm.arrayLocs frame_1_arrays args s ++ Jvm.staticLocs frame_1_statics s) 16 128 → Post tb e args s (.returned v) u) :
    ArmFor flags0 classFile x code maxLocals ret World_1 tables_1 room_1 Calls_1 rest_1 Pre_1 Post := by
  intro l hfl _ _ p e ha hc hk s m args below hf hA hF happ hP
  obtain ⟨hcalls, hrest, hpre⟩ := hP
  obtain ⟨-, -, -, hnamed, -, -, -, hat⟩ := (Spec.applies_iff hf).mp happ
  obtain ⟨hg, hn⟩ := and_e (Cond.before_iff.mp (show (Jvm.Cond.and given_1 narrow_1).before args s = true from hpre))
  obtain ⟨hg1, hg2⟩ := and_e hg
  obtain ⟨hg3, hg4⟩ := and_e hg2
  obtain ⟨hg5, hg6⟩ := and_e hg4
  obtain ⟨w0, w1, w2, rfl⟩ : ∃ w0 w1 w2 : Value, args = #[w0, w1, w2] := by
    have hs : args.size = 3 := by simpa [Cond.value, given_1] using hg1
    obtain ⟨L⟩ := args
    match L, hs with
    | [w0, w1, w2], _ => exact ⟨w0, w1, w2, rfl⟩
  have hw := fun d (hd : d ∈ tables_1) => atoms_spec (ws := Jvm.Cond.code x code maxLocals ret :: tables_1) hat d (List.mem_cons_of_mem _ hd)
  have hfit : Fit s := fun {y c} hc i hi => by
    obtain ⟨ha, rfl⟩ := Array.getElem?_eq_some_iff.mp hc
    have q := List.all_eq_true.mp ((Array.all_eq_true_iff_forall_mem.mp hF) _ (Array.getElem_mem ha)) i (List.mem_range.mpr hi)
    simpa [Array.getElem?_eq_getElem hi] using q
  obtain ⟨i0, ei0⟩ := is_v hg3
  obtain rfl : w0 = (.int i0) := Option.some.inj ei0
  obtain ⟨i1, ei1⟩ := is_v hg5
  obtain rfl : w1 = (.int i1) := Option.some.inj ei1
  obtain ⟨i2, ei2⟩ := is_v hg6
  obtain rfl : w2 = (.int i2) := Option.some.inj ei2
  obtain ⟨n, o, h1, h2, h3, _, L, rfl, ⟨rfl, N⟩, hq⟩ := own_rm0 l s _ hw tables_1 i0 i1 i2 s.heap s.heap.size (Nat.le_refl _) p e ha hc hk s m _ below hf ((Spec.applies_iff_loose hf).mp happ).1 ⟨rfl, State.Warmed39.refl s, rfl⟩ trivial
  refine ⟨n, _, h1, h2, h3, hpost _ _ _ _ _ _ ⟨Cond.after_iff.mpr rfl, Cond.after_iff.mpr (eq_i res_at (Term.int_eval (1)) (congrArg Value.int (own_law i0 i1 i2))), trivial⟩ ⟨hq.1, hq.2.1, (hq.2.2.sift fun y hy => Or.inr (N y hy)).mono (by decide) (by decide)⟩⟩
theorem main_1_1 : Claimed_1_1 := own_comes fun _ _ _ _ _ _ h hF => ⟨h.1, hF⟩
theorem main_1_2 : Claimed_1_2 := own_comes fun _ _ _ _ _ _ h hF => ⟨h.2.1, hF⟩
end Jvm.Pilot.@@N@@
namespace Jvm.Pilot.@@N@@
open Jvm Jvm.ClassFile Sem Op Lib Jvm.Free Jvm.Stand Jvm.Pilot.@@N@@.Jvm.D
/-! MADE BY PROGRAM (witnessworld.py) out of the Statement's table words and the real class files: 9 classes; the members and pool entries that the words name. The judged class is class 1, her method 1. -/
namespace start1
open Jvm.ClassFile
def u (s : String) : CpInfo := .utf8 (stringToUtf16 s)
/-- a pool by its gaps: so many unusable entries, then the entry; so many at the end -/
def gap : Nat → List CpInfo → List CpInfo
  | 0, r => r
  | n + 1, r => .unusable :: gap n r
def poolList (es : List (Nat × CpInfo)) (last : Nat) : List CpInfo := es.foldr (fun e r => gap e.1 (e.2 :: r)) (gap last [])
def pool (es : List (Nat × CpInfo)) (last : Nat) : Array CpInfo := ⟨poolList es last⟩
def fileOf (pool : Array CpInfo) (this : Nat) (attrs : Array Attribute := #[]) (ms : Array MethodInfo := #[]) (fl : Nat := 33) (sup : Nat := 0) (ifs : Array Nat := #[]) (fds : Array FieldInfo := #[]) : ClassFile where
  minorVersion := 0
  majorVersion := 65
  constantPool := pool
  accessFlags := fl
  thisClass := this
  superClass := sup
  interfaces := ifs
  fields := fds
  methods := ms
  attributes := attrs
def plain (name : String) (sup : Option ClassId) : Class where
  name := name
  kind := .ordinary
  loader := none
  accessFlags := 33
  super := sup
  interfaces := #[]
  cf := none
  fields := #[]
  methods := #[]
  instanceTypes := #[]
  staticTypes := #[]
  resolved := #[]
  callSites := []
  init := .initialized
  statics := none
  mirror := none

def pool0 : Array CpInfo := pool [(5, u "<init>"), (0, u "()V"), (1, .class_ 10), (1, u "java/lang/Object")] 113

def k0m0 : Method := { name := "<init>", desc := "()V", sig := { parameters := [], returnType := none }, accessFlags := 1, code := none }
/-- java/lang/Object -/
def k0 : Class := { plain "java/lang/Object" none with
  accessFlags := 33
  interfaces := #[]
  cf := some (fileOf pool0 8 #[] #[{ accessFlags := 1, nameIndex := 5, descriptorIndex := 6, attributes := #[] }] 33 0 #[] #[])
  fields := #[]
  methods := #[k0m0]
  instanceTypes := #[]
  staticTypes := #[]
  resolved := Array.replicate 124 none
  statics := none }

def pool1 : Array CpInfo := pool [(2, .class_ 4), (1, u "java/lang/Object"), (0, u "<init>"), (0, u "()V"), (0, .integer 55295), (0, .integer 55296), (0, .integer 57343), (0, .integer 57344), (0, .integer 65533), (0, .integer 65536), (0, .integer 1114111), (2, .integer 2147483648), (0, .integer 2147483647), (0, .methodref 19 20), (0, .class_ 21), (0, .nameAndType 22 23), (0, u "com/example/buzon/buzon/engine/ApiLimits"), (0, u "isCarriedCharacter"), (0, u "(I)Z"), (0, .methodref 25 26), (0, .class_ 27), (0, .nameAndType 28 23), (0, u "com/example/buzon/buzon/engine/ApiLimitsIsCarriedCharacterPinLaw"), (0, u "refused"), (0, .integer 65534), (0, .integer 65535), (2, u "law"), (0, u "(III)Z")] 5

def k1m0 : Method := { name := "<init>", desc := "()V", sig := { parameters := [], returnType := none }, accessFlags := 2, code := none }
def k1c1 : Code := { maxStack := 4, maxLocals := 6, code := code, exceptionTable := #[], attributes := #[] }
def k1m1 : Method := { name := "law", desc := "(III)Z", sig := { parameters := [.int, .int, .int], returnType := some .boolean }, accessFlags := 9, code := some k1c1 }
def k1c2 : Code := { maxStack := 2, maxLocals := 1, code := method_3_code, exceptionTable := #[], attributes := #[] }
def k1m2 : Method := { name := "refused", desc := "(I)Z", sig := { parameters := [.int], returnType := some .boolean }, accessFlags := 10, code := some k1c2 }
/-- com/example/buzon/buzon/engine/ApiLimitsIsCarriedCharacterPinLaw -/
def k1 : Class := { plain "com/example/buzon/buzon/engine/ApiLimitsIsCarriedCharacterPinLaw" (some 0) with
  accessFlags := 49
  interfaces := #[]
  cf := some (fileOf pool1 25 #[] #[{ accessFlags := 2, nameIndex := 5, descriptorIndex := 6, attributes := #[] }, { accessFlags := 9, nameIndex := 33, descriptorIndex := 34, attributes := #[] }, { accessFlags := 10, nameIndex := 28, descriptorIndex := 23, attributes := #[] }] 49 2 #[] #[])
  fields := #[]
  methods := #[k1m0, k1m1, k1m2]
  instanceTypes := #[]
  staticTypes := #[]
  resolved := Array.replicate 40 none
  statics := none }

def pool2 : Array CpInfo := pool [(2, .class_ 4), (1, u "java/lang/Object"), (0, u "<init>"), (0, u "()V"), (10, .class_ 19), (1, u "com/example/buzon/buzon/engine/ApiLimits"), (0, u "ASCII_ID"), (0, u "Ljava/util/regex/Pattern;"), (62, .integer 55295), (0, .integer 57344), (0, .integer 65533), (0, .integer 65536), (0, .integer 1114111), (2, u "isCarriedCharacter"), (0, u "(I)Z")] 47

def k2m0 : Method := { name := "<init>", desc := "()V", sig := { parameters := [], returnType := none }, accessFlags := 2, code := none }
def k2c1 : Code := { maxStack := 2, maxLocals := 1, code := prog_3_method_5_code, exceptionTable := #[], attributes := #[] }
def k2m1 : Method := { name := "isCarriedCharacter", desc := "(I)Z", sig := { parameters := [.int], returnType := some .boolean }, accessFlags := 9, code := some k2c1 }
/-- com/example/buzon/buzon/engine/ApiLimits -/
def k2 : Class := { plain "com/example/buzon/buzon/engine/ApiLimits" (some 0) with
  accessFlags := 33
  interfaces := #[]
  cf := some (fileOf pool2 17 #[] #[{ accessFlags := 2, nameIndex := 5, descriptorIndex := 6, attributes := #[] }, { accessFlags := 9, nameIndex := 91, descriptorIndex := 92, attributes := #[] }] 33 2 #[] #[{ accessFlags := 26, nameIndex := 20, descriptorIndex := 21, attributes := #[] }])
  fields := #[{ name := "ASCII_ID", type := (.object "java/util/regex/Pattern"), accessFlags := 26, slot := 0, constantValue := 0 }]
  methods := #[k2m0, k2m1]
  instanceTypes := #[]
  staticTypes := #[(.object "java/util/regex/Pattern")]
  resolved := Array.replicate 140 none
  statics := none }

def pool3 : Array CpInfo := pool [(1, u "java/lang/Cloneable"), (0, .class_ 1), (0, u "java/lang/Object"), (0, .class_ 3)] 3

/-- java/lang/Cloneable -/
def k3 : Class := { plain "java/lang/Cloneable" (some 0) with
  accessFlags := 1537
  interfaces := #[]
  cf := some (fileOf pool3 2 #[] #[] 1537 4 #[] #[])
  fields := #[]
  methods := #[]
  instanceTypes := #[]
  staticTypes := #[]
  resolved := Array.replicate 8 none
  statics := none }

def pool4 : Array CpInfo := pool [(1, u "java/io/Serializable"), (0, .class_ 1), (0, u "java/lang/Object"), (0, .class_ 3)] 3

/-- java/io/Serializable -/
def k4 : Class := { plain "java/io/Serializable" (some 0) with
  accessFlags := 1537
  interfaces := #[]
  cf := some (fileOf pool4 2 #[] #[] 1537 4 #[] #[])
  fields := #[]
  methods := #[]
  instanceTypes := #[]
  staticTypes := #[]
  resolved := Array.replicate 8 none
  statics := none }

/-- the primitive byte -/
def k5 : Class := { plain "byte" none with kind := .primitive 'B', accessFlags := 0x411 }
/-- [B -/
def k6 : Class := { plain "[B" (some 0) with kind := .array 5 .byte, interfaces := #[3, 4], accessFlags := 1041 }

/-- the primitive int -/
def k7 : Class := { plain "int" none with kind := .primitive 'I', accessFlags := 0x411 }
/-- [I -/
def k8 : Class := { plain "[I" (some 0) with kind := .array 7 .int, interfaces := #[3, 4], accessFlags := 1041 }

def heap : Heap := #[]
def classes : Array Class := #[k0, k1, k2, k3, k4, k5, k6, k7, k8]
def interned : List (Array UInt16 × Addr) := []
def slotsUsed : Nat := 0
def theMethod : MethodId := ⟨1, 1⟩
def args0 : Array Value := #[.int 5, .int 6, .int 7]
def aboutOver (below : List Frame) : State where
  vm := { classes := classes, interned := interned.toArray }
  heap := heap
  slotsUsed := slotsUsed
  threads := #[{ frames := .invoking theMethod args0 :: below }]
def below0 : List Frame := [.native { method := ⟨0, 0⟩, args := #[] }]
def about1 : State := aboutOver below0
def p0 : Program := .bare "" "" ""
def e0 : Env := launch0.env 0 0 0
theorem w_frames : about1.frames = Frame.invoking theMethod args0 :: below0 := rfl
set_option maxRecDepth 65536 in
theorem w_args : argsFit about1.vm theMethod args0 = true := by decide +kernel
set_option maxRecDepth 65536 in
theorem w_heap : heapFits about1 = true := by decide +kernel
set_option maxRecDepth 65536 in
theorem w_runnable : about1.curStatus? = some .runnable := by decide +kernel
set_option maxRecDepth 65536 in
theorem w_alone : about1.alone = true := by decide +kernel
set_option maxRecDepth 65536 in
theorem w_named : about1.methodNamed? x = some theMethod := by decide +kernel
set_option maxRecDepth 65536 in
theorem w_hears : about1.hears theMethod below0 = true := by decide +kernel
set_option maxRecDepth 65536 in
theorem w_ripe : about1.ripe theMethod args0 below0 = true := by decide +kernel
theorem w_running : about1.status = .running := rfl
set_option maxRecDepth 65536 in
theorem w_room : about1.hasRoom e0.platform room_1 = true :=
  launch0.hasRoom_least _ room_1 (by decide +kernel) (by decide +kernel) (by decide +kernel) (by decide +kernel) (by decide +kernel) (by decide +kernel)
theorem allAtoms_all (ts : List Jvm.Cond) (a : Array Jvm.Value) (st : Jvm.State) : (allAtoms ts).before a st = ts.all (fun c => c.before a st) := by
  induction ts with
  | nil => rfl
  | cons c t ih =>
    show (Jvm.Cond.and c (allAtoms t)).before a st = _
    rw [Jvm.Cond.before_and, ih, List.all_cons]
def words1 : List Jvm.Cond := Jvm.Cond.code x code maxLocals ret :: tables_1
/-- a 'code' word, met by the world's own term for the bytes: nothing is compared byte by byte -/
theorem code_word {y : MethodName} {bytes : ByteArray} {mx : Nat} {rt : Option FieldType} {a : Array Value} {s : State} {m : MethodId} {meth : Method} {c : Code} (h1 : s.methodNamed? y = some m) (h2 : s.vm.method? m = some meth) (h3 : meth.code = some c) (h4 : c.code = bytes)
    (h5 : (c.maxLocals == mx && c.exceptionTable.isEmpty && decide (c.maxStack ≤ mostOperands) && decide (meth.sig.returnType = rt) && !meth.locks && decide (parseMethodDescriptor y.desc = some meth.sig)) = true) : (Jvm.Cond.code y bytes mx rt).before a s = true := by
  simp only [Bool.and_eq_true, beq_iff_eq, Bool.not_eq_true', decide_eq_true_eq] at h5
  obtain ⟨⟨⟨⟨⟨g1, g2⟩, g3⟩, g4⟩, g5⟩, g6⟩ := h5
  simp [Cond.before, Cond.holds, Cond.value, h1, h2, h3, h4, g1, g2, g3, g4, g5, g6]
def isCode : Jvm.Cond → Bool
  | .code _ _ _ _ => true
  | _ => false
theorem all_split {L : List Jvm.Cond} {P : Jvm.Cond → Bool} (h1 : L.all (fun c => isCode c || P c) = true) (h2 : ∀ c ∈ L.filter isCode, P c = true) : L.all P = true := by
  refine List.all_eq_true.mpr fun c hc => ?_
  have h := List.all_eq_true.mp h1 c hc
  rcases Bool.eq_false_or_eq_true (isCode c) with hi | hi
  · exact h2 c (List.mem_filter.mpr ⟨hc, hi⟩)
  · simpa [hi] using h
set_option maxRecDepth 65536 in
theorem w_c0 : (Jvm.Cond.code x code maxLocals ret).before args0 about1 = true := code_word (m := ⟨1, 1⟩) (meth := k1m1) (c := k1c1) (by decide +kernel) rfl rfl rfl (by decide +kernel)
set_option maxRecDepth 65536 in
theorem w_c1 : (Jvm.Cond.code ({ cls := "com/example/buzon/buzon/engine/ApiLimits", name := "isCarriedCharacter", desc := "(I)Z" } : Jvm.MethodName) prog_3_method_5_code (1 : Nat) (Option.some Jvm.ClassFile.FieldType.boolean)).before args0 about1 = true := code_word (m := ⟨2, 1⟩) (meth := k2m1) (c := k2c1) (by decide +kernel) rfl rfl rfl (by decide +kernel)
set_option maxRecDepth 65536 in
theorem w_c2 : (Jvm.Cond.code ({ cls := "com/example/buzon/buzon/engine/ApiLimitsIsCarriedCharacterPinLaw", name := "refused", desc := "(I)Z" } : Jvm.MethodName) method_3_code (1 : Nat) (Option.some Jvm.ClassFile.FieldType.boolean)).before args0 about1 = true := code_word (m := ⟨1, 2⟩) (meth := k1m2) (c := k1c2) (by decide +kernel) rfl rfl rfl (by decide +kernel)
def codes1 : List Jvm.Cond := [Jvm.Cond.code x code maxLocals ret, Jvm.Cond.code ({ cls := "com/example/buzon/buzon/engine/ApiLimits", name := "isCarriedCharacter", desc := "(I)Z" } : Jvm.MethodName) prog_3_method_5_code (1 : Nat) (Option.some Jvm.ClassFile.FieldType.boolean), Jvm.Cond.code ({ cls := "com/example/buzon/buzon/engine/ApiLimitsIsCarriedCharacterPinLaw", name := "refused", desc := "(I)Z" } : Jvm.MethodName) method_3_code (1 : Nat) (Option.some Jvm.ClassFile.FieldType.boolean)]
set_option maxRecDepth 65536 in
theorem codes_eq : words1.filter isCode = codes1 := rfl
theorem w_codes : ∀ c ∈ words1.filter isCode, c.before args0 about1 = true := by
  rw [codes_eq]
  intro c hc
  simp only [codes1, List.mem_cons, List.not_mem_nil, or_false] at hc
  rcases hc with rfl | rfl | rfl
  · exact w_c0
  · exact w_c1
  · exact w_c2
set_option maxRecDepth 65536 in
theorem w_t1 : (words1.take 24).all (fun c => isCode c || c.before args0 about1) = true := by decide +kernel
set_option maxRecDepth 65536 in
theorem w_t2 : (words1.drop 24).all (fun c => isCode c || c.before args0 about1) = true := by decide +kernel
theorem w_tables : (allAtoms (Jvm.Cond.code x code maxLocals ret :: tables_1)).before args0 about1 = true := by
  rw [allAtoms_all]
  show words1.all (fun c => c.before args0 about1) = true
  refine all_split ?_ w_codes
  rw [← List.take_append_drop 24 words1, List.all_append, w_t1, w_t2]
  rfl
set_option maxRecDepth 65536 in
theorem w_case : (Jvm.Cond.and given_1 narrow_1).before args0 about1 = true := by decide +kernel
theorem w_applies : (headSpec (Jvm.Cond.code x code maxLocals ret :: tables_1) room_1).applies x e0.platform about1 = true :=
  (Spec.applies_iff w_frames).mpr ⟨w_running, w_runnable, w_alone, w_named, w_hears, w_ripe, w_room, w_tables⟩
theorem atStart : AtStart classFile x code maxLocals ret World_1 tables_1 room_1 Calls_1 rest_1 Pre_1 launch0 p0 e0 about1 theMethod args0 below0 :=
  ⟨lists_1, trivial, launch0.admits_env _ _ _, launch0.least_env, fairChoices_fair.cas, fairChoices_fair.clock, w_frames, w_args, w_heap, w_applies, trivial, trivial, w_case⟩
end start1
theorem witness_1 : WitnessClaimed_1 := ⟨start1.p0, start1.e0, start1.about1, start1.theMethod, start1.args0, start1.below0, start1.atStart⟩
end Jvm.Pilot.@@N@@
