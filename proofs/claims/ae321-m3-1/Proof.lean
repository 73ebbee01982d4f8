import JvmDerived
import JvmDerived.Pilot.@@N@@Statement
import JvmDerived.Pilot.@@N@@Code
set_option linter.unusedVariables false
set_option linter.unusedSimpArgs false
namespace Jvm.Pilot.@@N@@
open Jvm Jvm.ClassFile Sem Op Lib Jvm.Free Jvm.Stand Jvm.LawKit Jvm.RoadKit Bundle Jvm.Pilot.@@N@@.Jvm.D
/-- from the frame g at T the run reaches a state of which P holds -/
def own_Go (p : Program) (e : Env) (below : List Frame) (P : State → Outcome → Prop) (T : State) (g : JFrame) : Prop := ∃ t o, Steps p.tables e below (T.setTop g) t ∧ P t o
/-- the run has left the method: what it returned, the heap and the places written are as Q says -/
def own_P (s : State) (below : List Frame) (R : Room) (Q : Option Value → Heap → List Loc → Prop) (t : State) (o : Outcome) : Prop := t.status = .running ∧ Ended t below o ∧ ∃ v L, o = .returned v ∧ Q v t.heap L ∧ FrameEnd s o t L R.cells R.slots
section OwnKit
variable {p : Program} {l : Launch} {e : Env} {R : Room} {s : State} {m : MethodId} {args : Array Value} {below : List Frame} {meth : Method} {c : Code} {T T' : State} {locs : List Loc} {cells slots : Nat} {P : State → Outcome → Prop} {g g' : JFrame}
theorem own_by (k : ∀ t, Steps p.tables e below (T'.setTop g') t → Steps p.tables e below (T.setTop g) t) (h : own_Go p e below P T' g') : own_Go p e below P T g := by
  obtain ⟨t, o, st, q⟩ := h
  exact ⟨t, o, k t st, q⟩
theorem own_via (k : Steps p.tables e below (T.setTop g) (T'.setTop g')) (h : own_Go p e below P T' g') : own_Go p e below P T g := own_by (fun _ st => k.trans st) h
theorem own_in (q : g = g') (h : own_Go p e below P T g') : own_Go p e below P T g := q ▸ h
theorem own_out {v : Option Value} {Q : Option Value → Heap → List Loc → Prop} (X : Stand p l e R s m args below meth c T locs cells slots) (hv : meth.sig.returnType = none → v = none) (hlk : meth.locks = false) (hc : cells ≤ R.cells) (hs : slots ≤ R.slots) (q : Q v T.heap locs)
    (k : ∀ fs, (∀ (f : JFrame) (acts : List Action), f.method = m → f.locked = none → f.entered = [] → (doReturn e (T.setTop f) acts v).1 = T.setFrames fs) → Steps p.tables e below (T.setTop g) (T.setFrames fs)) : own_Go p e below (own_P s below R Q) T g := by
  obtain ⟨fs, hr, hrun, hended, hW, hsame⟩ := X.leave (v := v) hv hlk
  exact ⟨_, _, k fs hr, hrun, hended, _, _, rfl, q, ⟨_, rfl⟩, hW, hsame.mono hc hs⟩
theorem own_some {t : FieldType} {w : Value} (h : meth.sig.returnType = some t) : meth.sig.returnType = none → some w = none := fun q => by rw [h] at q; cases q
theorem own_retN {pc : Nat} {Ls : Array Slot} {z : Int32} {t : FieldType} {rest : List Value} {Q : Option Value → Heap → List Loc → Prop} (X : Stand p l e R s m args below meth c T locs cells slots) (hx : p.tables.exec = Jvm.exec) (hret : meth.sig.returnType = some t) (ht : t = .boolean ∨ t = .byte ∨ t = .char ∨ t = .short)
    (hd : decode c.code pc = .ok (.ireturn, 1)) (hlk : meth.locks = false) (hc : cells ≤ R.cells) (hs : slots ≤ R.slots) (q : Q (some (.int (nar t z))) T.heap locs) : own_Go p e below (own_P s below R Q) T (mkF m pc Ls (.int z :: rest)) :=
  own_out X (own_some hret) hlk hc hs q fun _ hr => retN X hx hret ht hd hr
theorem own_retI {pc : Nat} {Ls : Array Slot} {z : Int32} {rest : List Value} {Q : Option Value → Heap → List Loc → Prop} (X : Stand p l e R s m args below meth c T locs cells slots) (hx : p.tables.exec = Jvm.exec) (hret : meth.sig.returnType = some .int)
    (hd : decode c.code pc = .ok (.ireturn, 1)) (hlk : meth.locks = false) (hc : cells ≤ R.cells) (hs : slots ≤ R.slots) (q : Q (some (.int z)) T.heap locs) : own_Go p e below (own_P s below R Q) T (mkF m pc Ls (.int z :: rest)) :=
  own_out X (own_some hret) hlk hc hs q fun _ hr => retOut X hx hret rfl (Or.inl ⟨rfl, Or.inl rfl, _, rfl⟩) hd hr
theorem own_retJ {pc : Nat} {Ls : Array Slot} {z : Int64} {rest : List Value} {Q : Option Value → Heap → List Loc → Prop} (X : Stand p l e R s m args below meth c T locs cells slots) (hx : p.tables.exec = Jvm.exec) (hret : meth.sig.returnType = some .long)
    (hd : decode c.code pc = .ok (.lreturn, 1)) (hlk : meth.locks = false) (hc : cells ≤ R.cells) (hs : slots ≤ R.slots) (q : Q (some (.long z)) T.heap locs) : own_Go p e below (own_P s below R Q) T (mkF m pc Ls (.long z :: rest)) :=
  own_out X (own_some hret) hlk hc hs q fun _ hr => retOut X hx hret rfl (Or.inr (Or.inl ⟨rfl, rfl, _, rfl⟩)) hd hr
theorem own_retR {pc : Nat} {Ls : Array Slot} {w : Value} {t : FieldType} {rest : List Value} {Q : Option Value → Heap → List Loc → Prop} (X : Stand p l e R s m args below meth c T locs cells slots) (hx : p.tables.exec = Jvm.exec) (hret : meth.sig.returnType = some t) (ht : t.isReference = true) (hw : w.isRef = true) (hn : narrow t w = w)
    (hd : decode c.code pc = .ok (.areturn, 1)) (hlk : meth.locks = false) (hc : cells ≤ R.cells) (hs : slots ≤ R.slots) (q : Q (some w) T.heap locs) : own_Go p e below (own_P s below R Q) T (mkF m pc Ls (w :: rest)) :=
  own_out X (own_some hret) hlk hc hs q fun _ hr => retOut X hx hret hn (Or.inr (Or.inr (Or.inr (Or.inr ⟨rfl, ht, hw⟩)))) hd hr
theorem own_ret0 {pc : Nat} {Ls : Array Slot} {Q : Option Value → Heap → List Loc → Prop} (X : Stand p l e R s m args below meth c T locs cells slots) (hx : p.tables.exec = Jvm.exec) (hret : meth.sig.returnType = none)
    (hd : decode c.code pc = .ok (.return_, 1)) (hlk : meth.locks = false) (hc : cells ≤ R.cells) (hs : slots ≤ R.slots) (q : Q none T.heap locs) : own_Go p e below (own_P s below R Q) T (mkF m pc Ls []) :=
  own_out X (fun _ => rfl) hlk hc hs q fun _ hr => X.returnOut hx hret hd hr
theorem own_fitsR {C : String} {v : Value} (h : v.isRef = true) : fits (.object C) v = true := by
  cases v <;> first | rfl | (simp [Value.isRef] at h)
theorem own_tab (xs : List Int32) (d : Int32) (k : Nat) : (xs.map Value.int).getD k (.int d) = .int (xs.getD k d) := by
  simp only [List.getD_eq_getElem?_getD, List.getElem?_map]
  cases xs[k]? <;> rfl
end OwnKit
theorem d1_0 : decode method_2_code 0 = .ok (.lload_n 0, 1) := by decide +kernel
theorem d1_1 : decode method_2_code 1 = .ok (.lconst 0, 1) := by decide +kernel
theorem d1_2 : decode method_2_code 2 = .ok (.lcmp, 1) := by decide +kernel
theorem d1_3 : decode method_2_code 3 = .ok (.ifCond .ge 7, 3) := by decide +kernel
theorem d1_6 : decode method_2_code 6 = .ok (.iconst 1, 1) := by decide +kernel
theorem d1_7 : decode method_2_code 7 = .ok (.goto 4, 3) := by decide +kernel
theorem d1_10 : decode method_2_code 10 = .ok (.iconst 0, 1) := by decide +kernel
theorem d1_11 : decode method_2_code 11 = .ok (.istore 4, 2) := by decide +kernel
theorem d1_13 : decode method_2_code 13 = .ok (.lload_n 2, 1) := by decide +kernel
theorem d1_14 : decode method_2_code 14 = .ok (.lconst 0, 1) := by decide +kernel
theorem d1_15 : decode method_2_code 15 = .ok (.lcmp, 1) := by decide +kernel
theorem d1_16 : decode method_2_code 16 = .ok (.ifCond .ge 7, 3) := by decide +kernel
theorem d1_19 : decode method_2_code 19 = .ok (.iconst 1, 1) := by decide +kernel
theorem d1_20 : decode method_2_code 20 = .ok (.goto 4, 3) := by decide +kernel
theorem d1_23 : decode method_2_code 23 = .ok (.iconst 0, 1) := by decide +kernel
theorem d1_24 : decode method_2_code 24 = .ok (.istore 5, 2) := by decide +kernel
theorem d1_26 : decode method_2_code 26 = .ok (.iload 4, 2) := by decide +kernel
theorem d1_28 : decode method_2_code 28 = .ok (.iload 5, 2) := by decide +kernel
theorem d1_30 : decode method_2_code 30 = .ok (.if_icmp .eq 14, 3) := by decide +kernel
theorem d1_44 : decode method_2_code 44 = .ok (.lload_n 0, 1) := by decide +kernel
theorem d1_45 : decode method_2_code 45 = .ok (.lload_n 2, 1) := by decide +kernel
theorem d1_46 : decode method_2_code 46 = .ok (.lcmp, 1) := by decide +kernel
theorem d1_47 : decode method_2_code 47 = .ok (.ifCond .ge 5, 3) := by decide +kernel
theorem d1_50 : decode method_2_code 50 = .ok (.iconst (-1), 1) := by decide +kernel
theorem d1_51 : decode method_2_code 51 = .ok (.ireturn, 1) := by decide +kernel
theorem d1_52 : decode method_2_code 52 = .ok (.lload_n 0, 1) := by decide +kernel
theorem d1_53 : decode method_2_code 53 = .ok (.lload_n 2, 1) := by decide +kernel
theorem d1_54 : decode method_2_code 54 = .ok (.lcmp, 1) := by decide +kernel
theorem d1_55 : decode method_2_code 55 = .ok (.ifCond .le 5, 3) := by decide +kernel
theorem d1_58 : decode method_2_code 58 = .ok (.iconst 1, 1) := by decide +kernel
theorem d1_59 : decode method_2_code 59 = .ok (.ireturn, 1) := by decide +kernel
theorem d1_60 : decode method_2_code 60 = .ok (.iconst 0, 1) := by decide +kernel
theorem d1_61 : decode method_2_code 61 = .ok (.ireturn, 1) := by decide +kernel
theorem d1_33 : decode method_2_code 33 = .ok (.iload 4, 2) := by decide +kernel
theorem d1_35 : decode method_2_code 35 = .ok (.ifCond .eq 7, 3) := by decide +kernel
theorem d1_42 : decode method_2_code 42 = .ok (.iconst (-1), 1) := by decide +kernel
theorem d1_38 : decode method_2_code 38 = .ok (.iconst 1, 1) := by decide +kernel
theorem d1_39 : decode method_2_code 39 = .ok (.goto 4, 3) := by decide +kernel
theorem d1_43 : decode method_2_code 43 = .ok (.ireturn, 1) := by decide +kernel
theorem pn_com_example_vacant_errand_vacanterrand_PackedIdComparePinLaw : plainName "com/example/vacant_errand/vacanterrand/PackedIdComparePinLaw" = true := by first | (simp [plainName, overriddenIn]; done) | decide +kernel
def own_F1_24_2 (q1_0 : Int64) (q1_1 : Int64) (i2 : Int32) (i5 : Int32) : Int32 := (if i2 = i5 then (if q1_0 < q1_1 then (-1 : Int32) else (if q1_1 < q1_0 then (1 : Int32) else (0 : Int32))) else (if i2 = (0 : Int32) then (-1 : Int32) else (1 : Int32)))
def own_F1_11_1 (q1_0 : Int64) (q1_1 : Int64) (i2 : Int32) : Int32 := (if q1_1 < (0 : Int64) then (own_F1_24_2 q1_0 q1_1 i2 (1 : Int32)) else (own_F1_24_2 q1_0 q1_1 i2 (0 : Int32)))
def own_F1 (q1_0 : Int64) (q1_1 : Int64) : Int32 := (if q1_0 < (0 : Int64) then (own_F1_11_1 q1_0 q1_1 (1 : Int32)) else (own_F1_11_1 q1_0 q1_1 (0 : Int32)))
theorem own_ef1 (m : MethodId) (x0 : Int64) (x1 : Int64) : entryFrame m #[(.long x0), (.long x1)] 6 = mkF m 0 #[.val (.long x0), .second, .val (.long x1), .second, .unset, .unset] [] := by first | (simp [entryFrame, mkF, argsToLocals, Value.category]; done) | rfl
def own_Q1 (r : Int32) (h0 : Heap) (n0 : Nat) (v : Option Value) (h : Heap) (L : List Loc) : Prop := v = some (.int r) ∧ Fr n0 L ∧ h = h0
set_option maxRecDepth 65536 in
set_option maxHeartbeats 40000000 in
theorem own_rm1 (l : Launch) (Z : State) (a0 : Array Value) (hw : ∀ d ∈ tables_1, d.before a0 Z = true) (ws : List Jvm.Cond) (q1_0 : Int64) (q1_1 : Int64) (h0 : Heap) (n0 : Nat) (Z0 : n0 ≤ h0.size) :
    MetFree l (⟨"com/example/vacant_errand/vacanterrand/PackedIdComparePinLaw", "unsignedOrder", "(JJ)I"⟩ : MethodName) (head1 (Jvm.Cond.code (⟨"com/example/vacant_errand/vacanterrand/PackedIdComparePinLaw", "unsignedOrder", "(JJ)I"⟩ : MethodName) method_2_code 6 (some .int) :: ws) ({ frames := 0, cells := 0, slots := 0, locals := 0 } : Room)) (fun a U => a = #[(.long q1_0), (.long q1_1)] ∧ Z.Warmed39 U.vm ∧ U.heap = h0) (fun _ _ _ _ _ => True) (fun _ U o U' => ∃ v L, o = .returned v ∧ own_Q1 (own_F1 q1_0 q1_1) h0 n0 v U'.heap L ∧ FrameEnd U o U' L ({ frames := 0, cells := 0, slots := 0, locals := 0 } : Room).cells ({ frames := 0, cells := 0, slots := 0, locals := 0 } : Room).slots) := by
  refine MetFree.of_bodySF (plainFor_of_name pn_com_example_vacant_errand_vacanterrand_PackedIdComparePinLaw) hisR ?_
  intro p e s m args below meth c s₁ Bd hml0 hP hK
  obtain ⟨rfl, hZ, hh⟩ := hP
  have hx := Bd.exec
  have hby := Bd.bytes
  have hlk : meth.locks = false := BodyLoose.notSynchronized Bd
  have hml : c.maxLocals = 6 := hml0
  have hown : s.vm.findClass "com/example/vacant_errand/vacanterrand/PackedIdComparePinLaw" = some m.cls := findClass_of_methodNamed Bd.named
  have hnm := (name_of_methodNamed Bd.named Bd.method).1
  have X0 : Stand p l e ({ frames := 0, cells := 0, slots := 0, locals := 0 } : Room) s m #[(.long q1_0), (.long q1_1)] below meth c s₁ [] 0 0 := Stand.of_body Bd
  have e0 : s₁.heap = h0 := by rw [← hh, Bd.state]; rfl
  have N0 := Fr.nil n0
  show own_Go p e below (own_P s below ({ frames := 0, cells := 0, slots := 0, locals := 0 } : Room) (own_Q1 (own_F1 q1_0 q1_1) h0 n0)) s₁ (entryFrame m #[(.long q1_0), (.long q1_1)] 6)
  refine own_in (own_ef1 m q1_0 q1_1) ?_
  refine own_by (T' := s₁) (g' := (mkF m 3 #[.val (.long q1_0), .second, .val (.long q1_1), .second, .unset, .unset] [(.int (lcmpW q1_0 (0 : Int64)))])) (fun t k => ?_) ?_
  · show Steps p.tables e below (s₁.setTop (mkF m 0 #[.val (.long q1_0), .second, .val (.long q1_1), .second, .unset, .unset] [])) t
    refine XS.lloadN X0.here hx rfl (hb hby d1_0) rfl ?_
    show Steps p.tables e below (s₁.setTop (mkF m 1 #[.val (.long q1_0), .second, .val (.long q1_1), .second, .unset, .unset] [(.long q1_0)])) t
    refine XS.lconst X0.here hx rfl (hb hby d1_1) ?_
    show Steps p.tables e below (s₁.setTop (mkF m 2 #[.val (.long q1_0), .second, .val (.long q1_1), .second, .unset, .unset] [(.long (0 : Int64)), (.long q1_0)])) t
    refine XS.lcmp X0.here hx rfl (hb hby d1_2) rfl ?_
    show Steps p.tables e below (s₁.setTop (mkF m 3 #[.val (.long q1_0), .second, .val (.long q1_1), .second, .unset, .unset] [(.int (lcmpW q1_0 (0 : Int64)))])) t
    exact k
  have J1_1 : ∀ (T3 : State) (L3 : List Loc) (i2 : Int32), Stand p l e ({ frames := 0, cells := 0, slots := 0, locals := 0 } : Room) s m #[(.long q1_0), (.long q1_1)] below meth c T3 L3 0 0 → T3.heap = h0 → Fr n0 L3 → own_Go p e below (own_P s below ({ frames := 0, cells := 0, slots := 0, locals := 0 } : Room) (own_Q1 (own_F1_11_1 q1_0 q1_1 i2) h0 n0)) T3 (mkF m 11 #[.val (.long q1_0), .second, .val (.long q1_1), .second, .unset, .unset] [(.int i2)]) := by
    intro T3 L3 i2 X3 e3 N3
    refine own_by (T' := T3) (g' := (mkF m 16 #[.val (.long q1_0), .second, .val (.long q1_1), .second, .val (.int i2), .unset] [(.int (lcmpW q1_1 (0 : Int64)))])) (fun t k => ?_) ?_
    · show Steps p.tables e below (T3.setTop (mkF m 11 #[.val (.long q1_0), .second, .val (.long q1_1), .second, .unset, .unset] [(.int i2)])) t
      refine XS.istore X3.here hx rfl (hb hby d1_11) rfl (l' := #[.val (.long q1_0), .second, .val (.long q1_1), .second, .val (.int i2), .unset]) rfl ?_
      show Steps p.tables e below (T3.setTop (mkF m 13 #[.val (.long q1_0), .second, .val (.long q1_1), .second, .val (.int i2), .unset] [])) t
      refine XS.lloadN X3.here hx rfl (hb hby d1_13) rfl ?_
      show Steps p.tables e below (T3.setTop (mkF m 14 #[.val (.long q1_0), .second, .val (.long q1_1), .second, .val (.int i2), .unset] [(.long q1_1)])) t
      refine XS.lconst X3.here hx rfl (hb hby d1_14) ?_
      show Steps p.tables e below (T3.setTop (mkF m 15 #[.val (.long q1_0), .second, .val (.long q1_1), .second, .val (.int i2), .unset] [(.long (0 : Int64)), (.long q1_1)])) t
      refine XS.lcmp X3.here hx rfl (hb hby d1_15) rfl ?_
      show Steps p.tables e below (T3.setTop (mkF m 16 #[.val (.long q1_0), .second, .val (.long q1_1), .second, .val (.int i2), .unset] [(.int (lcmpW q1_1 (0 : Int64)))])) t
      exact k
    have J1_2 : ∀ (T6 : State) (L6 : List Loc) (i5 : Int32), Stand p l e ({ frames := 0, cells := 0, slots := 0, locals := 0 } : Room) s m #[(.long q1_0), (.long q1_1)] below meth c T6 L6 0 0 → T6.heap = h0 → Fr n0 L6 → own_Go p e below (own_P s below ({ frames := 0, cells := 0, slots := 0, locals := 0 } : Room) (own_Q1 (own_F1_24_2 q1_0 q1_1 i2 i5) h0 n0)) T6 (mkF m 24 #[.val (.long q1_0), .second, .val (.long q1_1), .second, .val (.int i2), .unset] [(.int i5)]) := by
      intro T6 L6 i5 X6 e6 N6
      refine own_by (T' := T6) (g' := (mkF m 30 #[.val (.long q1_0), .second, .val (.long q1_1), .second, .val (.int i2), .val (.int i5)] [(.int i5), (.int i2)])) (fun t k => ?_) ?_
      · show Steps p.tables e below (T6.setTop (mkF m 24 #[.val (.long q1_0), .second, .val (.long q1_1), .second, .val (.int i2), .unset] [(.int i5)])) t
        refine XS.istore X6.here hx rfl (hb hby d1_24) rfl (l' := #[.val (.long q1_0), .second, .val (.long q1_1), .second, .val (.int i2), .val (.int i5)]) rfl ?_
        show Steps p.tables e below (T6.setTop (mkF m 26 #[.val (.long q1_0), .second, .val (.long q1_1), .second, .val (.int i2), .val (.int i5)] [])) t
        refine XS.iload X6.here hx rfl (hb hby d1_26) rfl ?_
        show Steps p.tables e below (T6.setTop (mkF m 28 #[.val (.long q1_0), .second, .val (.long q1_1), .second, .val (.int i2), .val (.int i5)] [(.int i2)])) t
        refine XS.iload X6.here hx rfl (hb hby d1_28) rfl ?_
        show Steps p.tables e below (T6.setTop (mkF m 30 #[.val (.long q1_0), .second, .val (.long q1_1), .second, .val (.int i2), .val (.int i5)] [(.int i5), (.int i2)])) t
        exact k
      by_cases hc7 : i2 = i5
      · skip
        refine own_by (T' := T6) (g' := (mkF m 47 #[.val (.long q1_0), .second, .val (.long q1_1), .second, .val (.int i2), .val (.int i5)] [(.int (lcmpW q1_0 q1_1))])) (fun t k => ?_) ?_
        · show Steps p.tables e below (T6.setTop (mkF m 30 #[.val (.long q1_0), .second, .val (.long q1_1), .second, .val (.int i2), .val (.int i5)] [(.int i5), (.int i2)])) t
          refine XS.icmpYes X6.here hx rfl (pc0 := 30) (pc' := 44) rfl (hb hby d1_30) rfl (teq hc7).1 (by decide) (by decide) ?_
          show Steps p.tables e below (T6.setTop (mkF m 44 #[.val (.long q1_0), .second, .val (.long q1_1), .second, .val (.int i2), .val (.int i5)] [])) t
          refine XS.lloadN X6.here hx rfl (hb hby d1_44) rfl ?_
          show Steps p.tables e below (T6.setTop (mkF m 45 #[.val (.long q1_0), .second, .val (.long q1_1), .second, .val (.int i2), .val (.int i5)] [(.long q1_0)])) t
          refine XS.lloadN X6.here hx rfl (hb hby d1_45) rfl ?_
          show Steps p.tables e below (T6.setTop (mkF m 46 #[.val (.long q1_0), .second, .val (.long q1_1), .second, .val (.int i2), .val (.int i5)] [(.long q1_1), (.long q1_0)])) t
          refine XS.lcmp X6.here hx rfl (hb hby d1_46) rfl ?_
          show Steps p.tables e below (T6.setTop (mkF m 47 #[.val (.long q1_0), .second, .val (.long q1_1), .second, .val (.int i2), .val (.int i5)] [(.int (lcmpW q1_0 q1_1))])) t
          exact k
        by_cases hc8 : q1_0 < q1_1
        · skip
          refine own_by (T' := T6) (g' := (mkF m 51 #[.val (.long q1_0), .second, .val (.long q1_1), .second, .val (.int i2), .val (.int i5)] [(.int (-1 : Int32))])) (fun t k => ?_) ?_
          · show Steps p.tables e below (T6.setTop (mkF m 47 #[.val (.long q1_0), .second, .val (.long q1_1), .second, .val (.int i2), .val (.int i5)] [(.int (lcmpW q1_0 q1_1))])) t
            refine XS.ifNo X6.here hx rfl (hb hby d1_47) rfl ((if0 _ _).trans (tlt ((lw_lt _ _).mpr hc8)).2.1) ?_
            show Steps p.tables e below (T6.setTop (mkF m 50 #[.val (.long q1_0), .second, .val (.long q1_1), .second, .val (.int i2), .val (.int i5)] [])) t
            refine XS.iconst X6.here hx rfl (hb hby d1_50) ?_
            show Steps p.tables e below (T6.setTop (mkF m 51 #[.val (.long q1_0), .second, .val (.long q1_1), .second, .val (.int i2), .val (.int i5)] [(.int (-1 : Int32))])) t
            exact k
          rw [show own_F1_24_2 q1_0 q1_1 i2 i5 = (-1 : Int32) from ((if_pos hc7).trans ((if_pos hc8).trans rfl))]
          exact own_retI X6 hx Bd.returns (hb hby d1_51) hlk (by decide) (by decide) ⟨rfl, N6, e6⟩
        · skip
          refine own_by (T' := T6) (g' := (mkF m 55 #[.val (.long q1_0), .second, .val (.long q1_1), .second, .val (.int i2), .val (.int i5)] [(.int (lcmpW q1_0 q1_1))])) (fun t k => ?_) ?_
          · show Steps p.tables e below (T6.setTop (mkF m 47 #[.val (.long q1_0), .second, .val (.long q1_1), .second, .val (.int i2), .val (.int i5)] [(.int (lcmpW q1_0 q1_1))])) t
            refine XS.ifYes X6.here hx rfl (pc0 := 47) (pc' := 52) rfl (hb hby d1_47) rfl ((if0 _ _).trans (flt (fun q => hc8 ((lw_lt _ _).mp q))).2.1) (by decide) (by decide) ?_
            show Steps p.tables e below (T6.setTop (mkF m 52 #[.val (.long q1_0), .second, .val (.long q1_1), .second, .val (.int i2), .val (.int i5)] [])) t
            refine XS.lloadN X6.here hx rfl (hb hby d1_52) rfl ?_
            show Steps p.tables e below (T6.setTop (mkF m 53 #[.val (.long q1_0), .second, .val (.long q1_1), .second, .val (.int i2), .val (.int i5)] [(.long q1_0)])) t
            refine XS.lloadN X6.here hx rfl (hb hby d1_53) rfl ?_
            show Steps p.tables e below (T6.setTop (mkF m 54 #[.val (.long q1_0), .second, .val (.long q1_1), .second, .val (.int i2), .val (.int i5)] [(.long q1_1), (.long q1_0)])) t
            refine XS.lcmp X6.here hx rfl (hb hby d1_54) rfl ?_
            show Steps p.tables e below (T6.setTop (mkF m 55 #[.val (.long q1_0), .second, .val (.long q1_1), .second, .val (.int i2), .val (.int i5)] [(.int (lcmpW q1_0 q1_1))])) t
            exact k
          by_cases hc9 : q1_1 < q1_0
          · skip
            refine own_by (T' := T6) (g' := (mkF m 59 #[.val (.long q1_0), .second, .val (.long q1_1), .second, .val (.int i2), .val (.int i5)] [(.int (1 : Int32))])) (fun t k => ?_) ?_
            · show Steps p.tables e below (T6.setTop (mkF m 55 #[.val (.long q1_0), .second, .val (.long q1_1), .second, .val (.int i2), .val (.int i5)] [(.int (lcmpW q1_0 q1_1))])) t
              refine XS.ifNo X6.here hx rfl (hb hby d1_55) rfl ((if0 _ _).trans (tlt ((lw_gt _ _).mpr hc9)).2.2.2) ?_
              show Steps p.tables e below (T6.setTop (mkF m 58 #[.val (.long q1_0), .second, .val (.long q1_1), .second, .val (.int i2), .val (.int i5)] [])) t
              refine XS.iconst X6.here hx rfl (hb hby d1_58) ?_
              show Steps p.tables e below (T6.setTop (mkF m 59 #[.val (.long q1_0), .second, .val (.long q1_1), .second, .val (.int i2), .val (.int i5)] [(.int (1 : Int32))])) t
              exact k
            rw [show own_F1_24_2 q1_0 q1_1 i2 i5 = (1 : Int32) from ((if_pos hc7).trans ((if_neg hc8).trans ((if_pos hc9).trans rfl)))]
            exact own_retI X6 hx Bd.returns (hb hby d1_59) hlk (by decide) (by decide) ⟨rfl, N6, e6⟩
          · skip
            refine own_by (T' := T6) (g' := (mkF m 61 #[.val (.long q1_0), .second, .val (.long q1_1), .second, .val (.int i2), .val (.int i5)] [(.int (0 : Int32))])) (fun t k => ?_) ?_
            · show Steps p.tables e below (T6.setTop (mkF m 55 #[.val (.long q1_0), .second, .val (.long q1_1), .second, .val (.int i2), .val (.int i5)] [(.int (lcmpW q1_0 q1_1))])) t
              refine XS.ifYes X6.here hx rfl (pc0 := 55) (pc' := 60) rfl (hb hby d1_55) rfl ((if0 _ _).trans (flt (fun q => hc9 ((lw_gt _ _).mp q))).2.2.2) (by decide) (by decide) ?_
              show Steps p.tables e below (T6.setTop (mkF m 60 #[.val (.long q1_0), .second, .val (.long q1_1), .second, .val (.int i2), .val (.int i5)] [])) t
              refine XS.iconst X6.here hx rfl (hb hby d1_60) ?_
              show Steps p.tables e below (T6.setTop (mkF m 61 #[.val (.long q1_0), .second, .val (.long q1_1), .second, .val (.int i2), .val (.int i5)] [(.int (0 : Int32))])) t
              exact k
            rw [show own_F1_24_2 q1_0 q1_1 i2 i5 = (0 : Int32) from ((if_pos hc7).trans ((if_neg hc8).trans ((if_neg hc9).trans rfl)))]
            exact own_retI X6 hx Bd.returns (hb hby d1_61) hlk (by decide) (by decide) ⟨rfl, N6, e6⟩
      · skip
        refine own_by (T' := T6) (g' := (mkF m 35 #[.val (.long q1_0), .second, .val (.long q1_1), .second, .val (.int i2), .val (.int i5)] [(.int i2)])) (fun t k => ?_) ?_
        · show Steps p.tables e below (T6.setTop (mkF m 30 #[.val (.long q1_0), .second, .val (.long q1_1), .second, .val (.int i2), .val (.int i5)] [(.int i5), (.int i2)])) t
          refine XS.icmpNo X6.here hx rfl (hb hby d1_30) rfl (feq hc7).1 ?_
          show Steps p.tables e below (T6.setTop (mkF m 33 #[.val (.long q1_0), .second, .val (.long q1_1), .second, .val (.int i2), .val (.int i5)] [])) t
          refine XS.iload X6.here hx rfl (hb hby d1_33) rfl ?_
          show Steps p.tables e below (T6.setTop (mkF m 35 #[.val (.long q1_0), .second, .val (.long q1_1), .second, .val (.int i2), .val (.int i5)] [(.int i2)])) t
          exact k
        by_cases hc10 : i2 = (0 : Int32)
        · skip
          refine own_by (T' := T6) (g' := (mkF m 43 #[.val (.long q1_0), .second, .val (.long q1_1), .second, .val (.int i2), .val (.int i5)] [(.int (-1 : Int32))])) (fun t k => ?_) ?_
          · show Steps p.tables e below (T6.setTop (mkF m 35 #[.val (.long q1_0), .second, .val (.long q1_1), .second, .val (.int i2), .val (.int i5)] [(.int i2)])) t
            refine XS.ifYes X6.here hx rfl (pc0 := 35) (pc' := 42) rfl (hb hby d1_35) rfl ((if0 _ _).trans (teq hc10).1) (by decide) (by decide) ?_
            show Steps p.tables e below (T6.setTop (mkF m 42 #[.val (.long q1_0), .second, .val (.long q1_1), .second, .val (.int i2), .val (.int i5)] [])) t
            refine XS.iconst X6.here hx rfl (hb hby d1_42) ?_
            show Steps p.tables e below (T6.setTop (mkF m 43 #[.val (.long q1_0), .second, .val (.long q1_1), .second, .val (.int i2), .val (.int i5)] [(.int (-1 : Int32))])) t
            exact k
          rw [show own_F1_24_2 q1_0 q1_1 i2 i5 = (-1 : Int32) from ((if_neg hc7).trans ((if_pos hc10).trans rfl))]
          exact own_retI X6 hx Bd.returns (hb hby d1_43) hlk (by decide) (by decide) ⟨rfl, N6, e6⟩
        · skip
          refine own_by (T' := T6) (g' := (mkF m 43 #[.val (.long q1_0), .second, .val (.long q1_1), .second, .val (.int i2), .val (.int i5)] [(.int (1 : Int32))])) (fun t k => ?_) ?_
          · show Steps p.tables e below (T6.setTop (mkF m 35 #[.val (.long q1_0), .second, .val (.long q1_1), .second, .val (.int i2), .val (.int i5)] [(.int i2)])) t
            refine XS.ifNo X6.here hx rfl (hb hby d1_35) rfl ((if0 _ _).trans (feq hc10).1) ?_
            show Steps p.tables e below (T6.setTop (mkF m 38 #[.val (.long q1_0), .second, .val (.long q1_1), .second, .val (.int i2), .val (.int i5)] [])) t
            refine XS.iconst X6.here hx rfl (hb hby d1_38) ?_
            show Steps p.tables e below (T6.setTop (mkF m 39 #[.val (.long q1_0), .second, .val (.long q1_1), .second, .val (.int i2), .val (.int i5)] [(.int (1 : Int32))])) t
            refine XS.goto X6.here hx rfl (pc0 := 39) (pc' := 43) rfl (hb hby d1_39) (by decide) (by decide) ?_
            show Steps p.tables e below (T6.setTop (mkF m 43 #[.val (.long q1_0), .second, .val (.long q1_1), .second, .val (.int i2), .val (.int i5)] [(.int (1 : Int32))])) t
            exact k
          rw [show own_F1_24_2 q1_0 q1_1 i2 i5 = (1 : Int32) from ((if_neg hc7).trans ((if_neg hc10).trans rfl))]
          exact own_retI X6 hx Bd.returns (hb hby d1_43) hlk (by decide) (by decide) ⟨rfl, N6, e6⟩
    by_cases hc4 : q1_1 < (0 : Int64)
    · skip
      refine own_by (T' := T3) (g' := (mkF m 24 #[.val (.long q1_0), .second, .val (.long q1_1), .second, .val (.int i2), .unset] [(.int (1 : Int32))])) (fun t k => ?_) ?_
      · show Steps p.tables e below (T3.setTop (mkF m 16 #[.val (.long q1_0), .second, .val (.long q1_1), .second, .val (.int i2), .unset] [(.int (lcmpW q1_1 (0 : Int64)))])) t
        refine XS.ifNo X3.here hx rfl (hb hby d1_16) rfl ((if0 _ _).trans (tlt ((lw_lt _ _).mpr hc4)).2.1) ?_
        show Steps p.tables e below (T3.setTop (mkF m 19 #[.val (.long q1_0), .second, .val (.long q1_1), .second, .val (.int i2), .unset] [])) t
        refine XS.iconst X3.here hx rfl (hb hby d1_19) ?_
        show Steps p.tables e below (T3.setTop (mkF m 20 #[.val (.long q1_0), .second, .val (.long q1_1), .second, .val (.int i2), .unset] [(.int (1 : Int32))])) t
        refine XS.goto X3.here hx rfl (pc0 := 20) (pc' := 24) rfl (hb hby d1_20) (by decide) (by decide) ?_
        show Steps p.tables e below (T3.setTop (mkF m 24 #[.val (.long q1_0), .second, .val (.long q1_1), .second, .val (.int i2), .unset] [(.int (1 : Int32))])) t
        exact k
      rw [show own_F1_11_1 q1_0 q1_1 i2 = (own_F1_24_2 q1_0 q1_1 i2 (1 : Int32)) from ((if_pos hc4).trans rfl)]
      exact J1_2 _ _ (1 : Int32) X3 e3 N3
    · skip
      refine own_by (T' := T3) (g' := (mkF m 24 #[.val (.long q1_0), .second, .val (.long q1_1), .second, .val (.int i2), .unset] [(.int (0 : Int32))])) (fun t k => ?_) ?_
      · show Steps p.tables e below (T3.setTop (mkF m 16 #[.val (.long q1_0), .second, .val (.long q1_1), .second, .val (.int i2), .unset] [(.int (lcmpW q1_1 (0 : Int64)))])) t
        refine XS.ifYes X3.here hx rfl (pc0 := 16) (pc' := 23) rfl (hb hby d1_16) rfl ((if0 _ _).trans (flt (fun q => hc4 ((lw_lt _ _).mp q))).2.1) (by decide) (by decide) ?_
        show Steps p.tables e below (T3.setTop (mkF m 23 #[.val (.long q1_0), .second, .val (.long q1_1), .second, .val (.int i2), .unset] [])) t
        refine XS.iconst X3.here hx rfl (hb hby d1_23) ?_
        show Steps p.tables e below (T3.setTop (mkF m 24 #[.val (.long q1_0), .second, .val (.long q1_1), .second, .val (.int i2), .unset] [(.int (0 : Int32))])) t
        exact k
      rw [show own_F1_11_1 q1_0 q1_1 i2 = (own_F1_24_2 q1_0 q1_1 i2 (0 : Int32)) from ((if_neg hc4).trans rfl)]
      exact J1_2 _ _ (0 : Int32) X3 e3 N3
  by_cases hc1 : q1_0 < (0 : Int64)
  · skip
    refine own_by (T' := s₁) (g' := (mkF m 11 #[.val (.long q1_0), .second, .val (.long q1_1), .second, .unset, .unset] [(.int (1 : Int32))])) (fun t k => ?_) ?_
    · show Steps p.tables e below (s₁.setTop (mkF m 3 #[.val (.long q1_0), .second, .val (.long q1_1), .second, .unset, .unset] [(.int (lcmpW q1_0 (0 : Int64)))])) t
      refine XS.ifNo X0.here hx rfl (hb hby d1_3) rfl ((if0 _ _).trans (tlt ((lw_lt _ _).mpr hc1)).2.1) ?_
      show Steps p.tables e below (s₁.setTop (mkF m 6 #[.val (.long q1_0), .second, .val (.long q1_1), .second, .unset, .unset] [])) t
      refine XS.iconst X0.here hx rfl (hb hby d1_6) ?_
      show Steps p.tables e below (s₁.setTop (mkF m 7 #[.val (.long q1_0), .second, .val (.long q1_1), .second, .unset, .unset] [(.int (1 : Int32))])) t
      refine XS.goto X0.here hx rfl (pc0 := 7) (pc' := 11) rfl (hb hby d1_7) (by decide) (by decide) ?_
      show Steps p.tables e below (s₁.setTop (mkF m 11 #[.val (.long q1_0), .second, .val (.long q1_1), .second, .unset, .unset] [(.int (1 : Int32))])) t
      exact k
    rw [show own_F1 q1_0 q1_1 = (own_F1_11_1 q1_0 q1_1 (1 : Int32)) from ((if_pos hc1).trans rfl)]
    exact J1_1 _ _ (1 : Int32) X0 e0 N0
  · skip
    refine own_by (T' := s₁) (g' := (mkF m 11 #[.val (.long q1_0), .second, .val (.long q1_1), .second, .unset, .unset] [(.int (0 : Int32))])) (fun t k => ?_) ?_
    · show Steps p.tables e below (s₁.setTop (mkF m 3 #[.val (.long q1_0), .second, .val (.long q1_1), .second, .unset, .unset] [(.int (lcmpW q1_0 (0 : Int64)))])) t
      refine XS.ifYes X0.here hx rfl (pc0 := 3) (pc' := 10) rfl (hb hby d1_3) rfl ((if0 _ _).trans (flt (fun q => hc1 ((lw_lt _ _).mp q))).2.1) (by decide) (by decide) ?_
      show Steps p.tables e below (s₁.setTop (mkF m 10 #[.val (.long q1_0), .second, .val (.long q1_1), .second, .unset, .unset] [])) t
      refine XS.iconst X0.here hx rfl (hb hby d1_10) ?_
      show Steps p.tables e below (s₁.setTop (mkF m 11 #[.val (.long q1_0), .second, .val (.long q1_1), .second, .unset, .unset] [(.int (0 : Int32))])) t
      exact k
    rw [show own_F1 q1_0 q1_1 = (own_F1_11_1 q1_0 q1_1 (0 : Int32)) from ((if_neg hc1).trans rfl)]
    exact J1_1 _ _ (0 : Int32) X0 e0 N0
theorem d5_0 : decode method_3_code 0 = .ok (.iload_n 0, 1) := by decide +kernel
theorem d5_1 : decode method_3_code 1 = .ok (.ifCond .ge 5, 3) := by decide +kernel
theorem d5_4 : decode method_3_code 4 = .ok (.iconst (-1), 1) := by decide +kernel
theorem d5_5 : decode method_3_code 5 = .ok (.ireturn, 1) := by decide +kernel
theorem d5_6 : decode method_3_code 6 = .ok (.iload_n 0, 1) := by decide +kernel
theorem d5_7 : decode method_3_code 7 = .ok (.ifCond .le 5, 3) := by decide +kernel
theorem d5_10 : decode method_3_code 10 = .ok (.iconst 1, 1) := by decide +kernel
theorem d5_11 : decode method_3_code 11 = .ok (.ireturn, 1) := by decide +kernel
theorem d5_12 : decode method_3_code 12 = .ok (.iconst 0, 1) := by decide +kernel
theorem d5_13 : decode method_3_code 13 = .ok (.ireturn, 1) := by decide +kernel
def own_F5 (p5_0 : Int32) : Int32 := (if p5_0 < (0 : Int32) then (-1 : Int32) else (if (0 : Int32) < p5_0 then (1 : Int32) else (0 : Int32)))
theorem own_ef5 (m : MethodId) (x0 : Int32) : entryFrame m #[(.int x0)] 1 = mkF m 0 #[.val (.int x0)] [] := by first | (simp [entryFrame, mkF, argsToLocals, Value.category]; done) | rfl
def own_Q5 (r : Int32) (h0 : Heap) (n0 : Nat) (v : Option Value) (h : Heap) (L : List Loc) : Prop := v = some (.int r) ∧ Fr n0 L ∧ h = h0
set_option maxRecDepth 65536 in
set_option maxHeartbeats 40000000 in
theorem own_rm5 (l : Launch) (Z : State) (a0 : Array Value) (hw : ∀ d ∈ tables_1, d.before a0 Z = true) (ws : List Jvm.Cond) (p5_0 : Int32) (h0 : Heap) (n0 : Nat) (Z0 : n0 ≤ h0.size) :
    MetFree l (⟨"com/example/vacant_errand/vacanterrand/PackedIdComparePinLaw", "sign", "(I)I"⟩ : MethodName) (head1 (Jvm.Cond.code (⟨"com/example/vacant_errand/vacanterrand/PackedIdComparePinLaw", "sign", "(I)I"⟩ : MethodName) method_3_code 1 (some .int) :: ws) ({ frames := 0, cells := 0, slots := 0, locals := 0 } : Room)) (fun a U => a = #[(.int p5_0)] ∧ Z.Warmed39 U.vm ∧ U.heap = h0) (fun _ _ _ _ _ => True) (fun _ U o U' => ∃ v L, o = .returned v ∧ own_Q5 (own_F5 p5_0) h0 n0 v U'.heap L ∧ FrameEnd U o U' L ({ frames := 0, cells := 0, slots := 0, locals := 0 } : Room).cells ({ frames := 0, cells := 0, slots := 0, locals := 0 } : Room).slots) := by
  refine MetFree.of_bodySF (plainFor_of_name pn_com_example_vacant_errand_vacanterrand_PackedIdComparePinLaw) hisR ?_
  intro p e s m args below meth c s₁ Bd hml0 hP hK
  obtain ⟨rfl, hZ, hh⟩ := hP
  have hx := Bd.exec
  have hby := Bd.bytes
  have hlk : meth.locks = false := BodyLoose.notSynchronized Bd
  have hml : c.maxLocals = 1 := hml0
  have hown : s.vm.findClass "com/example/vacant_errand/vacanterrand/PackedIdComparePinLaw" = some m.cls := findClass_of_methodNamed Bd.named
  have hnm := (name_of_methodNamed Bd.named Bd.method).1
  have X0 : Stand p l e ({ frames := 0, cells := 0, slots := 0, locals := 0 } : Room) s m #[(.int p5_0)] below meth c s₁ [] 0 0 := Stand.of_body Bd
  have e0 : s₁.heap = h0 := by rw [← hh, Bd.state]; rfl
  have N0 := Fr.nil n0
  show own_Go p e below (own_P s below ({ frames := 0, cells := 0, slots := 0, locals := 0 } : Room) (own_Q5 (own_F5 p5_0) h0 n0)) s₁ (entryFrame m #[(.int p5_0)] 1)
  refine own_in (own_ef5 m p5_0) ?_
  refine own_by (T' := s₁) (g' := (mkF m 1 #[.val (.int p5_0)] [(.int p5_0)])) (fun t k => ?_) ?_
  · show Steps p.tables e below (s₁.setTop (mkF m 0 #[.val (.int p5_0)] [])) t
    refine XS.iloadN X0.here hx rfl (hb hby d5_0) rfl ?_
    show Steps p.tables e below (s₁.setTop (mkF m 1 #[.val (.int p5_0)] [(.int p5_0)])) t
    exact k
  by_cases hc11 : p5_0 < (0 : Int32)
  · skip
    refine own_by (T' := s₁) (g' := (mkF m 5 #[.val (.int p5_0)] [(.int (-1 : Int32))])) (fun t k => ?_) ?_
    · show Steps p.tables e below (s₁.setTop (mkF m 1 #[.val (.int p5_0)] [(.int p5_0)])) t
      refine XS.ifNo X0.here hx rfl (hb hby d5_1) rfl ((if0 _ _).trans (tlt hc11).2.1) ?_
      show Steps p.tables e below (s₁.setTop (mkF m 4 #[.val (.int p5_0)] [])) t
      refine XS.iconst X0.here hx rfl (hb hby d5_4) ?_
      show Steps p.tables e below (s₁.setTop (mkF m 5 #[.val (.int p5_0)] [(.int (-1 : Int32))])) t
      exact k
    rw [show own_F5 p5_0 = (-1 : Int32) from ((if_pos hc11).trans rfl)]
    exact own_retI X0 hx Bd.returns (hb hby d5_5) hlk (by decide) (by decide) ⟨rfl, N0, e0⟩
  · skip
    refine own_by (T' := s₁) (g' := (mkF m 7 #[.val (.int p5_0)] [(.int p5_0)])) (fun t k => ?_) ?_
    · show Steps p.tables e below (s₁.setTop (mkF m 1 #[.val (.int p5_0)] [(.int p5_0)])) t
      refine XS.ifYes X0.here hx rfl (pc0 := 1) (pc' := 6) rfl (hb hby d5_1) rfl ((if0 _ _).trans (flt hc11).2.1) (by decide) (by decide) ?_
      show Steps p.tables e below (s₁.setTop (mkF m 6 #[.val (.int p5_0)] [])) t
      refine XS.iloadN X0.here hx rfl (hb hby d5_6) rfl ?_
      show Steps p.tables e below (s₁.setTop (mkF m 7 #[.val (.int p5_0)] [(.int p5_0)])) t
      exact k
    by_cases hc12 : (0 : Int32) < p5_0
    · skip
      refine own_by (T' := s₁) (g' := (mkF m 11 #[.val (.int p5_0)] [(.int (1 : Int32))])) (fun t k => ?_) ?_
      · show Steps p.tables e below (s₁.setTop (mkF m 7 #[.val (.int p5_0)] [(.int p5_0)])) t
        refine XS.ifNo X0.here hx rfl (hb hby d5_7) rfl ((if0 _ _).trans (tlt hc12).2.2.2) ?_
        show Steps p.tables e below (s₁.setTop (mkF m 10 #[.val (.int p5_0)] [])) t
        refine XS.iconst X0.here hx rfl (hb hby d5_10) ?_
        show Steps p.tables e below (s₁.setTop (mkF m 11 #[.val (.int p5_0)] [(.int (1 : Int32))])) t
        exact k
      rw [show own_F5 p5_0 = (1 : Int32) from ((if_neg hc11).trans ((if_pos hc12).trans rfl))]
      exact own_retI X0 hx Bd.returns (hb hby d5_11) hlk (by decide) (by decide) ⟨rfl, N0, e0⟩
    · skip
      refine own_by (T' := s₁) (g' := (mkF m 13 #[.val (.int p5_0)] [(.int (0 : Int32))])) (fun t k => ?_) ?_
      · show Steps p.tables e below (s₁.setTop (mkF m 7 #[.val (.int p5_0)] [(.int p5_0)])) t
        refine XS.ifYes X0.here hx rfl (pc0 := 7) (pc' := 12) rfl (hb hby d5_7) rfl ((if0 _ _).trans (flt hc12).2.2.2) (by decide) (by decide) ?_
        show Steps p.tables e below (s₁.setTop (mkF m 12 #[.val (.int p5_0)] [])) t
        refine XS.iconst X0.here hx rfl (hb hby d5_12) ?_
        show Steps p.tables e below (s₁.setTop (mkF m 13 #[.val (.int p5_0)] [(.int (0 : Int32))])) t
        exact k
      rw [show own_F5 p5_0 = (0 : Int32) from ((if_neg hc11).trans ((if_neg hc12).trans rfl))]
      exact own_retI X0 hx Bd.returns (hb hby d5_13) hlk (by decide) (by decide) ⟨rfl, N0, e0⟩
theorem d4_0 : decode jdk_35_method_42_code 0 = .ok (.lload_n 0, 1) := by decide +kernel
theorem d4_1 : decode jdk_35_method_42_code 1 = .ok (.lload_n 2, 1) := by decide +kernel
theorem d4_2 : decode jdk_35_method_42_code 2 = .ok (.lcmp, 1) := by decide +kernel
theorem d4_3 : decode jdk_35_method_42_code 3 = .ok (.ifCond .ge 7, 3) := by decide +kernel
theorem d4_6 : decode jdk_35_method_42_code 6 = .ok (.iconst (-1), 1) := by decide +kernel
theorem d4_7 : decode jdk_35_method_42_code 7 = .ok (.goto 14, 3) := by decide +kernel
theorem d4_10 : decode jdk_35_method_42_code 10 = .ok (.lload_n 0, 1) := by decide +kernel
theorem d4_11 : decode jdk_35_method_42_code 11 = .ok (.lload_n 2, 1) := by decide +kernel
theorem d4_12 : decode jdk_35_method_42_code 12 = .ok (.lcmp, 1) := by decide +kernel
theorem d4_13 : decode jdk_35_method_42_code 13 = .ok (.ifCond .ne 7, 3) := by decide +kernel
theorem d4_16 : decode jdk_35_method_42_code 16 = .ok (.iconst 0, 1) := by decide +kernel
theorem d4_17 : decode jdk_35_method_42_code 17 = .ok (.goto 4, 3) := by decide +kernel
theorem d4_20 : decode jdk_35_method_42_code 20 = .ok (.iconst 1, 1) := by decide +kernel
theorem d4_21 : decode jdk_35_method_42_code 21 = .ok (.ireturn, 1) := by decide +kernel
theorem pn_java_lang_Long : plainName "java/lang/Long" = true := by first | (simp [plainName, overriddenIn]; done) | decide +kernel
def own_F4 (q4_0 : Int64) (q4_1 : Int64) : Int32 := (if q4_0 < q4_1 then (-1 : Int32) else (if q4_0 = q4_1 then (0 : Int32) else (1 : Int32)))
theorem own_ef4 (m : MethodId) (x0 : Int64) (x1 : Int64) : entryFrame m #[(.long x0), (.long x1)] 4 = mkF m 0 #[.val (.long x0), .second, .val (.long x1), .second] [] := by first | (simp [entryFrame, mkF, argsToLocals, Value.category]; done) | rfl
def own_Q4 (r : Int32) (h0 : Heap) (n0 : Nat) (v : Option Value) (h : Heap) (L : List Loc) : Prop := v = some (.int r) ∧ Fr n0 L ∧ h = h0
set_option maxRecDepth 65536 in
set_option maxHeartbeats 40000000 in
theorem own_rm4 (l : Launch) (Z : State) (a0 : Array Value) (hw : ∀ d ∈ tables_1, d.before a0 Z = true) (ws : List Jvm.Cond) (q4_0 : Int64) (q4_1 : Int64) (h0 : Heap) (n0 : Nat) (Z0 : n0 ≤ h0.size) :
    MetFree l (⟨"java/lang/Long", "compare", "(JJ)I"⟩ : MethodName) (head1 (Jvm.Cond.code (⟨"java/lang/Long", "compare", "(JJ)I"⟩ : MethodName) jdk_35_method_42_code 4 (some .int) :: ws) ({ frames := 0, cells := 0, slots := 0, locals := 0 } : Room)) (fun a U => a = #[(.long q4_0), (.long q4_1)] ∧ Z.Warmed39 U.vm ∧ U.heap = h0) (fun _ _ _ _ _ => True) (fun _ U o U' => ∃ v L, o = .returned v ∧ own_Q4 (own_F4 q4_0 q4_1) h0 n0 v U'.heap L ∧ FrameEnd U o U' L ({ frames := 0, cells := 0, slots := 0, locals := 0 } : Room).cells ({ frames := 0, cells := 0, slots := 0, locals := 0 } : Room).slots) := by
  refine MetFree.of_bodySF (plainFor_of_name pn_java_lang_Long) hisR ?_
  intro p e s m args below meth c s₁ Bd hml0 hP hK
  obtain ⟨rfl, hZ, hh⟩ := hP
  have hx := Bd.exec
  have hby := Bd.bytes
  have hlk : meth.locks = false := BodyLoose.notSynchronized Bd
  have hml : c.maxLocals = 4 := hml0
  have hown : s.vm.findClass "java/lang/Long" = some m.cls := findClass_of_methodNamed Bd.named
  have hnm := (name_of_methodNamed Bd.named Bd.method).1
  have X0 : Stand p l e ({ frames := 0, cells := 0, slots := 0, locals := 0 } : Room) s m #[(.long q4_0), (.long q4_1)] below meth c s₁ [] 0 0 := Stand.of_body Bd
  have e0 : s₁.heap = h0 := by rw [← hh, Bd.state]; rfl
  have N0 := Fr.nil n0
  show own_Go p e below (own_P s below ({ frames := 0, cells := 0, slots := 0, locals := 0 } : Room) (own_Q4 (own_F4 q4_0 q4_1) h0 n0)) s₁ (entryFrame m #[(.long q4_0), (.long q4_1)] 4)
  refine own_in (own_ef4 m q4_0 q4_1) ?_
  refine own_by (T' := s₁) (g' := (mkF m 3 #[.val (.long q4_0), .second, .val (.long q4_1), .second] [(.int (lcmpW q4_0 q4_1))])) (fun t k => ?_) ?_
  · show Steps p.tables e below (s₁.setTop (mkF m 0 #[.val (.long q4_0), .second, .val (.long q4_1), .second] [])) t
    refine XS.lloadN X0.here hx rfl (hb hby d4_0) rfl ?_
    show Steps p.tables e below (s₁.setTop (mkF m 1 #[.val (.long q4_0), .second, .val (.long q4_1), .second] [(.long q4_0)])) t
    refine XS.lloadN X0.here hx rfl (hb hby d4_1) rfl ?_
    show Steps p.tables e below (s₁.setTop (mkF m 2 #[.val (.long q4_0), .second, .val (.long q4_1), .second] [(.long q4_1), (.long q4_0)])) t
    refine XS.lcmp X0.here hx rfl (hb hby d4_2) rfl ?_
    show Steps p.tables e below (s₁.setTop (mkF m 3 #[.val (.long q4_0), .second, .val (.long q4_1), .second] [(.int (lcmpW q4_0 q4_1))])) t
    exact k
  by_cases hc13 : q4_0 < q4_1
  · skip
    refine own_by (T' := s₁) (g' := (mkF m 21 #[.val (.long q4_0), .second, .val (.long q4_1), .second] [(.int (-1 : Int32))])) (fun t k => ?_) ?_
    · show Steps p.tables e below (s₁.setTop (mkF m 3 #[.val (.long q4_0), .second, .val (.long q4_1), .second] [(.int (lcmpW q4_0 q4_1))])) t
      refine XS.ifNo X0.here hx rfl (hb hby d4_3) rfl ((if0 _ _).trans (tlt ((lw_lt _ _).mpr hc13)).2.1) ?_
      show Steps p.tables e below (s₁.setTop (mkF m 6 #[.val (.long q4_0), .second, .val (.long q4_1), .second] [])) t
      refine XS.iconst X0.here hx rfl (hb hby d4_6) ?_
      show Steps p.tables e below (s₁.setTop (mkF m 7 #[.val (.long q4_0), .second, .val (.long q4_1), .second] [(.int (-1 : Int32))])) t
      refine XS.goto X0.here hx rfl (pc0 := 7) (pc' := 21) rfl (hb hby d4_7) (by decide) (by decide) ?_
      show Steps p.tables e below (s₁.setTop (mkF m 21 #[.val (.long q4_0), .second, .val (.long q4_1), .second] [(.int (-1 : Int32))])) t
      exact k
    rw [show own_F4 q4_0 q4_1 = (-1 : Int32) from ((if_pos hc13).trans rfl)]
    exact own_retI X0 hx Bd.returns (hb hby d4_21) hlk (by decide) (by decide) ⟨rfl, N0, e0⟩
  · skip
    refine own_by (T' := s₁) (g' := (mkF m 13 #[.val (.long q4_0), .second, .val (.long q4_1), .second] [(.int (lcmpW q4_0 q4_1))])) (fun t k => ?_) ?_
    · show Steps p.tables e below (s₁.setTop (mkF m 3 #[.val (.long q4_0), .second, .val (.long q4_1), .second] [(.int (lcmpW q4_0 q4_1))])) t
      refine XS.ifYes X0.here hx rfl (pc0 := 3) (pc' := 10) rfl (hb hby d4_3) rfl ((if0 _ _).trans (flt (fun q => hc13 ((lw_lt _ _).mp q))).2.1) (by decide) (by decide) ?_
      show Steps p.tables e below (s₁.setTop (mkF m 10 #[.val (.long q4_0), .second, .val (.long q4_1), .second] [])) t
      refine XS.lloadN X0.here hx rfl (hb hby d4_10) rfl ?_
      show Steps p.tables e below (s₁.setTop (mkF m 11 #[.val (.long q4_0), .second, .val (.long q4_1), .second] [(.long q4_0)])) t
      refine XS.lloadN X0.here hx rfl (hb hby d4_11) rfl ?_
      show Steps p.tables e below (s₁.setTop (mkF m 12 #[.val (.long q4_0), .second, .val (.long q4_1), .second] [(.long q4_1), (.long q4_0)])) t
      refine XS.lcmp X0.here hx rfl (hb hby d4_12) rfl ?_
      show Steps p.tables e below (s₁.setTop (mkF m 13 #[.val (.long q4_0), .second, .val (.long q4_1), .second] [(.int (lcmpW q4_0 q4_1))])) t
      exact k
    by_cases hc15 : q4_0 = q4_1
    · skip
      refine own_by (T' := s₁) (g' := (mkF m 21 #[.val (.long q4_0), .second, .val (.long q4_1), .second] [(.int (0 : Int32))])) (fun t k => ?_) ?_
      · show Steps p.tables e below (s₁.setTop (mkF m 13 #[.val (.long q4_0), .second, .val (.long q4_1), .second] [(.int (lcmpW q4_0 q4_1))])) t
        refine XS.ifNo X0.here hx rfl (hb hby d4_13) rfl ((if0 _ _).trans (teq ((lw_eq _ _).mpr hc15)).2) ?_
        show Steps p.tables e below (s₁.setTop (mkF m 16 #[.val (.long q4_0), .second, .val (.long q4_1), .second] [])) t
        refine XS.iconst X0.here hx rfl (hb hby d4_16) ?_
        show Steps p.tables e below (s₁.setTop (mkF m 17 #[.val (.long q4_0), .second, .val (.long q4_1), .second] [(.int (0 : Int32))])) t
        refine XS.goto X0.here hx rfl (pc0 := 17) (pc' := 21) rfl (hb hby d4_17) (by decide) (by decide) ?_
        show Steps p.tables e below (s₁.setTop (mkF m 21 #[.val (.long q4_0), .second, .val (.long q4_1), .second] [(.int (0 : Int32))])) t
        exact k
      rw [show own_F4 q4_0 q4_1 = (0 : Int32) from ((if_neg hc13).trans ((if_pos hc15).trans rfl))]
      exact own_retI X0 hx Bd.returns (hb hby d4_21) hlk (by decide) (by decide) ⟨rfl, N0, e0⟩
    · skip
      refine own_by (T' := s₁) (g' := (mkF m 21 #[.val (.long q4_0), .second, .val (.long q4_1), .second] [(.int (1 : Int32))])) (fun t k => ?_) ?_
      · show Steps p.tables e below (s₁.setTop (mkF m 13 #[.val (.long q4_0), .second, .val (.long q4_1), .second] [(.int (lcmpW q4_0 q4_1))])) t
        refine XS.ifYes X0.here hx rfl (pc0 := 13) (pc' := 20) rfl (hb hby d4_13) rfl ((if0 _ _).trans (feq (fun q => hc15 ((lw_eq _ _).mp q))).2) (by decide) (by decide) ?_
        show Steps p.tables e below (s₁.setTop (mkF m 20 #[.val (.long q4_0), .second, .val (.long q4_1), .second] [])) t
        refine XS.iconst X0.here hx rfl (hb hby d4_20) ?_
        show Steps p.tables e below (s₁.setTop (mkF m 21 #[.val (.long q4_0), .second, .val (.long q4_1), .second] [(.int (1 : Int32))])) t
        exact k
      rw [show own_F4 q4_0 q4_1 = (1 : Int32) from ((if_neg hc13).trans ((if_neg hc15).trans rfl))]
      exact own_retI X0 hx Bd.returns (hb hby d4_21) hlk (by decide) (by decide) ⟨rfl, N0, e0⟩
theorem d3_0 : decode jdk_35_method_43_code 0 = .ok (.lload_n 0, 1) := by decide +kernel
theorem d3_1 : decode jdk_35_method_43_code 1 = .ok (.ldc2_w 168, 3) := by decide +kernel
theorem d3_4 : decode jdk_35_method_43_code 4 = .ok (.ladd, 1) := by decide +kernel
theorem d3_5 : decode jdk_35_method_43_code 5 = .ok (.lload_n 2, 1) := by decide +kernel
theorem d3_6 : decode jdk_35_method_43_code 6 = .ok (.ldc2_w 168, 3) := by decide +kernel
theorem d3_9 : decode jdk_35_method_43_code 9 = .ok (.ladd, 1) := by decide +kernel
theorem d3_10 : decode jdk_35_method_43_code 10 = .ok (.invokestatic 302, 3) := by decide +kernel
theorem pd__JJ_I : parseMethodDescriptor "(JJ)I" = some ⟨[.long, .long], some .int⟩ := by decide +kernel
theorem d3_13 : decode jdk_35_method_43_code 13 = .ok (.ireturn, 1) := by decide +kernel
def own_F3 (q3_0 : Int64) (q3_1 : Int64) : Int32 := (own_F4 (q3_0 + (-9223372036854775808 : Int64)) (q3_1 + (-9223372036854775808 : Int64)))
theorem own_ef3 (m : MethodId) (x0 : Int64) (x1 : Int64) : entryFrame m #[(.long x0), (.long x1)] 4 = mkF m 0 #[.val (.long x0), .second, .val (.long x1), .second] [] := by first | (simp [entryFrame, mkF, argsToLocals, Value.category]; done) | rfl
def own_Q3 (r : Int32) (h0 : Heap) (n0 : Nat) (v : Option Value) (h : Heap) (L : List Loc) : Prop := v = some (.int r) ∧ Fr n0 L ∧ h = h0
set_option maxRecDepth 65536 in
set_option maxHeartbeats 40000000 in
theorem own_rm3 (l : Launch) (Z : State) (a0 : Array Value) (hw : ∀ d ∈ tables_1, d.before a0 Z = true) (ws : List Jvm.Cond) (q3_0 : Int64) (q3_1 : Int64) (h0 : Heap) (n0 : Nat) (Z0 : n0 ≤ h0.size) :
    MetFree l (⟨"java/lang/Long", "compareUnsigned", "(JJ)I"⟩ : MethodName) (head1 (Jvm.Cond.code (⟨"java/lang/Long", "compareUnsigned", "(JJ)I"⟩ : MethodName) jdk_35_method_43_code 4 (some .int) :: ws) ({ frames := 1, cells := 0, slots := 0, locals := 15 } : Room)) (fun a U => a = #[(.long q3_0), (.long q3_1)] ∧ Z.Warmed39 U.vm ∧ U.heap = h0) (fun _ _ _ _ _ => True) (fun _ U o U' => ∃ v L, o = .returned v ∧ own_Q3 (own_F3 q3_0 q3_1) h0 n0 v U'.heap L ∧ FrameEnd U o U' L ({ frames := 1, cells := 0, slots := 0, locals := 15 } : Room).cells ({ frames := 1, cells := 0, slots := 0, locals := 15 } : Room).slots) := by
  refine MetFree.of_bodySF (plainFor_of_name pn_java_lang_Long) hisR ?_
  intro p e s m args below meth c s₁ Bd hml0 hP hK
  obtain ⟨rfl, hZ, hh⟩ := hP
  have hx := Bd.exec
  have hby := Bd.bytes
  have hlk : meth.locks = false := BodyLoose.notSynchronized Bd
  have hml : c.maxLocals = 4 := hml0
  have hown : s.vm.findClass "java/lang/Long" = some m.cls := findClass_of_methodNamed Bd.named
  have hnm := (name_of_methodNamed Bd.named Bd.method).1
  have X0 : Stand p l e ({ frames := 1, cells := 0, slots := 0, locals := 15 } : Room) s m #[(.long q3_0), (.long q3_1)] below meth c s₁ [] 0 0 := Stand.of_body Bd
  have e0 : s₁.heap = h0 := by rw [← hh, Bd.state]; rfl
  have N0 := Fr.nil n0
  show own_Go p e below (own_P s below ({ frames := 1, cells := 0, slots := 0, locals := 15 } : Room) (own_Q3 (own_F3 q3_0 q3_1) h0 n0)) s₁ (entryFrame m #[(.long q3_0), (.long q3_1)] 4)
  refine own_in (own_ef3 m q3_0 q3_1) ?_
  refine own_by (T' := s₁) (g' := (mkF m 10 #[.val (.long q3_0), .second, .val (.long q3_1), .second] [(.long (q3_1 + (-9223372036854775808 : Int64))), (.long (q3_0 + (-9223372036854775808 : Int64)))])) (fun t k => ?_) ?_
  · show Steps p.tables e below (s₁.setTop (mkF m 0 #[.val (.long q3_0), .second, .val (.long q3_1), .second] [])) t
    refine XS.lloadN X0.here hx rfl (hb hby d3_0) rfl ?_
    show Steps p.tables e below (s₁.setTop (mkF m 1 #[.val (.long q3_0), .second, .val (.long q3_1), .second] [(.long q3_0)])) t
    refine X0.ldc2Long hx hown (mvT hZ (hw _ (List.mem_of_getElem? (i := 12) rfl))) (g := (mkF m 1 #[.val (.long q3_0), .second, .val (.long q3_1), .second] [(.long q3_0)])) rfl (hb hby d3_1) _ ?_
    show Steps p.tables e below (s₁.setTop (mkF m 4 #[.val (.long q3_0), .second, .val (.long q3_1), .second] [(.long (-9223372036854775808 : Int64)), (.long q3_0)])) t
    refine XS.ladd X0.here hx rfl (hb hby d3_4) rfl ?_
    show Steps p.tables e below (s₁.setTop (mkF m 5 #[.val (.long q3_0), .second, .val (.long q3_1), .second] [(.long (q3_0 + (-9223372036854775808 : Int64)))])) t
    refine XS.lloadN X0.here hx rfl (hb hby d3_5) rfl ?_
    show Steps p.tables e below (s₁.setTop (mkF m 6 #[.val (.long q3_0), .second, .val (.long q3_1), .second] [(.long q3_1), (.long (q3_0 + (-9223372036854775808 : Int64)))])) t
    refine X0.ldc2Long hx hown (mvT hZ (hw _ (List.mem_of_getElem? (i := 12) rfl))) (g := (mkF m 6 #[.val (.long q3_0), .second, .val (.long q3_1), .second] [(.long q3_1), (.long (q3_0 + (-9223372036854775808 : Int64)))])) rfl (hb hby d3_6) _ ?_
    show Steps p.tables e below (s₁.setTop (mkF m 9 #[.val (.long q3_0), .second, .val (.long q3_1), .second] [(.long (-9223372036854775808 : Int64)), (.long q3_1), (.long (q3_0 + (-9223372036854775808 : Int64)))])) t
    refine XS.ladd X0.here hx rfl (hb hby d3_9) rfl ?_
    show Steps p.tables e below (s₁.setTop (mkF m 10 #[.val (.long q3_0), .second, .val (.long q3_1), .second] [(.long (q3_1 + (-9223372036854775808 : Int64))), (.long (q3_0 + (-9223372036854775808 : Int64)))])) t
    exact k
  obtain ⟨v16, _, ⟨T16, L16, k16, n16⟩, -, X16, ⟨Lc16, hQ16, l16, y16, z16⟩, st16⟩ := Jvm.LawKit.callS X0 hx (y := (⟨"java/lang/Long", "compare", "(JJ)I"⟩ : MethodName)) hown (mvT hZ (hw _ (List.mem_of_getElem? (i := 13) rfl))) (mvT hZ (hw _ (List.mem_of_getElem? (i := 14) rfl))) (mvT hZ (hw _ (List.mem_of_getElem? (i := 10) rfl))) (mvT hZ (hw _ (List.mem_of_getElem? (i := 15) rfl))) (by decide) (backOf (W := 0) (own_rm4 l Z a0 hw [] (q3_0 + (-9223372036854775808 : Int64)) (q3_1 + (-9223372036854775808 : Int64)) h0 n0 Z0) hZ (hw _ (List.mem_of_getElem? (i := 15) rfl)) (hw _ (List.mem_of_getElem? (i := 10) rfl)) (by decide) (by decide)) (g := (mkF m 10 #[.val (.long q3_0), .second, .val (.long q3_1), .second] [(.long (q3_1 + (-9223372036854775808 : Int64))), (.long (q3_0 + (-9223372036854775808 : Int64)))])) rfl (by rw [hml]; rfl) (argsL := [(.long (q3_0 + (-9223372036854775808 : Int64))), (.long (q3_1 + (-9223372036854775808 : Int64)))]) (rest := []) (lenOf pd__JJ_I rfl) rfl (by show 2 * 0 + _ ≤ _; exact Nat.le_of_eq rfl) (hb hby d3_10) (fun _ _ => ⟨rfl, e0, (by decide : 0 + 0 ≤ _), (by decide : 0 + 0 ≤ _)⟩)
  dsimp only [Pt.U, Pt.locs, Pt.cells, Pt.slots] at X16 l16 y16 z16 st16 hQ16
  subst l16 y16 z16
  obtain ⟨rfl, M16, e16⟩ := hQ16
  have N17 := Fr.app N0 M16
  refine own_by (T' := T16) (g' := (mkF m 13 #[.val (.long q3_0), .second, .val (.long q3_1), .second] [(.int (own_F4 (q3_0 + (-9223372036854775808 : Int64)) (q3_1 + (-9223372036854775808 : Int64))))])) st16 ?_
  rw [show own_F3 q3_0 q3_1 = (own_F4 (q3_0 + (-9223372036854775808 : Int64)) (q3_1 + (-9223372036854775808 : Int64))) from rfl]
  exact own_retI X16 hx Bd.returns (hb hby d3_13) hlk (by decide) (by decide) ⟨rfl, N17, e16⟩
theorem d2_0 : decode prog_5_method_7_code 0 = .ok (.lload_n 0, 1) := by decide +kernel
theorem d2_1 : decode prog_5_method_7_code 1 = .ok (.lload 4, 2) := by decide +kernel
theorem d2_3 : decode prog_5_method_7_code 3 = .ok (.invokestatic 42, 3) := by decide +kernel
theorem d2_6 : decode prog_5_method_7_code 6 = .ok (.istore 8, 2) := by decide +kernel
theorem d2_8 : decode prog_5_method_7_code 8 = .ok (.iload 8, 2) := by decide +kernel
theorem d2_10 : decode prog_5_method_7_code 10 = .ok (.ifCond .eq 8, 3) := by decide +kernel
theorem d2_18 : decode prog_5_method_7_code 18 = .ok (.lload_n 2, 1) := by decide +kernel
theorem d2_19 : decode prog_5_method_7_code 19 = .ok (.lload 6, 2) := by decide +kernel
theorem d2_21 : decode prog_5_method_7_code 21 = .ok (.invokestatic 42, 3) := by decide +kernel
theorem d2_13 : decode prog_5_method_7_code 13 = .ok (.iload 8, 2) := by decide +kernel
theorem d2_15 : decode prog_5_method_7_code 15 = .ok (.goto 9, 3) := by decide +kernel
theorem d2_24 : decode prog_5_method_7_code 24 = .ok (.ireturn, 1) := by decide +kernel
theorem pn_com_example_vacant_errand_vacanterrand_PackedId : plainName "com/example/vacant_errand/vacanterrand/PackedId" = true := by first | (simp [plainName, overriddenIn]; done) | decide +kernel
def own_F2 (q2_0 : Int64) (q2_1 : Int64) (q2_2 : Int64) (q2_3 : Int64) : Int32 := (if (own_F3 q2_0 q2_2) = (0 : Int32) then (own_F3 q2_1 q2_3) else (own_F3 q2_0 q2_2))
theorem own_ef2 (m : MethodId) (x0 : Int64) (x1 : Int64) (x2 : Int64) (x3 : Int64) : entryFrame m #[(.long x0), (.long x1), (.long x2), (.long x3)] 9 = mkF m 0 #[.val (.long x0), .second, .val (.long x1), .second, .val (.long x2), .second, .val (.long x3), .second, .unset] [] := by first | (simp [entryFrame, mkF, argsToLocals, Value.category]; done) | rfl
def own_Q2 (r : Int32) (h0 : Heap) (n0 : Nat) (v : Option Value) (h : Heap) (L : List Loc) : Prop := v = some (.int r) ∧ Fr n0 L ∧ h = h0
set_option maxRecDepth 65536 in
set_option maxHeartbeats 40000000 in
theorem own_rm2 (l : Launch) (Z : State) (a0 : Array Value) (hw : ∀ d ∈ tables_1, d.before a0 Z = true) (ws : List Jvm.Cond) (q2_0 : Int64) (q2_1 : Int64) (q2_2 : Int64) (q2_3 : Int64) (h0 : Heap) (n0 : Nat) (Z0 : n0 ≤ h0.size) :
    MetFree l (⟨"com/example/vacant_errand/vacanterrand/PackedId", "compare", "(JJJJ)I"⟩ : MethodName) (head1 (Jvm.Cond.code (⟨"com/example/vacant_errand/vacanterrand/PackedId", "compare", "(JJJJ)I"⟩ : MethodName) prog_5_method_7_code 9 (some .int) :: ws) ({ frames := 2, cells := 0, slots := 0, locals := 30 } : Room)) (fun a U => a = #[(.long q2_0), (.long q2_1), (.long q2_2), (.long q2_3)] ∧ Z.Warmed39 U.vm ∧ U.heap = h0) (fun _ _ _ _ _ => True) (fun _ U o U' => ∃ v L, o = .returned v ∧ own_Q2 (own_F2 q2_0 q2_1 q2_2 q2_3) h0 n0 v U'.heap L ∧ FrameEnd U o U' L ({ frames := 2, cells := 0, slots := 0, locals := 30 } : Room).cells ({ frames := 2, cells := 0, slots := 0, locals := 30 } : Room).slots) := by
  refine MetFree.of_bodySF (plainFor_of_name pn_com_example_vacant_errand_vacanterrand_PackedId) hisR ?_
  intro p e s m args below meth c s₁ Bd hml0 hP hK
  obtain ⟨rfl, hZ, hh⟩ := hP
  have hx := Bd.exec
  have hby := Bd.bytes
  have hlk : meth.locks = false := BodyLoose.notSynchronized Bd
  have hml : c.maxLocals = 9 := hml0
  have hown : s.vm.findClass "com/example/vacant_errand/vacanterrand/PackedId" = some m.cls := findClass_of_methodNamed Bd.named
  have hnm := (name_of_methodNamed Bd.named Bd.method).1
  have X0 : Stand p l e ({ frames := 2, cells := 0, slots := 0, locals := 30 } : Room) s m #[(.long q2_0), (.long q2_1), (.long q2_2), (.long q2_3)] below meth c s₁ [] 0 0 := Stand.of_body Bd
  have e0 : s₁.heap = h0 := by rw [← hh, Bd.state]; rfl
  have N0 := Fr.nil n0
  show own_Go p e below (own_P s below ({ frames := 2, cells := 0, slots := 0, locals := 30 } : Room) (own_Q2 (own_F2 q2_0 q2_1 q2_2 q2_3) h0 n0)) s₁ (entryFrame m #[(.long q2_0), (.long q2_1), (.long q2_2), (.long q2_3)] 9)
  refine own_in (own_ef2 m q2_0 q2_1 q2_2 q2_3) ?_
  refine own_by (T' := s₁) (g' := (mkF m 3 #[.val (.long q2_0), .second, .val (.long q2_1), .second, .val (.long q2_2), .second, .val (.long q2_3), .second, .unset] [(.long q2_2), (.long q2_0)])) (fun t k => ?_) ?_
  · show Steps p.tables e below (s₁.setTop (mkF m 0 #[.val (.long q2_0), .second, .val (.long q2_1), .second, .val (.long q2_2), .second, .val (.long q2_3), .second, .unset] [])) t
    refine XS.lloadN X0.here hx rfl (hb hby d2_0) rfl ?_
    show Steps p.tables e below (s₁.setTop (mkF m 1 #[.val (.long q2_0), .second, .val (.long q2_1), .second, .val (.long q2_2), .second, .val (.long q2_3), .second, .unset] [(.long q2_0)])) t
    refine XS.lload X0.here hx rfl (hb hby d2_1) rfl ?_
    show Steps p.tables e below (s₁.setTop (mkF m 3 #[.val (.long q2_0), .second, .val (.long q2_1), .second, .val (.long q2_2), .second, .val (.long q2_3), .second, .unset] [(.long q2_2), (.long q2_0)])) t
    exact k
  obtain ⟨v18, _, ⟨T18, L18, k18, n18⟩, -, X18, ⟨Lc18, hQ18, l18, y18, z18⟩, st18⟩ := Jvm.LawKit.callS X0 hx (y := (⟨"java/lang/Long", "compareUnsigned", "(JJ)I"⟩ : MethodName)) hown (mvT hZ (hw _ (List.mem_of_getElem? (i := 8) rfl))) (mvT hZ (hw _ (List.mem_of_getElem? (i := 9) rfl))) (mvT hZ (hw _ (List.mem_of_getElem? (i := 10) rfl))) (mvT hZ (hw _ (List.mem_of_getElem? (i := 11) rfl))) (by decide) (backOf (W := 0) (own_rm3 l Z a0 hw [] q2_0 q2_2 h0 n0 Z0) hZ (hw _ (List.mem_of_getElem? (i := 11) rfl)) (hw _ (List.mem_of_getElem? (i := 10) rfl)) (by decide) (by decide)) (g := (mkF m 3 #[.val (.long q2_0), .second, .val (.long q2_1), .second, .val (.long q2_2), .second, .val (.long q2_3), .second, .unset] [(.long q2_2), (.long q2_0)])) rfl (by rw [hml]; rfl) (argsL := [(.long q2_0), (.long q2_2)]) (rest := []) (lenOf pd__JJ_I rfl) rfl (by show 2 * 0 + _ ≤ _; exact Nat.le_of_eq rfl) (hb hby d2_3) (fun _ _ => ⟨rfl, e0, (by decide : 0 + 0 ≤ _), (by decide : 0 + 0 ≤ _)⟩)
  dsimp only [Pt.U, Pt.locs, Pt.cells, Pt.slots] at X18 l18 y18 z18 st18 hQ18
  subst l18 y18 z18
  obtain ⟨rfl, M18, e18⟩ := hQ18
  have N19 := Fr.app N0 M18
  refine own_by (T' := T18) (g' := (mkF m 6 #[.val (.long q2_0), .second, .val (.long q2_1), .second, .val (.long q2_2), .second, .val (.long q2_3), .second, .unset] [(.int (own_F3 q2_0 q2_2))])) st18 ?_
  refine own_by (T' := T18) (g' := (mkF m 10 #[.val (.long q2_0), .second, .val (.long q2_1), .second, .val (.long q2_2), .second, .val (.long q2_3), .second, .val (.int (own_F3 q2_0 q2_2))] [(.int (own_F3 q2_0 q2_2))])) (fun t k => ?_) ?_
  · show Steps p.tables e below (T18.setTop (mkF m 6 #[.val (.long q2_0), .second, .val (.long q2_1), .second, .val (.long q2_2), .second, .val (.long q2_3), .second, .unset] [(.int (own_F3 q2_0 q2_2))])) t
    refine XS.istore X18.here hx rfl (hb hby d2_6) rfl (l' := #[.val (.long q2_0), .second, .val (.long q2_1), .second, .val (.long q2_2), .second, .val (.long q2_3), .second, .val (.int (own_F3 q2_0 q2_2))]) rfl ?_
    show Steps p.tables e below (T18.setTop (mkF m 8 #[.val (.long q2_0), .second, .val (.long q2_1), .second, .val (.long q2_2), .second, .val (.long q2_3), .second, .val (.int (own_F3 q2_0 q2_2))] [])) t
    refine XS.iload X18.here hx rfl (hb hby d2_8) rfl ?_
    show Steps p.tables e below (T18.setTop (mkF m 10 #[.val (.long q2_0), .second, .val (.long q2_1), .second, .val (.long q2_2), .second, .val (.long q2_3), .second, .val (.int (own_F3 q2_0 q2_2))] [(.int (own_F3 q2_0 q2_2))])) t
    exact k
  by_cases hc20 : (own_F3 q2_0 q2_2) = (0 : Int32)
  · skip
    refine own_by (T' := T18) (g' := (mkF m 21 #[.val (.long q2_0), .second, .val (.long q2_1), .second, .val (.long q2_2), .second, .val (.long q2_3), .second, .val (.int (own_F3 q2_0 q2_2))] [(.long q2_3), (.long q2_1)])) (fun t k => ?_) ?_
    · show Steps p.tables e below (T18.setTop (mkF m 10 #[.val (.long q2_0), .second, .val (.long q2_1), .second, .val (.long q2_2), .second, .val (.long q2_3), .second, .val (.int (own_F3 q2_0 q2_2))] [(.int (own_F3 q2_0 q2_2))])) t
      refine XS.ifYes X18.here hx rfl (pc0 := 10) (pc' := 18) rfl (hb hby d2_10) rfl ((if0 _ _).trans (teq hc20).1) (by decide) (by decide) ?_
      show Steps p.tables e below (T18.setTop (mkF m 18 #[.val (.long q2_0), .second, .val (.long q2_1), .second, .val (.long q2_2), .second, .val (.long q2_3), .second, .val (.int (own_F3 q2_0 q2_2))] [])) t
      refine XS.lloadN X18.here hx rfl (hb hby d2_18) rfl ?_
      show Steps p.tables e below (T18.setTop (mkF m 19 #[.val (.long q2_0), .second, .val (.long q2_1), .second, .val (.long q2_2), .second, .val (.long q2_3), .second, .val (.int (own_F3 q2_0 q2_2))] [(.long q2_1)])) t
      refine XS.lload X18.here hx rfl (hb hby d2_19) rfl ?_
      show Steps p.tables e below (T18.setTop (mkF m 21 #[.val (.long q2_0), .second, .val (.long q2_1), .second, .val (.long q2_2), .second, .val (.long q2_3), .second, .val (.int (own_F3 q2_0 q2_2))] [(.long q2_3), (.long q2_1)])) t
      exact k
    obtain ⟨v23, _, ⟨T23, L23, k23, n23⟩, -, X23, ⟨Lc23, hQ23, l23, y23, z23⟩, st23⟩ := Jvm.LawKit.callS X18 hx (y := (⟨"java/lang/Long", "compareUnsigned", "(JJ)I"⟩ : MethodName)) hown (mvT hZ (hw _ (List.mem_of_getElem? (i := 8) rfl))) (mvT hZ (hw _ (List.mem_of_getElem? (i := 9) rfl))) (mvT hZ (hw _ (List.mem_of_getElem? (i := 10) rfl))) (mvT hZ (hw _ (List.mem_of_getElem? (i := 11) rfl))) (by decide) (backOf (W := 0) (own_rm3 l Z a0 hw [] q2_1 q2_3 h0 n0 Z0) hZ (hw _ (List.mem_of_getElem? (i := 11) rfl)) (hw _ (List.mem_of_getElem? (i := 10) rfl)) (by decide) (by decide)) (g := (mkF m 21 #[.val (.long q2_0), .second, .val (.long q2_1), .second, .val (.long q2_2), .second, .val (.long q2_3), .second, .val (.int (own_F3 q2_0 q2_2))] [(.long q2_3), (.long q2_1)])) rfl (by rw [hml]; rfl) (argsL := [(.long q2_1), (.long q2_3)]) (rest := []) (lenOf pd__JJ_I rfl) rfl (by show 2 * 0 + _ ≤ _; exact Nat.le_of_eq rfl) (hb hby d2_21) (fun _ _ => ⟨rfl, e18, (by decide : 0 + 0 ≤ _), (by decide : 0 + 0 ≤ _)⟩)
    dsimp only [Pt.U, Pt.locs, Pt.cells, Pt.slots] at X23 l23 y23 z23 st23 hQ23
    subst l23 y23 z23
    obtain ⟨rfl, M23, e23⟩ := hQ23
    have N24 := Fr.app N19 M23
    refine own_by (T' := T23) (g' := (mkF m 24 #[.val (.long q2_0), .second, .val (.long q2_1), .second, .val (.long q2_2), .second, .val (.long q2_3), .second, .val (.int (own_F3 q2_0 q2_2))] [(.int (own_F3 q2_1 q2_3))])) st23 ?_
    rw [show own_F2 q2_0 q2_1 q2_2 q2_3 = (own_F3 q2_1 q2_3) from ((if_pos hc20).trans rfl)]
    exact own_retI X23 hx Bd.returns (hb hby d2_24) hlk (by decide) (by decide) ⟨rfl, N24, e23⟩
  · skip
    refine own_by (T' := T18) (g' := (mkF m 24 #[.val (.long q2_0), .second, .val (.long q2_1), .second, .val (.long q2_2), .second, .val (.long q2_3), .second, .val (.int (own_F3 q2_0 q2_2))] [(.int (own_F3 q2_0 q2_2))])) (fun t k => ?_) ?_
    · show Steps p.tables e below (T18.setTop (mkF m 10 #[.val (.long q2_0), .second, .val (.long q2_1), .second, .val (.long q2_2), .second, .val (.long q2_3), .second, .val (.int (own_F3 q2_0 q2_2))] [(.int (own_F3 q2_0 q2_2))])) t
      refine XS.ifNo X18.here hx rfl (hb hby d2_10) rfl ((if0 _ _).trans (feq hc20).1) ?_
      show Steps p.tables e below (T18.setTop (mkF m 13 #[.val (.long q2_0), .second, .val (.long q2_1), .second, .val (.long q2_2), .second, .val (.long q2_3), .second, .val (.int (own_F3 q2_0 q2_2))] [])) t
      refine XS.iload X18.here hx rfl (hb hby d2_13) rfl ?_
      show Steps p.tables e below (T18.setTop (mkF m 15 #[.val (.long q2_0), .second, .val (.long q2_1), .second, .val (.long q2_2), .second, .val (.long q2_3), .second, .val (.int (own_F3 q2_0 q2_2))] [(.int (own_F3 q2_0 q2_2))])) t
      refine XS.goto X18.here hx rfl (pc0 := 15) (pc' := 24) rfl (hb hby d2_15) (by decide) (by decide) ?_
      show Steps p.tables e below (T18.setTop (mkF m 24 #[.val (.long q2_0), .second, .val (.long q2_1), .second, .val (.long q2_2), .second, .val (.long q2_3), .second, .val (.int (own_F3 q2_0 q2_2))] [(.int (own_F3 q2_0 q2_2))])) t
      exact k
    rw [show own_F2 q2_0 q2_1 q2_2 q2_3 = (own_F3 q2_0 q2_2) from ((if_neg hc20).trans rfl)]
    exact own_retI X18 hx Bd.returns (hb hby d2_24) hlk (by decide) (by decide) ⟨rfl, N19, e18⟩
theorem pd__JJJJ_I : parseMethodDescriptor "(JJJJ)I" = some ⟨[.long, .long, .long, .long], some .int⟩ := by decide +kernel
theorem pd__I_I : parseMethodDescriptor "(I)I" = some ⟨[.int], some .int⟩ := by decide +kernel
def own_F0_54_3 (q0_0 : Int64) (q0_1 : Int64) (q0_2 : Int64) (q0_3 : Int64) (p0_4 : Int32) (j26 : Int64) (j29 : Int64) (i36 : Int32) : Int32 := (if (own_F5 (own_F2 q0_0 q0_1 j26 j29)) = i36 then (1 : Int32) else (0 : Int32))
def own_F0_28_2 (q0_0 : Int64) (q0_1 : Int64) (q0_2 : Int64) (q0_3 : Int64) (p0_4 : Int32) (j26 : Int64) (j29 : Int64) : Int32 := (if (own_F1 q0_0 j26) = (0 : Int32) then (own_F0_54_3 q0_0 q0_1 q0_2 q0_3 p0_4 j26 j29 (own_F1 q0_1 j29)) else (own_F0_54_3 q0_0 q0_1 q0_2 q0_3 p0_4 j26 j29 (own_F1 q0_0 j26)))
def own_F0_13_1 (q0_0 : Int64) (q0_1 : Int64) (q0_2 : Int64) (q0_3 : Int64) (p0_4 : Int32) (j26 : Int64) : Int32 := (if (p0_4 &&& (2 : Int32)) = (0 : Int32) then (own_F0_28_2 q0_0 q0_1 q0_2 q0_3 p0_4 j26 q0_3) else (own_F0_28_2 q0_0 q0_1 q0_2 q0_3 p0_4 j26 q0_1))
def own_F0 (q0_0 : Int64) (q0_1 : Int64) (q0_2 : Int64) (q0_3 : Int64) (p0_4 : Int32) : Int32 := (if (p0_4 &&& (1 : Int32)) = (0 : Int32) then (own_F0_13_1 q0_0 q0_1 q0_2 q0_3 p0_4 q0_2) else (own_F0_13_1 q0_0 q0_1 q0_2 q0_3 p0_4 q0_0))
theorem own_ef0 (m : MethodId) (x0 : Int64) (x1 : Int64) (x2 : Int64) (x3 : Int64) (x4 : Int32) : entryFrame m #[(.long x0), (.long x1), (.long x2), (.long x3), (.int x4)] maxLocals = mkF m 0 #[.val (.long x0), .second, .val (.long x1), .second, .val (.long x2), .second, .val (.long x3), .second, .val (.int x4), .unset, .unset, .unset, .unset, .unset, .unset, .unset] [] := by first | (simp [entryFrame, mkF, argsToLocals, Value.category, maxLocals]; done) | rfl
def own_Q0 (r : Int32) (h0 : Heap) (n0 : Nat) (v : Option Value) (h : Heap) (L : List Loc) : Prop := v = some (.int r) ∧ Fr n0 L
set_option maxRecDepth 65536 in
set_option maxHeartbeats 40000000 in
theorem own_rm0 (l : Launch) (Z : State) (a0 : Array Value) (hw : ∀ d ∈ tables_1, d.before a0 Z = true) (ws : List Jvm.Cond) (q0_0 : Int64) (q0_1 : Int64) (q0_2 : Int64) (q0_3 : Int64) (p0_4 : Int32) (h0 : Heap) (n0 : Nat) (Z0 : n0 ≤ h0.size) :
    MetFree l x (head1 (Jvm.Cond.code x code maxLocals ret :: ws) room_1) (fun a U => a = #[(.long q0_0), (.long q0_1), (.long q0_2), (.long q0_3), (.int p0_4)] ∧ Z.Warmed39 U.vm ∧ U.heap = h0) (fun _ _ _ _ _ => True) (fun _ U o U' => ∃ v L, o = .returned v ∧ own_Q0 (own_F0 q0_0 q0_1 q0_2 q0_3 p0_4) h0 n0 v U'.heap L ∧ FrameEnd U o U' L room_1.cells room_1.slots) := by
  refine MetFree.of_bodySF (plainFor_of_name pn_com_example_vacant_errand_vacanterrand_PackedIdComparePinLaw) hisR ?_
  intro p e s m args below meth c s₁ Bd hml0 hP hK
  obtain ⟨rfl, hZ, hh⟩ := hP
  have hx := Bd.exec
  have hby := Bd.bytes
  have hlk : meth.locks = false := BodyLoose.notSynchronized Bd
  have hml : c.maxLocals = 16 := hml0
  have hown : s.vm.findClass "com/example/vacant_errand/vacanterrand/PackedIdComparePinLaw" = some m.cls := findClass_of_methodNamed Bd.named
  have hnm := (name_of_methodNamed Bd.named Bd.method).1
  have X0 : Stand p l e room_1 s m #[(.long q0_0), (.long q0_1), (.long q0_2), (.long q0_3), (.int p0_4)] below meth c s₁ [] 0 0 := Stand.of_body Bd
  have e0 : s₁.heap = h0 := by rw [← hh, Bd.state]; rfl
  have N0 := Fr.nil n0
  show own_Go p e below (own_P s below room_1 (own_Q0 (own_F0 q0_0 q0_1 q0_2 q0_3 p0_4) h0 n0)) s₁ (entryFrame m #[(.long q0_0), (.long q0_1), (.long q0_2), (.long q0_3), (.int p0_4)] maxLocals)
  refine own_in (own_ef0 m q0_0 q0_1 q0_2 q0_3 p0_4) ?_
  refine own_by (T' := s₁) (g' := (mkF m 4 #[.val (.long q0_0), .second, .val (.long q0_1), .second, .val (.long q0_2), .second, .val (.long q0_3), .second, .val (.int p0_4), .unset, .unset, .unset, .unset, .unset, .unset, .unset] [(.int (p0_4 &&& (1 : Int32)))])) (fun t k => ?_) ?_
  · show Steps p.tables e below (s₁.setTop (mkF m 0 #[.val (.long q0_0), .second, .val (.long q0_1), .second, .val (.long q0_2), .second, .val (.long q0_3), .second, .val (.int p0_4), .unset, .unset, .unset, .unset, .unset, .unset, .unset] [])) t
    refine XS.iload X0.here hx rfl (hb hby at_0) rfl ?_
    show Steps p.tables e below (s₁.setTop (mkF m 2 #[.val (.long q0_0), .second, .val (.long q0_1), .second, .val (.long q0_2), .second, .val (.long q0_3), .second, .val (.int p0_4), .unset, .unset, .unset, .unset, .unset, .unset, .unset] [(.int p0_4)])) t
    refine XS.iconst X0.here hx rfl (hb hby at_2) ?_
    show Steps p.tables e below (s₁.setTop (mkF m 3 #[.val (.long q0_0), .second, .val (.long q0_1), .second, .val (.long q0_2), .second, .val (.long q0_3), .second, .val (.int p0_4), .unset, .unset, .unset, .unset, .unset, .unset, .unset] [(.int (1 : Int32)), (.int p0_4)])) t
    refine XS.iand X0.here hx rfl (hb hby at_3) rfl ?_
    show Steps p.tables e below (s₁.setTop (mkF m 4 #[.val (.long q0_0), .second, .val (.long q0_1), .second, .val (.long q0_2), .second, .val (.long q0_3), .second, .val (.int p0_4), .unset, .unset, .unset, .unset, .unset, .unset, .unset] [(.int (p0_4 &&& (1 : Int32)))])) t
    exact k
  have J0_1 : ∀ (T27 : State) (L27 : List Loc) (j26 : Int64), Stand p l e room_1 s m #[(.long q0_0), (.long q0_1), (.long q0_2), (.long q0_3), (.int p0_4)] below meth c T27 L27 0 0 → T27.heap = h0 → Fr n0 L27 → own_Go p e below (own_P s below room_1 (own_Q0 (own_F0_13_1 q0_0 q0_1 q0_2 q0_3 p0_4 j26) h0 n0)) T27 (mkF m 13 #[.val (.long q0_0), .second, .val (.long q0_1), .second, .val (.long q0_2), .second, .val (.long q0_3), .second, .val (.int p0_4), .unset, .unset, .unset, .unset, .unset, .unset, .unset] [(.long j26)]) := by
    intro T27 L27 j26 X27 e27 N27
    refine own_by (T' := T27) (g' := (mkF m 19 #[.val (.long q0_0), .second, .val (.long q0_1), .second, .val (.long q0_2), .second, .val (.long q0_3), .second, .val (.int p0_4), .val (.long j26), .second, .unset, .unset, .unset, .unset, .unset] [(.int (p0_4 &&& (2 : Int32)))])) (fun t k => ?_) ?_
    · show Steps p.tables e below (T27.setTop (mkF m 13 #[.val (.long q0_0), .second, .val (.long q0_1), .second, .val (.long q0_2), .second, .val (.long q0_3), .second, .val (.int p0_4), .unset, .unset, .unset, .unset, .unset, .unset, .unset] [(.long j26)])) t
      refine XS.lstore X27.here hx rfl (hb hby at_13) rfl (l' := #[.val (.long q0_0), .second, .val (.long q0_1), .second, .val (.long q0_2), .second, .val (.long q0_3), .second, .val (.int p0_4), .val (.long j26), .second, .unset, .unset, .unset, .unset, .unset]) rfl ?_
      show Steps p.tables e below (T27.setTop (mkF m 15 #[.val (.long q0_0), .second, .val (.long q0_1), .second, .val (.long q0_2), .second, .val (.long q0_3), .second, .val (.int p0_4), .val (.long j26), .second, .unset, .unset, .unset, .unset, .unset] [])) t
      refine XS.iload X27.here hx rfl (hb hby at_15) rfl ?_
      show Steps p.tables e below (T27.setTop (mkF m 17 #[.val (.long q0_0), .second, .val (.long q0_1), .second, .val (.long q0_2), .second, .val (.long q0_3), .second, .val (.int p0_4), .val (.long j26), .second, .unset, .unset, .unset, .unset, .unset] [(.int p0_4)])) t
      refine XS.iconst X27.here hx rfl (hb hby at_17) ?_
      show Steps p.tables e below (T27.setTop (mkF m 18 #[.val (.long q0_0), .second, .val (.long q0_1), .second, .val (.long q0_2), .second, .val (.long q0_3), .second, .val (.int p0_4), .val (.long j26), .second, .unset, .unset, .unset, .unset, .unset] [(.int (2 : Int32)), (.int p0_4)])) t
      refine XS.iand X27.here hx rfl (hb hby at_18) rfl ?_
      show Steps p.tables e below (T27.setTop (mkF m 19 #[.val (.long q0_0), .second, .val (.long q0_1), .second, .val (.long q0_2), .second, .val (.long q0_3), .second, .val (.int p0_4), .val (.long j26), .second, .unset, .unset, .unset, .unset, .unset] [(.int (p0_4 &&& (2 : Int32)))])) t
      exact k
    have J0_2 : ∀ (T30 : State) (L30 : List Loc) (j29 : Int64), Stand p l e room_1 s m #[(.long q0_0), (.long q0_1), (.long q0_2), (.long q0_3), (.int p0_4)] below meth c T30 L30 0 0 → T30.heap = h0 → Fr n0 L30 → own_Go p e below (own_P s below room_1 (own_Q0 (own_F0_28_2 q0_0 q0_1 q0_2 q0_3 p0_4 j26 j29) h0 n0)) T30 (mkF m 28 #[.val (.long q0_0), .second, .val (.long q0_1), .second, .val (.long q0_2), .second, .val (.long q0_3), .second, .val (.int p0_4), .val (.long j26), .second, .unset, .unset, .unset, .unset, .unset] [(.long j29)]) := by
      intro T30 L30 j29 X30 e30 N30
      refine own_by (T' := T30) (g' := (mkF m 33 #[.val (.long q0_0), .second, .val (.long q0_1), .second, .val (.long q0_2), .second, .val (.long q0_3), .second, .val (.int p0_4), .val (.long j26), .second, .val (.long j29), .second, .unset, .unset, .unset] [(.long j26), (.long q0_0)])) (fun t k => ?_) ?_
      · show Steps p.tables e below (T30.setTop (mkF m 28 #[.val (.long q0_0), .second, .val (.long q0_1), .second, .val (.long q0_2), .second, .val (.long q0_3), .second, .val (.int p0_4), .val (.long j26), .second, .unset, .unset, .unset, .unset, .unset] [(.long j29)])) t
        refine XS.lstore X30.here hx rfl (hb hby at_28) rfl (l' := #[.val (.long q0_0), .second, .val (.long q0_1), .second, .val (.long q0_2), .second, .val (.long q0_3), .second, .val (.int p0_4), .val (.long j26), .second, .val (.long j29), .second, .unset, .unset, .unset]) rfl ?_
        show Steps p.tables e below (T30.setTop (mkF m 30 #[.val (.long q0_0), .second, .val (.long q0_1), .second, .val (.long q0_2), .second, .val (.long q0_3), .second, .val (.int p0_4), .val (.long j26), .second, .val (.long j29), .second, .unset, .unset, .unset] [])) t
        refine XS.lloadN X30.here hx rfl (hb hby at_30) rfl ?_
        show Steps p.tables e below (T30.setTop (mkF m 31 #[.val (.long q0_0), .second, .val (.long q0_1), .second, .val (.long q0_2), .second, .val (.long q0_3), .second, .val (.int p0_4), .val (.long j26), .second, .val (.long j29), .second, .unset, .unset, .unset] [(.long q0_0)])) t
        refine XS.lload X30.here hx rfl (hb hby at_31) rfl ?_
        show Steps p.tables e below (T30.setTop (mkF m 33 #[.val (.long q0_0), .second, .val (.long q0_1), .second, .val (.long q0_2), .second, .val (.long q0_3), .second, .val (.int p0_4), .val (.long j26), .second, .val (.long j29), .second, .unset, .unset, .unset] [(.long j26), (.long q0_0)])) t
        exact k
      obtain ⟨v31, _, ⟨T31, L31, k31, n31⟩, -, X31, ⟨Lc31, hQ31, l31, y31, z31⟩, st31⟩ := Jvm.LawKit.callS X30 hx (y := (⟨"com/example/vacant_errand/vacanterrand/PackedIdComparePinLaw", "unsignedOrder", "(JJ)I"⟩ : MethodName)) hown (mvT hZ (hw _ (List.mem_of_getElem? (i := 0) rfl))) (mvT hZ (hw _ (List.mem_of_getElem? (i := 1) rfl))) (mvT hZ (hw _ (List.mem_of_getElem? (i := 2) rfl))) (mvT hZ (hw _ (List.mem_of_getElem? (i := 3) rfl))) (by decide) (backOf (W := 0) (own_rm1 l Z a0 hw [] q0_0 j26 h0 n0 Z0) hZ (hw _ (List.mem_of_getElem? (i := 3) rfl)) (hw _ (List.mem_of_getElem? (i := 2) rfl)) (by decide) (by decide)) (g := (mkF m 33 #[.val (.long q0_0), .second, .val (.long q0_1), .second, .val (.long q0_2), .second, .val (.long q0_3), .second, .val (.int p0_4), .val (.long j26), .second, .val (.long j29), .second, .unset, .unset, .unset] [(.long j26), (.long q0_0)])) rfl (by rw [hml]; rfl) (argsL := [(.long q0_0), (.long j26)]) (rest := []) (lenOf pd__JJ_I rfl) rfl (by show 2 * 0 + _ ≤ _; exact Nat.le_of_eq rfl) (hb hby at_33) (fun _ _ => ⟨rfl, e30, (by decide : 0 + 0 ≤ _), (by decide : 0 + 0 ≤ _)⟩)
      dsimp only [Pt.U, Pt.locs, Pt.cells, Pt.slots] at X31 l31 y31 z31 st31 hQ31
      subst l31 y31 z31
      obtain ⟨rfl, M31, e31⟩ := hQ31
      have N32 := Fr.app N30 M31
      refine own_by (T' := T31) (g' := (mkF m 36 #[.val (.long q0_0), .second, .val (.long q0_1), .second, .val (.long q0_2), .second, .val (.long q0_3), .second, .val (.int p0_4), .val (.long j26), .second, .val (.long j29), .second, .unset, .unset, .unset] [(.int (own_F1 q0_0 j26))])) st31 ?_
      refine own_by (T' := T31) (g' := (mkF m 40 #[.val (.long q0_0), .second, .val (.long q0_1), .second, .val (.long q0_2), .second, .val (.long q0_3), .second, .val (.int p0_4), .val (.long j26), .second, .val (.long j29), .second, .val (.int (own_F1 q0_0 j26)), .unset, .unset] [(.int (own_F1 q0_0 j26))])) (fun t k => ?_) ?_
      · show Steps p.tables e below (T31.setTop (mkF m 36 #[.val (.long q0_0), .second, .val (.long q0_1), .second, .val (.long q0_2), .second, .val (.long q0_3), .second, .val (.int p0_4), .val (.long j26), .second, .val (.long j29), .second, .unset, .unset, .unset] [(.int (own_F1 q0_0 j26))])) t
        refine XS.istore X31.here hx rfl (hb hby at_36) rfl (l' := #[.val (.long q0_0), .second, .val (.long q0_1), .second, .val (.long q0_2), .second, .val (.long q0_3), .second, .val (.int p0_4), .val (.long j26), .second, .val (.long j29), .second, .val (.int (own_F1 q0_0 j26)), .unset, .unset]) rfl ?_
        show Steps p.tables e below (T31.setTop (mkF m 38 #[.val (.long q0_0), .second, .val (.long q0_1), .second, .val (.long q0_2), .second, .val (.long q0_3), .second, .val (.int p0_4), .val (.long j26), .second, .val (.long j29), .second, .val (.int (own_F1 q0_0 j26)), .unset, .unset] [])) t
        refine XS.iload X31.here hx rfl (hb hby at_38) rfl ?_
        show Steps p.tables e below (T31.setTop (mkF m 40 #[.val (.long q0_0), .second, .val (.long q0_1), .second, .val (.long q0_2), .second, .val (.long q0_3), .second, .val (.int p0_4), .val (.long j26), .second, .val (.long j29), .second, .val (.int (own_F1 q0_0 j26)), .unset, .unset] [(.int (own_F1 q0_0 j26))])) t
        exact k
      have J0_3 : ∀ (T37 : State) (L37 : List Loc) (i36 : Int32), Stand p l e room_1 s m #[(.long q0_0), (.long q0_1), (.long q0_2), (.long q0_3), (.int p0_4)] below meth c T37 L37 0 0 → T37.heap = h0 → Fr n0 L37 → own_Go p e below (own_P s below room_1 (own_Q0 (own_F0_54_3 q0_0 q0_1 q0_2 q0_3 p0_4 j26 j29 i36) h0 n0)) T37 (mkF m 54 #[.val (.long q0_0), .second, .val (.long q0_1), .second, .val (.long q0_2), .second, .val (.long q0_3), .second, .val (.int p0_4), .val (.long j26), .second, .val (.long j29), .second, .val (.int (own_F1 q0_0 j26)), .unset, .unset] [(.int i36)]) := by
        intro T37 L37 i36 X37 e37 N37
        refine own_by (T' := T37) (g' := (mkF m 62 #[.val (.long q0_0), .second, .val (.long q0_1), .second, .val (.long q0_2), .second, .val (.long q0_3), .second, .val (.int p0_4), .val (.long j26), .second, .val (.long j29), .second, .val (.int (own_F1 q0_0 j26)), .val (.int i36), .unset] [(.long j29), (.long j26), (.long q0_1), (.long q0_0)])) (fun t k => ?_) ?_
        · show Steps p.tables e below (T37.setTop (mkF m 54 #[.val (.long q0_0), .second, .val (.long q0_1), .second, .val (.long q0_2), .second, .val (.long q0_3), .second, .val (.int p0_4), .val (.long j26), .second, .val (.long j29), .second, .val (.int (own_F1 q0_0 j26)), .unset, .unset] [(.int i36)])) t
          refine XS.istore X37.here hx rfl (hb hby at_54) rfl (l' := #[.val (.long q0_0), .second, .val (.long q0_1), .second, .val (.long q0_2), .second, .val (.long q0_3), .second, .val (.int p0_4), .val (.long j26), .second, .val (.long j29), .second, .val (.int (own_F1 q0_0 j26)), .val (.int i36), .unset]) rfl ?_
          show Steps p.tables e below (T37.setTop (mkF m 56 #[.val (.long q0_0), .second, .val (.long q0_1), .second, .val (.long q0_2), .second, .val (.long q0_3), .second, .val (.int p0_4), .val (.long j26), .second, .val (.long j29), .second, .val (.int (own_F1 q0_0 j26)), .val (.int i36), .unset] [])) t
          refine XS.lloadN X37.here hx rfl (hb hby at_56) rfl ?_
          show Steps p.tables e below (T37.setTop (mkF m 57 #[.val (.long q0_0), .second, .val (.long q0_1), .second, .val (.long q0_2), .second, .val (.long q0_3), .second, .val (.int p0_4), .val (.long j26), .second, .val (.long j29), .second, .val (.int (own_F1 q0_0 j26)), .val (.int i36), .unset] [(.long q0_0)])) t
          refine XS.lloadN X37.here hx rfl (hb hby at_57) rfl ?_
          show Steps p.tables e below (T37.setTop (mkF m 58 #[.val (.long q0_0), .second, .val (.long q0_1), .second, .val (.long q0_2), .second, .val (.long q0_3), .second, .val (.int p0_4), .val (.long j26), .second, .val (.long j29), .second, .val (.int (own_F1 q0_0 j26)), .val (.int i36), .unset] [(.long q0_1), (.long q0_0)])) t
          refine XS.lload X37.here hx rfl (hb hby at_58) rfl ?_
          show Steps p.tables e below (T37.setTop (mkF m 60 #[.val (.long q0_0), .second, .val (.long q0_1), .second, .val (.long q0_2), .second, .val (.long q0_3), .second, .val (.int p0_4), .val (.long j26), .second, .val (.long j29), .second, .val (.int (own_F1 q0_0 j26)), .val (.int i36), .unset] [(.long j26), (.long q0_1), (.long q0_0)])) t
          refine XS.lload X37.here hx rfl (hb hby at_60) rfl ?_
          show Steps p.tables e below (T37.setTop (mkF m 62 #[.val (.long q0_0), .second, .val (.long q0_1), .second, .val (.long q0_2), .second, .val (.long q0_3), .second, .val (.int p0_4), .val (.long j26), .second, .val (.long j29), .second, .val (.int (own_F1 q0_0 j26)), .val (.int i36), .unset] [(.long j29), (.long j26), (.long q0_1), (.long q0_0)])) t
          exact k
        obtain ⟨v38, _, ⟨T38, L38, k38, n38⟩, -, X38, ⟨Lc38, hQ38, l38, y38, z38⟩, st38⟩ := Jvm.LawKit.callS X37 hx (y := (⟨"com/example/vacant_errand/vacanterrand/PackedId", "compare", "(JJJJ)I"⟩ : MethodName)) hown (mvT hZ (hw _ (List.mem_of_getElem? (i := 4) rfl))) (mvT hZ (hw _ (List.mem_of_getElem? (i := 5) rfl))) (mvT hZ (hw _ (List.mem_of_getElem? (i := 6) rfl))) (mvT hZ (hw _ (List.mem_of_getElem? (i := 7) rfl))) (by decide) (backOf (W := 0) (own_rm2 l Z a0 hw [] q0_0 q0_1 j26 j29 h0 n0 Z0) hZ (hw _ (List.mem_of_getElem? (i := 7) rfl)) (hw _ (List.mem_of_getElem? (i := 6) rfl)) (by decide) (by decide)) (g := (mkF m 62 #[.val (.long q0_0), .second, .val (.long q0_1), .second, .val (.long q0_2), .second, .val (.long q0_3), .second, .val (.int p0_4), .val (.long j26), .second, .val (.long j29), .second, .val (.int (own_F1 q0_0 j26)), .val (.int i36), .unset] [(.long j29), (.long j26), (.long q0_1), (.long q0_0)])) rfl (by rw [hml]; rfl) (argsL := [(.long q0_0), (.long q0_1), (.long j26), (.long j29)]) (rest := []) (lenOf pd__JJJJ_I rfl) rfl (by show 2 * 0 + _ ≤ _; exact Nat.le_of_eq rfl) (hb hby at_62) (fun _ _ => ⟨rfl, e37, (by decide : 0 + 0 ≤ _), (by decide : 0 + 0 ≤ _)⟩)
        dsimp only [Pt.U, Pt.locs, Pt.cells, Pt.slots] at X38 l38 y38 z38 st38 hQ38
        subst l38 y38 z38
        obtain ⟨rfl, M38, e38⟩ := hQ38
        have N39 := Fr.app N37 M38
        refine own_by (T' := T38) (g' := (mkF m 65 #[.val (.long q0_0), .second, .val (.long q0_1), .second, .val (.long q0_2), .second, .val (.long q0_3), .second, .val (.int p0_4), .val (.long j26), .second, .val (.long j29), .second, .val (.int (own_F1 q0_0 j26)), .val (.int i36), .unset] [(.int (own_F2 q0_0 q0_1 j26 j29))])) st38 ?_
        refine own_by (T' := T38) (g' := (mkF m 69 #[.val (.long q0_0), .second, .val (.long q0_1), .second, .val (.long q0_2), .second, .val (.long q0_3), .second, .val (.int p0_4), .val (.long j26), .second, .val (.long j29), .second, .val (.int (own_F1 q0_0 j26)), .val (.int i36), .val (.int (own_F2 q0_0 q0_1 j26 j29))] [(.int (own_F2 q0_0 q0_1 j26 j29))])) (fun t k => ?_) ?_
        · show Steps p.tables e below (T38.setTop (mkF m 65 #[.val (.long q0_0), .second, .val (.long q0_1), .second, .val (.long q0_2), .second, .val (.long q0_3), .second, .val (.int p0_4), .val (.long j26), .second, .val (.long j29), .second, .val (.int (own_F1 q0_0 j26)), .val (.int i36), .unset] [(.int (own_F2 q0_0 q0_1 j26 j29))])) t
          refine XS.istore X38.here hx rfl (hb hby at_65) rfl (l' := #[.val (.long q0_0), .second, .val (.long q0_1), .second, .val (.long q0_2), .second, .val (.long q0_3), .second, .val (.int p0_4), .val (.long j26), .second, .val (.long j29), .second, .val (.int (own_F1 q0_0 j26)), .val (.int i36), .val (.int (own_F2 q0_0 q0_1 j26 j29))]) rfl ?_
          show Steps p.tables e below (T38.setTop (mkF m 67 #[.val (.long q0_0), .second, .val (.long q0_1), .second, .val (.long q0_2), .second, .val (.long q0_3), .second, .val (.int p0_4), .val (.long j26), .second, .val (.long j29), .second, .val (.int (own_F1 q0_0 j26)), .val (.int i36), .val (.int (own_F2 q0_0 q0_1 j26 j29))] [])) t
          refine XS.iload X38.here hx rfl (hb hby at_67) rfl ?_
          show Steps p.tables e below (T38.setTop (mkF m 69 #[.val (.long q0_0), .second, .val (.long q0_1), .second, .val (.long q0_2), .second, .val (.long q0_3), .second, .val (.int p0_4), .val (.long j26), .second, .val (.long j29), .second, .val (.int (own_F1 q0_0 j26)), .val (.int i36), .val (.int (own_F2 q0_0 q0_1 j26 j29))] [(.int (own_F2 q0_0 q0_1 j26 j29))])) t
          exact k
        obtain ⟨v40, _, ⟨T40, L40, k40, n40⟩, -, X40, ⟨Lc40, hQ40, l40, y40, z40⟩, st40⟩ := Jvm.LawKit.callS X38 hx (y := (⟨"com/example/vacant_errand/vacanterrand/PackedIdComparePinLaw", "sign", "(I)I"⟩ : MethodName)) hown (mvT hZ (hw _ (List.mem_of_getElem? (i := 16) rfl))) (mvT hZ (hw _ (List.mem_of_getElem? (i := 17) rfl))) (mvT hZ (hw _ (List.mem_of_getElem? (i := 2) rfl))) (mvT hZ (hw _ (List.mem_of_getElem? (i := 18) rfl))) (by decide) (backOf (W := 0) (own_rm5 l Z a0 hw [] (own_F2 q0_0 q0_1 j26 j29) h0 n0 Z0) hZ (hw _ (List.mem_of_getElem? (i := 18) rfl)) (hw _ (List.mem_of_getElem? (i := 2) rfl)) (by decide) (by decide)) (g := (mkF m 69 #[.val (.long q0_0), .second, .val (.long q0_1), .second, .val (.long q0_2), .second, .val (.long q0_3), .second, .val (.int p0_4), .val (.long j26), .second, .val (.long j29), .second, .val (.int (own_F1 q0_0 j26)), .val (.int i36), .val (.int (own_F2 q0_0 q0_1 j26 j29))] [(.int (own_F2 q0_0 q0_1 j26 j29))])) rfl (by rw [hml]; rfl) (argsL := [(.int (own_F2 q0_0 q0_1 j26 j29))]) (rest := []) (lenOf pd__I_I rfl) rfl (by show 2 * 0 + _ ≤ _; exact Nat.le_of_eq rfl) (hb hby at_69) (fun _ _ => ⟨rfl, e38, (by decide : 0 + 0 ≤ _), (by decide : 0 + 0 ≤ _)⟩)
        dsimp only [Pt.U, Pt.locs, Pt.cells, Pt.slots] at X40 l40 y40 z40 st40 hQ40
        subst l40 y40 z40
        obtain ⟨rfl, M40, e40⟩ := hQ40
        have N41 := Fr.app N39 M40
        refine own_by (T' := T40) (g' := (mkF m 72 #[.val (.long q0_0), .second, .val (.long q0_1), .second, .val (.long q0_2), .second, .val (.long q0_3), .second, .val (.int p0_4), .val (.long j26), .second, .val (.long j29), .second, .val (.int (own_F1 q0_0 j26)), .val (.int i36), .val (.int (own_F2 q0_0 q0_1 j26 j29))] [(.int (own_F5 (own_F2 q0_0 q0_1 j26 j29)))])) st40 ?_
        refine own_by (T' := T40) (g' := (mkF m 74 #[.val (.long q0_0), .second, .val (.long q0_1), .second, .val (.long q0_2), .second, .val (.long q0_3), .second, .val (.int p0_4), .val (.long j26), .second, .val (.long j29), .second, .val (.int (own_F1 q0_0 j26)), .val (.int i36), .val (.int (own_F2 q0_0 q0_1 j26 j29))] [(.int i36), (.int (own_F5 (own_F2 q0_0 q0_1 j26 j29)))])) (fun t k => ?_) ?_
        · show Steps p.tables e below (T40.setTop (mkF m 72 #[.val (.long q0_0), .second, .val (.long q0_1), .second, .val (.long q0_2), .second, .val (.long q0_3), .second, .val (.int p0_4), .val (.long j26), .second, .val (.long j29), .second, .val (.int (own_F1 q0_0 j26)), .val (.int i36), .val (.int (own_F2 q0_0 q0_1 j26 j29))] [(.int (own_F5 (own_F2 q0_0 q0_1 j26 j29)))])) t
          refine XS.iload X40.here hx rfl (hb hby at_72) rfl ?_
          show Steps p.tables e below (T40.setTop (mkF m 74 #[.val (.long q0_0), .second, .val (.long q0_1), .second, .val (.long q0_2), .second, .val (.long q0_3), .second, .val (.int p0_4), .val (.long j26), .second, .val (.long j29), .second, .val (.int (own_F1 q0_0 j26)), .val (.int i36), .val (.int (own_F2 q0_0 q0_1 j26 j29))] [(.int i36), (.int (own_F5 (own_F2 q0_0 q0_1 j26 j29)))])) t
          exact k
        by_cases hc42 : (own_F5 (own_F2 q0_0 q0_1 j26 j29)) = i36
        · skip
          refine own_by (T' := T40) (g' := (mkF m 82 #[.val (.long q0_0), .second, .val (.long q0_1), .second, .val (.long q0_2), .second, .val (.long q0_3), .second, .val (.int p0_4), .val (.long j26), .second, .val (.long j29), .second, .val (.int (own_F1 q0_0 j26)), .val (.int i36), .val (.int (own_F2 q0_0 q0_1 j26 j29))] [(.int (1 : Int32))])) (fun t k => ?_) ?_
          · show Steps p.tables e below (T40.setTop (mkF m 74 #[.val (.long q0_0), .second, .val (.long q0_1), .second, .val (.long q0_2), .second, .val (.long q0_3), .second, .val (.int p0_4), .val (.long j26), .second, .val (.long j29), .second, .val (.int (own_F1 q0_0 j26)), .val (.int i36), .val (.int (own_F2 q0_0 q0_1 j26 j29))] [(.int i36), (.int (own_F5 (own_F2 q0_0 q0_1 j26 j29)))])) t
            refine XS.icmpNo X40.here hx rfl (hb hby at_74) rfl (teq hc42).2 ?_
            show Steps p.tables e below (T40.setTop (mkF m 77 #[.val (.long q0_0), .second, .val (.long q0_1), .second, .val (.long q0_2), .second, .val (.long q0_3), .second, .val (.int p0_4), .val (.long j26), .second, .val (.long j29), .second, .val (.int (own_F1 q0_0 j26)), .val (.int i36), .val (.int (own_F2 q0_0 q0_1 j26 j29))] [])) t
            refine XS.iconst X40.here hx rfl (hb hby at_77) ?_
            show Steps p.tables e below (T40.setTop (mkF m 78 #[.val (.long q0_0), .second, .val (.long q0_1), .second, .val (.long q0_2), .second, .val (.long q0_3), .second, .val (.int p0_4), .val (.long j26), .second, .val (.long j29), .second, .val (.int (own_F1 q0_0 j26)), .val (.int i36), .val (.int (own_F2 q0_0 q0_1 j26 j29))] [(.int (1 : Int32))])) t
            refine XS.goto X40.here hx rfl (pc0 := 78) (pc' := 82) rfl (hb hby at_78) (by decide) (by decide) ?_
            show Steps p.tables e below (T40.setTop (mkF m 82 #[.val (.long q0_0), .second, .val (.long q0_1), .second, .val (.long q0_2), .second, .val (.long q0_3), .second, .val (.int p0_4), .val (.long j26), .second, .val (.long j29), .second, .val (.int (own_F1 q0_0 j26)), .val (.int i36), .val (.int (own_F2 q0_0 q0_1 j26 j29))] [(.int (1 : Int32))])) t
            exact k
          rw [show own_F0_54_3 q0_0 q0_1 q0_2 q0_3 p0_4 j26 j29 i36 = (1 : Int32) from ((if_pos hc42).trans rfl)]
          exact own_retN X40 hx (t := .boolean) Bd.returns (by simp) (hb hby at_82) hlk (by decide) (by decide) ⟨rfl, N41⟩
        · skip
          refine own_by (T' := T40) (g' := (mkF m 82 #[.val (.long q0_0), .second, .val (.long q0_1), .second, .val (.long q0_2), .second, .val (.long q0_3), .second, .val (.int p0_4), .val (.long j26), .second, .val (.long j29), .second, .val (.int (own_F1 q0_0 j26)), .val (.int i36), .val (.int (own_F2 q0_0 q0_1 j26 j29))] [(.int (0 : Int32))])) (fun t k => ?_) ?_
          · show Steps p.tables e below (T40.setTop (mkF m 74 #[.val (.long q0_0), .second, .val (.long q0_1), .second, .val (.long q0_2), .second, .val (.long q0_3), .second, .val (.int p0_4), .val (.long j26), .second, .val (.long j29), .second, .val (.int (own_F1 q0_0 j26)), .val (.int i36), .val (.int (own_F2 q0_0 q0_1 j26 j29))] [(.int i36), (.int (own_F5 (own_F2 q0_0 q0_1 j26 j29)))])) t
            refine XS.icmpYes X40.here hx rfl (pc0 := 74) (pc' := 81) rfl (hb hby at_74) rfl (feq hc42).2 (by decide) (by decide) ?_
            show Steps p.tables e below (T40.setTop (mkF m 81 #[.val (.long q0_0), .second, .val (.long q0_1), .second, .val (.long q0_2), .second, .val (.long q0_3), .second, .val (.int p0_4), .val (.long j26), .second, .val (.long j29), .second, .val (.int (own_F1 q0_0 j26)), .val (.int i36), .val (.int (own_F2 q0_0 q0_1 j26 j29))] [])) t
            refine XS.iconst X40.here hx rfl (hb hby at_81) ?_
            show Steps p.tables e below (T40.setTop (mkF m 82 #[.val (.long q0_0), .second, .val (.long q0_1), .second, .val (.long q0_2), .second, .val (.long q0_3), .second, .val (.int p0_4), .val (.long j26), .second, .val (.long j29), .second, .val (.int (own_F1 q0_0 j26)), .val (.int i36), .val (.int (own_F2 q0_0 q0_1 j26 j29))] [(.int (0 : Int32))])) t
            exact k
          rw [show own_F0_54_3 q0_0 q0_1 q0_2 q0_3 p0_4 j26 j29 i36 = (0 : Int32) from ((if_neg hc42).trans rfl)]
          exact own_retN X40 hx (t := .boolean) Bd.returns (by simp) (hb hby at_82) hlk (by decide) (by decide) ⟨rfl, N41⟩
      by_cases hc33 : (own_F1 q0_0 j26) = (0 : Int32)
      · skip
        refine own_by (T' := T31) (g' := (mkF m 51 #[.val (.long q0_0), .second, .val (.long q0_1), .second, .val (.long q0_2), .second, .val (.long q0_3), .second, .val (.int p0_4), .val (.long j26), .second, .val (.long j29), .second, .val (.int (own_F1 q0_0 j26)), .unset, .unset] [(.long j29), (.long q0_1)])) (fun t k => ?_) ?_
        · show Steps p.tables e below (T31.setTop (mkF m 40 #[.val (.long q0_0), .second, .val (.long q0_1), .second, .val (.long q0_2), .second, .val (.long q0_3), .second, .val (.int p0_4), .val (.long j26), .second, .val (.long j29), .second, .val (.int (own_F1 q0_0 j26)), .unset, .unset] [(.int (own_F1 q0_0 j26))])) t
          refine XS.ifYes X31.here hx rfl (pc0 := 40) (pc' := 48) rfl (hb hby at_40) rfl ((if0 _ _).trans (teq hc33).1) (by decide) (by decide) ?_
          show Steps p.tables e below (T31.setTop (mkF m 48 #[.val (.long q0_0), .second, .val (.long q0_1), .second, .val (.long q0_2), .second, .val (.long q0_3), .second, .val (.int p0_4), .val (.long j26), .second, .val (.long j29), .second, .val (.int (own_F1 q0_0 j26)), .unset, .unset] [])) t
          refine XS.lloadN X31.here hx rfl (hb hby at_48) rfl ?_
          show Steps p.tables e below (T31.setTop (mkF m 49 #[.val (.long q0_0), .second, .val (.long q0_1), .second, .val (.long q0_2), .second, .val (.long q0_3), .second, .val (.int p0_4), .val (.long j26), .second, .val (.long j29), .second, .val (.int (own_F1 q0_0 j26)), .unset, .unset] [(.long q0_1)])) t
          refine XS.lload X31.here hx rfl (hb hby at_49) rfl ?_
          show Steps p.tables e below (T31.setTop (mkF m 51 #[.val (.long q0_0), .second, .val (.long q0_1), .second, .val (.long q0_2), .second, .val (.long q0_3), .second, .val (.int p0_4), .val (.long j26), .second, .val (.long j29), .second, .val (.int (own_F1 q0_0 j26)), .unset, .unset] [(.long j29), (.long q0_1)])) t
          exact k
        obtain ⟨v43, _, ⟨T43, L43, k43, n43⟩, -, X43, ⟨Lc43, hQ43, l43, y43, z43⟩, st43⟩ := Jvm.LawKit.callS X31 hx (y := (⟨"com/example/vacant_errand/vacanterrand/PackedIdComparePinLaw", "unsignedOrder", "(JJ)I"⟩ : MethodName)) hown (mvT hZ (hw _ (List.mem_of_getElem? (i := 0) rfl))) (mvT hZ (hw _ (List.mem_of_getElem? (i := 1) rfl))) (mvT hZ (hw _ (List.mem_of_getElem? (i := 2) rfl))) (mvT hZ (hw _ (List.mem_of_getElem? (i := 3) rfl))) (by decide) (backOf (W := 0) (own_rm1 l Z a0 hw [] q0_1 j29 h0 n0 Z0) hZ (hw _ (List.mem_of_getElem? (i := 3) rfl)) (hw _ (List.mem_of_getElem? (i := 2) rfl)) (by decide) (by decide)) (g := (mkF m 51 #[.val (.long q0_0), .second, .val (.long q0_1), .second, .val (.long q0_2), .second, .val (.long q0_3), .second, .val (.int p0_4), .val (.long j26), .second, .val (.long j29), .second, .val (.int (own_F1 q0_0 j26)), .unset, .unset] [(.long j29), (.long q0_1)])) rfl (by rw [hml]; rfl) (argsL := [(.long q0_1), (.long j29)]) (rest := []) (lenOf pd__JJ_I rfl) rfl (by show 2 * 0 + _ ≤ _; exact Nat.le_of_eq rfl) (hb hby at_51) (fun _ _ => ⟨rfl, e31, (by decide : 0 + 0 ≤ _), (by decide : 0 + 0 ≤ _)⟩)
        dsimp only [Pt.U, Pt.locs, Pt.cells, Pt.slots] at X43 l43 y43 z43 st43 hQ43
        subst l43 y43 z43
        obtain ⟨rfl, M43, e43⟩ := hQ43
        have N44 := Fr.app N32 M43
        refine own_by (T' := T43) (g' := (mkF m 54 #[.val (.long q0_0), .second, .val (.long q0_1), .second, .val (.long q0_2), .second, .val (.long q0_3), .second, .val (.int p0_4), .val (.long j26), .second, .val (.long j29), .second, .val (.int (own_F1 q0_0 j26)), .unset, .unset] [(.int (own_F1 q0_1 j29))])) st43 ?_
        rw [show own_F0_28_2 q0_0 q0_1 q0_2 q0_3 p0_4 j26 j29 = (own_F0_54_3 q0_0 q0_1 q0_2 q0_3 p0_4 j26 j29 (own_F1 q0_1 j29)) from ((if_pos hc33).trans rfl)]
        exact J0_3 _ _ (own_F1 q0_1 j29) X43 e43 N44
      · skip
        refine own_by (T' := T31) (g' := (mkF m 54 #[.val (.long q0_0), .second, .val (.long q0_1), .second, .val (.long q0_2), .second, .val (.long q0_3), .second, .val (.int p0_4), .val (.long j26), .second, .val (.long j29), .second, .val (.int (own_F1 q0_0 j26)), .unset, .unset] [(.int (own_F1 q0_0 j26))])) (fun t k => ?_) ?_
        · show Steps p.tables e below (T31.setTop (mkF m 40 #[.val (.long q0_0), .second, .val (.long q0_1), .second, .val (.long q0_2), .second, .val (.long q0_3), .second, .val (.int p0_4), .val (.long j26), .second, .val (.long j29), .second, .val (.int (own_F1 q0_0 j26)), .unset, .unset] [(.int (own_F1 q0_0 j26))])) t
          refine XS.ifNo X31.here hx rfl (hb hby at_40) rfl ((if0 _ _).trans (feq hc33).1) ?_
          show Steps p.tables e below (T31.setTop (mkF m 43 #[.val (.long q0_0), .second, .val (.long q0_1), .second, .val (.long q0_2), .second, .val (.long q0_3), .second, .val (.int p0_4), .val (.long j26), .second, .val (.long j29), .second, .val (.int (own_F1 q0_0 j26)), .unset, .unset] [])) t
          refine XS.iload X31.here hx rfl (hb hby at_43) rfl ?_
          show Steps p.tables e below (T31.setTop (mkF m 45 #[.val (.long q0_0), .second, .val (.long q0_1), .second, .val (.long q0_2), .second, .val (.long q0_3), .second, .val (.int p0_4), .val (.long j26), .second, .val (.long j29), .second, .val (.int (own_F1 q0_0 j26)), .unset, .unset] [(.int (own_F1 q0_0 j26))])) t
          refine XS.goto X31.here hx rfl (pc0 := 45) (pc' := 54) rfl (hb hby at_45) (by decide) (by decide) ?_
          show Steps p.tables e below (T31.setTop (mkF m 54 #[.val (.long q0_0), .second, .val (.long q0_1), .second, .val (.long q0_2), .second, .val (.long q0_3), .second, .val (.int p0_4), .val (.long j26), .second, .val (.long j29), .second, .val (.int (own_F1 q0_0 j26)), .unset, .unset] [(.int (own_F1 q0_0 j26))])) t
          exact k
        rw [show own_F0_28_2 q0_0 q0_1 q0_2 q0_3 p0_4 j26 j29 = (own_F0_54_3 q0_0 q0_1 q0_2 q0_3 p0_4 j26 j29 (own_F1 q0_0 j26)) from ((if_neg hc33).trans rfl)]
        exact J0_3 _ _ (own_F1 q0_0 j26) X31 e31 N32
    by_cases hc28 : (p0_4 &&& (2 : Int32)) = (0 : Int32)
    · skip
      refine own_by (T' := T27) (g' := (mkF m 28 #[.val (.long q0_0), .second, .val (.long q0_1), .second, .val (.long q0_2), .second, .val (.long q0_3), .second, .val (.int p0_4), .val (.long j26), .second, .unset, .unset, .unset, .unset, .unset] [(.long q0_3)])) (fun t k => ?_) ?_
      · show Steps p.tables e below (T27.setTop (mkF m 19 #[.val (.long q0_0), .second, .val (.long q0_1), .second, .val (.long q0_2), .second, .val (.long q0_3), .second, .val (.int p0_4), .val (.long j26), .second, .unset, .unset, .unset, .unset, .unset] [(.int (p0_4 &&& (2 : Int32)))])) t
        refine XS.ifYes X27.here hx rfl (pc0 := 19) (pc' := 26) rfl (hb hby at_19) rfl ((if0 _ _).trans (teq hc28).1) (by decide) (by decide) ?_
        show Steps p.tables e below (T27.setTop (mkF m 26 #[.val (.long q0_0), .second, .val (.long q0_1), .second, .val (.long q0_2), .second, .val (.long q0_3), .second, .val (.int p0_4), .val (.long j26), .second, .unset, .unset, .unset, .unset, .unset] [])) t
        refine XS.lload X27.here hx rfl (hb hby at_26) rfl ?_
        show Steps p.tables e below (T27.setTop (mkF m 28 #[.val (.long q0_0), .second, .val (.long q0_1), .second, .val (.long q0_2), .second, .val (.long q0_3), .second, .val (.int p0_4), .val (.long j26), .second, .unset, .unset, .unset, .unset, .unset] [(.long q0_3)])) t
        exact k
      rw [show own_F0_13_1 q0_0 q0_1 q0_2 q0_3 p0_4 j26 = (own_F0_28_2 q0_0 q0_1 q0_2 q0_3 p0_4 j26 q0_3) from ((if_pos hc28).trans rfl)]
      exact J0_2 _ _ q0_3 X27 e27 N27
    · skip
      refine own_by (T' := T27) (g' := (mkF m 28 #[.val (.long q0_0), .second, .val (.long q0_1), .second, .val (.long q0_2), .second, .val (.long q0_3), .second, .val (.int p0_4), .val (.long j26), .second, .unset, .unset, .unset, .unset, .unset] [(.long q0_1)])) (fun t k => ?_) ?_
      · show Steps p.tables e below (T27.setTop (mkF m 19 #[.val (.long q0_0), .second, .val (.long q0_1), .second, .val (.long q0_2), .second, .val (.long q0_3), .second, .val (.int p0_4), .val (.long j26), .second, .unset, .unset, .unset, .unset, .unset] [(.int (p0_4 &&& (2 : Int32)))])) t
        refine XS.ifNo X27.here hx rfl (hb hby at_19) rfl ((if0 _ _).trans (feq hc28).1) ?_
        show Steps p.tables e below (T27.setTop (mkF m 22 #[.val (.long q0_0), .second, .val (.long q0_1), .second, .val (.long q0_2), .second, .val (.long q0_3), .second, .val (.int p0_4), .val (.long j26), .second, .unset, .unset, .unset, .unset, .unset] [])) t
        refine XS.lloadN X27.here hx rfl (hb hby at_22) rfl ?_
        show Steps p.tables e below (T27.setTop (mkF m 23 #[.val (.long q0_0), .second, .val (.long q0_1), .second, .val (.long q0_2), .second, .val (.long q0_3), .second, .val (.int p0_4), .val (.long j26), .second, .unset, .unset, .unset, .unset, .unset] [(.long q0_1)])) t
        refine XS.goto X27.here hx rfl (pc0 := 23) (pc' := 28) rfl (hb hby at_23) (by decide) (by decide) ?_
        show Steps p.tables e below (T27.setTop (mkF m 28 #[.val (.long q0_0), .second, .val (.long q0_1), .second, .val (.long q0_2), .second, .val (.long q0_3), .second, .val (.int p0_4), .val (.long j26), .second, .unset, .unset, .unset, .unset, .unset] [(.long q0_1)])) t
        exact k
      rw [show own_F0_13_1 q0_0 q0_1 q0_2 q0_3 p0_4 j26 = (own_F0_28_2 q0_0 q0_1 q0_2 q0_3 p0_4 j26 q0_1) from ((if_neg hc28).trans rfl)]
      exact J0_2 _ _ q0_1 X27 e27 N27
  by_cases hc25 : (p0_4 &&& (1 : Int32)) = (0 : Int32)
  · skip
    refine own_by (T' := s₁) (g' := (mkF m 13 #[.val (.long q0_0), .second, .val (.long q0_1), .second, .val (.long q0_2), .second, .val (.long q0_3), .second, .val (.int p0_4), .unset, .unset, .unset, .unset, .unset, .unset, .unset] [(.long q0_2)])) (fun t k => ?_) ?_
    · show Steps p.tables e below (s₁.setTop (mkF m 4 #[.val (.long q0_0), .second, .val (.long q0_1), .second, .val (.long q0_2), .second, .val (.long q0_3), .second, .val (.int p0_4), .unset, .unset, .unset, .unset, .unset, .unset, .unset] [(.int (p0_4 &&& (1 : Int32)))])) t
      refine XS.ifYes X0.here hx rfl (pc0 := 4) (pc' := 11) rfl (hb hby at_4) rfl ((if0 _ _).trans (teq hc25).1) (by decide) (by decide) ?_
      show Steps p.tables e below (s₁.setTop (mkF m 11 #[.val (.long q0_0), .second, .val (.long q0_1), .second, .val (.long q0_2), .second, .val (.long q0_3), .second, .val (.int p0_4), .unset, .unset, .unset, .unset, .unset, .unset, .unset] [])) t
      refine XS.lload X0.here hx rfl (hb hby at_11) rfl ?_
      show Steps p.tables e below (s₁.setTop (mkF m 13 #[.val (.long q0_0), .second, .val (.long q0_1), .second, .val (.long q0_2), .second, .val (.long q0_3), .second, .val (.int p0_4), .unset, .unset, .unset, .unset, .unset, .unset, .unset] [(.long q0_2)])) t
      exact k
    rw [show own_F0 q0_0 q0_1 q0_2 q0_3 p0_4 = (own_F0_13_1 q0_0 q0_1 q0_2 q0_3 p0_4 q0_2) from ((if_pos hc25).trans rfl)]
    exact J0_1 _ _ q0_2 X0 e0 N0
  · skip
    refine own_by (T' := s₁) (g' := (mkF m 13 #[.val (.long q0_0), .second, .val (.long q0_1), .second, .val (.long q0_2), .second, .val (.long q0_3), .second, .val (.int p0_4), .unset, .unset, .unset, .unset, .unset, .unset, .unset] [(.long q0_0)])) (fun t k => ?_) ?_
    · show Steps p.tables e below (s₁.setTop (mkF m 4 #[.val (.long q0_0), .second, .val (.long q0_1), .second, .val (.long q0_2), .second, .val (.long q0_3), .second, .val (.int p0_4), .unset, .unset, .unset, .unset, .unset, .unset, .unset] [(.int (p0_4 &&& (1 : Int32)))])) t
      refine XS.ifNo X0.here hx rfl (hb hby at_4) rfl ((if0 _ _).trans (feq hc25).1) ?_
      show Steps p.tables e below (s₁.setTop (mkF m 7 #[.val (.long q0_0), .second, .val (.long q0_1), .second, .val (.long q0_2), .second, .val (.long q0_3), .second, .val (.int p0_4), .unset, .unset, .unset, .unset, .unset, .unset, .unset] [])) t
      refine XS.lloadN X0.here hx rfl (hb hby at_7) rfl ?_
      show Steps p.tables e below (s₁.setTop (mkF m 8 #[.val (.long q0_0), .second, .val (.long q0_1), .second, .val (.long q0_2), .second, .val (.long q0_3), .second, .val (.int p0_4), .unset, .unset, .unset, .unset, .unset, .unset, .unset] [(.long q0_0)])) t
      refine XS.goto X0.here hx rfl (pc0 := 8) (pc' := 13) rfl (hb hby at_8) (by decide) (by decide) ?_
      show Steps p.tables e below (s₁.setTop (mkF m 13 #[.val (.long q0_0), .second, .val (.long q0_1), .second, .val (.long q0_2), .second, .val (.long q0_3), .second, .val (.int p0_4), .unset, .unset, .unset, .unset, .unset, .unset, .unset] [(.long q0_0)])) t
      exact k
    rw [show own_F0 q0_0 q0_1 q0_2 q0_3 p0_4 = (own_F0_13_1 q0_0 q0_1 q0_2 q0_3 p0_4 q0_0) from ((if_neg hc25).trans rfl)]
    exact J0_1 _ _ q0_0 X0 e0 N0
theorem own_min (x : Int64) : (x + (-9223372036854775808 : Int64)).toInt = if 0 ≤ x.toInt then x.toInt - 9223372036854775808 else x.toInt + 9223372036854775808 := by
  have h1 := x.toInt_lt
  have h2 := x.le_toInt
  have e : (-9223372036854775808 : Int64).toInt = -9223372036854775808 := by decide
  rw [Int64.toInt_add, e, Int.bmod_def]
  split <;> split <;> omega
theorem own_un (x y : Int64) : own_F3 x y = own_F1 x y := by
  have a := own_min x
  have b := own_min y
  have x1 := x.toInt_lt
  have x2 := x.le_toInt
  have y1 := y.toInt_lt
  have y2 := y.le_toInt
  have z : (0 : Int64).toInt = 0 := by decide
  have t1 : ((1 : Int32) = (0 : Int32)) = False := by decide
  have t2 : ((0 : Int32) = (1 : Int32)) = False := by decide
  unfold own_F3 own_F4 own_F1 own_F1_11_1 own_F1_24_2
  simp only [Int64.lt_iff_toInt_lt, ← Int64.toInt_inj, z, t1, t2, if_true, if_false]
  by_cases ha : 0 ≤ x.toInt
  · rw [if_pos ha] at a
    by_cases hb : 0 ≤ y.toInt
    · rw [if_pos hb] at b
      rw [a, b]
      repeat' split
      all_goals first | rfl | (exfalso; omega)
    · rw [if_neg hb] at b
      rw [a, b]
      repeat' split
      all_goals first | rfl | (exfalso; omega)
  · rw [if_neg ha] at a
    by_cases hb : 0 ≤ y.toInt
    · rw [if_pos hb] at b
      rw [a, b]
      repeat' split
      all_goals first | rfl | (exfalso; omega)
    · rw [if_neg hb] at b
      rw [a, b]
      repeat' split
      all_goals first | rfl | (exfalso; omega)
theorem own_sg (x y : Int64) : own_F5 (own_F1 x y) = own_F1 x y := by
  unfold own_F1 own_F1_11_1 own_F1_24_2
  repeat' split
  all_goals first | rfl | decide
theorem own_law (a b c d : Int64) (f : Int32) : own_F0 a b c d f = 1 := by
  have key : ∀ j k, own_F0_28_2 a b c d f j k = 1 := by
    intro j k
    unfold own_F0_28_2 own_F0_54_3 own_F2
    rw [own_un, own_un]
    by_cases h : own_F1 a j = 0
    · rw [if_pos h, if_pos h, if_pos (own_sg b k)]
    · rw [if_neg h, if_neg h, if_pos (own_sg a j)]
  unfold own_F0 own_F0_13_1
  repeat' split
  all_goals exact key _ _

set_option maxRecDepth 65536 in
set_option maxHeartbeats 40000000 in
theorem own_comes {Post : Tables → Env → Array Value → State → Outcome → State → Prop} (hpost : ∀ tb e args s v u, (limb_1_1.after args s (.returned v) u = true ∧ limb_1_2.after args s (.returned v) u = true ∧ True) → FrameEnd s (.returned v) u (Jvm.fieldLocs frame_1_writes args s ++ Jvm.arrayLocs frame_1_arrays args s ++ Jvm.staticLocs frame_1_statics s) 0 0 → Post tb e args s (.returned v) u) :
    ArmFor flags0 classFile x code maxLocals ret World_1 tables_1 room_1 Calls_1 rest_1 Pre_1 Post := by
  intro l hfl _ _ p e ha hc hk s m args below hf hA hF happ hP
  obtain ⟨hcalls, hrest, hpre⟩ := hP
  obtain ⟨-, -, -, hnamed, -, -, -, hat⟩ := (Spec.applies_iff hf).mp happ
  obtain ⟨hg, hn⟩ := and_e (Cond.before_iff.mp (show (Jvm.Cond.and given_1 narrow_1).before args s = true from hpre))
  obtain ⟨hg1, hg2⟩ := and_e hg
  obtain ⟨hg3, hg4⟩ := and_e hg2
  obtain ⟨hg5, hg6⟩ := and_e hg4
  obtain ⟨hg7, hg8⟩ := and_e hg6
  obtain ⟨hg9, hg10⟩ := and_e hg8
  obtain ⟨w0, w1, w2, w3, w4, rfl⟩ : ∃ w0 w1 w2 w3 w4 : Value, args = #[w0, w1, w2, w3, w4] := by
    have hs : args.size = 5 := by simpa [Cond.value, given_1] using hg1
    obtain ⟨L⟩ := args
    match L, hs with
    | [w0, w1, w2, w3, w4], _ => exact ⟨w0, w1, w2, w3, w4, rfl⟩
  have hw := fun d (hd : d ∈ tables_1) => atoms_spec (ws := Jvm.Cond.code x code maxLocals ret :: tables_1) hat d (List.mem_cons_of_mem _ hd)
  have hfit : Fit s := fun {y c} hc i hi => by
    obtain ⟨ha, rfl⟩ := Array.getElem?_eq_some_iff.mp hc
    have q := List.all_eq_true.mp ((Array.all_eq_true_iff_forall_mem.mp hF) _ (Array.getElem_mem ha)) i (List.mem_range.mpr hi)
    simpa [Array.getElem?_eq_getElem hi] using q
  obtain ⟨i0, ei0⟩ := isL_v hg3
  obtain rfl : w0 = (.long i0) := Option.some.inj ei0
  obtain ⟨i1, ei1⟩ := isL_v hg5
  obtain rfl : w1 = (.long i1) := Option.some.inj ei1
  obtain ⟨i2, ei2⟩ := isL_v hg7
  obtain rfl : w2 = (.long i2) := Option.some.inj ei2
  obtain ⟨i3, ei3⟩ := isL_v hg9
  obtain rfl : w3 = (.long i3) := Option.some.inj ei3
  obtain ⟨i4, ei4⟩ := is_v hg10
  obtain rfl : w4 = (.int i4) := Option.some.inj ei4
  obtain ⟨n, o, h1, h2, h3, _, L, rfl, ⟨rfl, N⟩, hq⟩ := own_rm0 l s _ hw tables_1 i0 i1 i2 i3 i4 s.heap s.heap.size (Nat.le_refl _) p e ha hc hk s m _ below hf ((Spec.applies_iff_loose hf).mp happ).1 ⟨rfl, State.Warmed39.refl s, rfl⟩ trivial
  refine ⟨n, _, h1, h2, h3, hpost _ _ _ _ _ _ ⟨Cond.after_iff.mpr rfl, Cond.after_iff.mpr (eq_i res_at (Term.int_eval (1)) (congrArg Value.int (own_law i0 i1 i2 i3 i4))), trivial⟩ ⟨hq.1, hq.2.1, (hq.2.2.sift fun y hy => Or.inr (N y hy)).mono (by decide) (by decide)⟩⟩
theorem main_1_1 : Claimed_1_1 := own_comes fun _ _ _ _ _ _ h hF => ⟨h.1, hF⟩
theorem main_1_2 : Claimed_1_2 := own_comes fun _ _ _ _ _ _ h hF => ⟨h.2.1, hF⟩
end Jvm.Pilot.@@N@@
namespace Jvm.Pilot.@@N@@
open Jvm Jvm.ClassFile Sem Op Lib Jvm.Free Jvm.Stand Jvm.Pilot.@@N@@.Jvm.D
/-! MADE BY PROGRAM (witnessworld.py) out of the Statement's table words and the real class files: 14 classes; the members and pool entries that the words name. The judged class is class 1, her method 3. -/
namespace start1
open Jvm.ClassFile
def u (s : String) : CpInfo := .utf8 (stringToUtf16 s)
/-- a pool by its gaps: so many unusable entries, then the entry; so many at the end -/
def gap : Nat → List CpInfo → List CpInfo
  | 0, r => r
  | n + 1, r => .unusable :: gap n r
def poolList (es : List (Nat × CpInfo)) (last : Nat) : List CpInfo := es.foldr (fun e r => gap e.1 (e.2 :: r)) (gap last [])
def pool (es : List (Nat × CpInfo)) (last : Nat) : Array CpInfo := ⟨poolList es last⟩
def fileOf (pool : Array CpInfo) (this : Nat) (attrs : Array Attribute := #[]) (ms : Array MethodInfo := #[]) (fl : Nat := 33) (sup : Nat := 0) (ifs : Array Nat := #[]) (fds : Array FieldInfo := #[]) : ClassFile where
  minorVersion := 0
  majorVersion := 65
  constantPool := pool
  accessFlags := fl
  thisClass := this
  superClass := sup
  interfaces := ifs
  fields := fds
  methods := ms
  attributes := attrs
def plain (name : String) (sup : Option ClassId) : Class where
  name := name
  kind := .ordinary
  loader := none
  accessFlags := 33
  super := sup
  interfaces := #[]
  cf := none
  fields := #[]
  methods := #[]
  instanceTypes := #[]
  staticTypes := #[]
  resolved := #[]
  callSites := []
  init := .initialized
  statics := none
  mirror := none

def pool0 : Array CpInfo := pool [(5, u "<init>"), (0, u "()V"), (1, .class_ 10), (1, u "java/lang/Object")] 113

def k0m0 : Method := { name := "<init>", desc := "()V", sig := { parameters := [], returnType := none }, accessFlags := 1, code := none }
/-- java/lang/Object -/
def k0 : Class := { plain "java/lang/Object" none with
  accessFlags := 33
  interfaces := #[]
  cf := some (fileOf pool0 8 #[] #[{ accessFlags := 1, nameIndex := 5, descriptorIndex := 6, attributes := #[] }] 33 0 #[] #[])
  fields := #[]
  methods := #[k0m0]
  instanceTypes := #[]
  staticTypes := #[]
  resolved := Array.replicate 124 none
  statics := none }

def pool1 : Array CpInfo := pool [(2, .class_ 4), (1, u "java/lang/Object"), (0, u "<init>"), (0, u "()V"), (0, .methodref 8 9), (0, .class_ 10), (0, .nameAndType 11 12), (0, u "com/example/vacant_errand/vacanterrand/PackedIdComparePinLaw"), (0, u "unsignedOrder"), (0, u "(JJ)I"), (0, .methodref 14 15), (0, .class_ 16), (0, .nameAndType 17 18), (0, u "com/example/vacant_errand/vacanterrand/PackedId"), (0, u "compare"), (0, u "(JJJJ)I"), (0, .methodref 8 20), (0, .nameAndType 21 22), (0, u "sign"), (0, u "(I)I"), (3, u "law"), (0, u "(JJJJI)Z")] 2

def k1m0 : Method := { name := "<init>", desc := "()V", sig := { parameters := [], returnType := none }, accessFlags := 2, code := none }
def k1c1 : Code := { maxStack := 4, maxLocals := 6, code := method_2_code, exceptionTable := #[], attributes := #[] }
def k1m1 : Method := { name := "unsignedOrder", desc := "(JJ)I", sig := { parameters := [.long, .long], returnType := some .int }, accessFlags := 10, code := some k1c1 }
def k1c2 : Code := { maxStack := 1, maxLocals := 1, code := method_3_code, exceptionTable := #[], attributes := #[] }
def k1m2 : Method := { name := "sign", desc := "(I)I", sig := { parameters := [.int], returnType := some .int }, accessFlags := 10, code := some k1c2 }
def k1c3 : Code := { maxStack := 8, maxLocals := 16, code := code, exceptionTable := #[], attributes := #[] }
def k1m3 : Method := { name := "law", desc := "(JJJJI)Z", sig := { parameters := [.long, .long, .long, .long, .int], returnType := some .boolean }, accessFlags := 9, code := some k1c3 }
/-- com/example/vacant_errand/vacanterrand/PackedIdComparePinLaw -/
def k1 : Class := { plain "com/example/vacant_errand/vacanterrand/PackedIdComparePinLaw" (some 0) with
  accessFlags := 49
  interfaces := #[]
  cf := some (fileOf pool1 8 #[] #[{ accessFlags := 2, nameIndex := 5, descriptorIndex := 6, attributes := #[] }, { accessFlags := 10, nameIndex := 11, descriptorIndex := 12, attributes := #[] }, { accessFlags := 10, nameIndex := 21, descriptorIndex := 22, attributes := #[] }, { accessFlags := 9, nameIndex := 26, descriptorIndex := 27, attributes := #[] }] 49 2 #[] #[])
  fields := #[]
  methods := #[k1m0, k1m1, k1m2, k1m3]
  instanceTypes := #[]
  staticTypes := #[]
  resolved := Array.replicate 30 none
  statics := none }

def pool2 : Array CpInfo := pool [(2, .class_ 4), (1, u "java/lang/Object"), (0, u "<init>"), (0, u "()V"), (6, .class_ 14), (0, u "com/example/vacant_errand/vacanterrand/PackedId"), (22, .class_ 39), (1, u "java/lang/Long"), (2, .methodref 37 43), (0, .nameAndType 44 45), (0, u "compareUnsigned"), (0, u "(JJ)I"), (2, u "PLACES"), (0, u "[B"), (6, u "LENGTH"), (0, u "I"), (2, u "CHARACTERS"), (0, u "Ljava/lang/String;"), (0, u "LAST_CHARACTERS"), (0, u "HIGH_CHARACTERS"), (14, u "compare"), (0, u "(JJJJ)I")] 3

def k2m0 : Method := { name := "<init>", desc := "()V", sig := { parameters := [], returnType := none }, accessFlags := 2, code := none }
def k2c1 : Code := { maxStack := 4, maxLocals := 9, code := prog_5_method_7_code, exceptionTable := #[], attributes := #[] }
def k2m1 : Method := { name := "compare", desc := "(JJJJ)I", sig := { parameters := [.long, .long, .long, .long], returnType := some .int }, accessFlags := 8, code := some k2c1 }
/-- com/example/vacant_errand/vacanterrand/PackedId -/
def k2 : Class := { plain "com/example/vacant_errand/vacanterrand/PackedId" (some 0) with
  accessFlags := 48
  interfaces := #[]
  cf := some (fileOf pool2 13 #[] #[{ accessFlags := 2, nameIndex := 5, descriptorIndex := 6, attributes := #[] }, { accessFlags := 8, nameIndex := 78, descriptorIndex := 79, attributes := #[] }] 48 2 #[] #[{ accessFlags := 26, nameIndex := 56, descriptorIndex := 57, attributes := #[] }, { accessFlags := 26, nameIndex := 60, descriptorIndex := 61, attributes := #[] }, { accessFlags := 26, nameIndex := 62, descriptorIndex := 61, attributes := #[] }, { accessFlags := 26, nameIndex := 63, descriptorIndex := 57, attributes := #[] }, { accessFlags := 26, nameIndex := 48, descriptorIndex := 49, attributes := #[] }])
  fields := #[{ name := "LENGTH", type := .int, accessFlags := 26, slot := 0, constantValue := 0 }, { name := "CHARACTERS", type := (.object "java/lang/String"), accessFlags := 26, slot := 1, constantValue := 0 }, { name := "LAST_CHARACTERS", type := (.object "java/lang/String"), accessFlags := 26, slot := 2, constantValue := 0 }, { name := "HIGH_CHARACTERS", type := .int, accessFlags := 26, slot := 3, constantValue := 0 }, { name := "PLACES", type := (.array .byte), accessFlags := 26, slot := 4, constantValue := 0 }]
  methods := #[k2m0, k2m1]
  instanceTypes := #[]
  staticTypes := #[.int, (.object "java/lang/String"), (.object "java/lang/String"), .int, (.array .byte)]
  resolved := Array.replicate 83 none
  statics := none }

def pool3 : Array CpInfo := pool [(1, .class_ 2), (0, u "java/io/Serializable"), (0, .class_ 4), (0, u "java/lang/Object")] 2

/-- java/io/Serializable -/
def k3 : Class := { plain "java/io/Serializable" (some 0) with
  accessFlags := 1537
  interfaces := #[]
  cf := some (fileOf pool3 1 #[] #[] 1537 3 #[] #[])
  fields := #[]
  methods := #[]
  instanceTypes := #[]
  staticTypes := #[]
  resolved := Array.replicate 7 none
  statics := none }

def pool4 : Array CpInfo := pool [(2, .class_ 4), (1, u "java/lang/Object"), (0, u "<init>"), (0, u "()V"), (1, .class_ 10), (1, u "java/lang/Number"), (2, .class_ 14), (0, u "java/io/Serializable"), (0, u "serialVersionUID"), (0, u "J")] 20

def k4m0 : Method := { name := "<init>", desc := "()V", sig := { parameters := [], returnType := none }, accessFlags := 1, code := none }
/-- java/lang/Number -/
def k4 : Class := { plain "java/lang/Number" (some 0) with
  accessFlags := 1057
  interfaces := #[3]
  cf := some (fileOf pool4 8 #[] #[{ accessFlags := 1, nameIndex := 5, descriptorIndex := 6, attributes := #[] }] 1057 2 #[13] #[{ accessFlags := 26, nameIndex := 15, descriptorIndex := 16, attributes := #[] }])
  fields := #[{ name := "serialVersionUID", type := .long, accessFlags := 26, slot := 0, constantValue := 0 }]
  methods := #[k4m0]
  instanceTypes := #[]
  staticTypes := #[.long]
  resolved := Array.replicate 37 none
  statics := none }

def pool5 : Array CpInfo := pool [(1, .class_ 2), (0, u "java/lang/Comparable"), (0, .class_ 4), (0, u "java/lang/Object")] 7

/-- java/lang/Comparable -/
def k5 : Class := { plain "java/lang/Comparable" (some 0) with
  accessFlags := 1537
  interfaces := #[]
  cf := some (fileOf pool5 1 #[] #[] 1537 3 #[] #[])
  fields := #[]
  methods := #[]
  instanceTypes := #[]
  staticTypes := #[]
  resolved := Array.replicate 12 none
  statics := none }

def pool6 : Array CpInfo := pool [(1, .class_ 2), (0, u "java/lang/constant/Constable"), (0, .class_ 4), (0, u "java/lang/Object")] 6

/-- java/lang/constant/Constable -/
def k6 : Class := { plain "java/lang/constant/Constable" (some 0) with
  accessFlags := 1537
  interfaces := #[]
  cf := some (fileOf pool6 1 #[] #[] 1537 3 #[] #[])
  fields := #[]
  methods := #[]
  instanceTypes := #[]
  staticTypes := #[]
  resolved := Array.replicate 11 none
  statics := none }

def pool7 : Array CpInfo := pool [(1, .class_ 2), (0, u "java/lang/constant/ConstantDesc"), (0, .class_ 4), (0, u "java/lang/Object")] 32

/-- java/lang/constant/ConstantDesc -/
def k7 : Class := { plain "java/lang/constant/ConstantDesc" (some 0) with
  accessFlags := 1537
  interfaces := #[]
  cf := some (fileOf pool7 1 #[] #[] 1537 3 #[] #[])
  fields := #[]
  methods := #[]
  instanceTypes := #[]
  staticTypes := #[]
  resolved := Array.replicate 37 none
  statics := none }

def pool8 : Array CpInfo := pool [(1, .class_ 2), (0, u "java/lang/Long"), (165, .long 9223372036854775808), (66, .class_ 237), (1, u "java/lang/Long$LongCache"), (33, .class_ 272), (0, u "java/lang/Number"), (2, u "value"), (0, u "J"), (25, .methodref 1 303), (0, .nameAndType 304 305), (0, u "compare"), (0, u "(JJ)I"), (55, u "TYPE"), (0, u "Ljava/lang/Class;"), (0, .class_ 364), (0, u "java/lang/Comparable"), (0, .class_ 366), (0, u "java/lang/constant/Constable"), (0, .class_ 368), (0, u "java/lang/constant/ConstantDesc"), (0, u "MIN_VALUE"), (1, u "MAX_VALUE"), (4, u "SIZE"), (0, u "I"), (1, u "BYTES"), (1, u "serialVersionUID"), (87, u "compareUnsigned")] 54

def k8c0 : Code := { maxStack := 4, maxLocals := 4, code := jdk_35_method_42_code, exceptionTable := #[], attributes := #[] }
def k8m0 : Method := { name := "compare", desc := "(JJ)I", sig := { parameters := [.long, .long], returnType := some .int }, accessFlags := 9, code := some k8c0 }
def k8c1 : Code := { maxStack := 6, maxLocals := 4, code := jdk_35_method_43_code, exceptionTable := #[], attributes := #[] }
def k8m1 : Method := { name := "compareUnsigned", desc := "(JJ)I", sig := { parameters := [.long, .long], returnType := some .int }, accessFlags := 9, code := some k8c1 }
/-- java/lang/Long -/
def k8 : Class := { plain "java/lang/Long" (some 4) with
  accessFlags := 49
  interfaces := #[5, 6, 7]
  cf := some (fileOf pool8 1 #[.nestMembers #[235]] #[{ accessFlags := 9, nameIndex := 304, descriptorIndex := 305, attributes := #[] }, { accessFlags := 9, nameIndex := 469, descriptorIndex := 305, attributes := #[] }] 49 271 #[363, 365, 367] #[{ accessFlags := 25, nameIndex := 369, descriptorIndex := 276, attributes := #[] }, { accessFlags := 25, nameIndex := 371, descriptorIndex := 276, attributes := #[] }, { accessFlags := 25, nameIndex := 361, descriptorIndex := 362, attributes := #[] }, { accessFlags := 18, nameIndex := 275, descriptorIndex := 276, attributes := #[] }, { accessFlags := 25, nameIndex := 376, descriptorIndex := 377, attributes := #[] }, { accessFlags := 25, nameIndex := 379, descriptorIndex := 377, attributes := #[] }, { accessFlags := 26, nameIndex := 381, descriptorIndex := 276, attributes := #[] }])
  fields := #[{ name := "MIN_VALUE", type := .long, accessFlags := 25, slot := 0, constantValue := 0 }, { name := "MAX_VALUE", type := .long, accessFlags := 25, slot := 1, constantValue := 0 }, { name := "TYPE", type := (.object "java/lang/Class"), accessFlags := 25, slot := 2, constantValue := 0 }, { name := "value", type := .long, accessFlags := 18, slot := 0, constantValue := 0 }, { name := "SIZE", type := .int, accessFlags := 25, slot := 3, constantValue := 0 }, { name := "BYTES", type := .int, accessFlags := 25, slot := 4, constantValue := 0 }, { name := "serialVersionUID", type := .long, accessFlags := 26, slot := 5, constantValue := 0 }]
  methods := #[k8m0, k8m1]
  instanceTypes := #[.long]
  staticTypes := #[.long, .long, (.object "java/lang/Class"), .int, .int, .long]
  resolved := Array.replicate 524 none
  statics := none }

def pool9 : Array CpInfo := pool [(1, u "java/lang/Cloneable"), (0, .class_ 1), (0, u "java/lang/Object"), (0, .class_ 3)] 3

/-- java/lang/Cloneable -/
def k9 : Class := { plain "java/lang/Cloneable" (some 0) with
  accessFlags := 1537
  interfaces := #[]
  cf := some (fileOf pool9 2 #[] #[] 1537 4 #[] #[])
  fields := #[]
  methods := #[]
  instanceTypes := #[]
  staticTypes := #[]
  resolved := Array.replicate 8 none
  statics := none }

/-- the primitive byte -/
def k10 : Class := { plain "byte" none with kind := .primitive 'B', accessFlags := 0x411 }
/-- [B -/
def k11 : Class := { plain "[B" (some 0) with kind := .array 10 .byte, interfaces := #[9, 3], accessFlags := 1041 }

/-- the primitive int -/
def k12 : Class := { plain "int" none with kind := .primitive 'I', accessFlags := 0x411 }
/-- [I -/
def k13 : Class := { plain "[I" (some 0) with kind := .array 12 .int, interfaces := #[9, 3], accessFlags := 1041 }

def heap : Heap := #[]
def classes : Array Class := #[k0, k1, k2, k3, k4, k5, k6, k7, k8, k9, k10, k11, k12, k13]
def interned : List (Array UInt16 × Addr) := []
def slotsUsed : Nat := 0
def theMethod : MethodId := ⟨1, 3⟩
def args0 : Array Value := #[.long 5, .long 6, .long 7, .long 8, .int 1]
def aboutOver (below : List Frame) : State where
  vm := { classes := classes, interned := interned.toArray }
  heap := heap
  slotsUsed := slotsUsed
  threads := #[{ frames := .invoking theMethod args0 :: below }]
def below0 : List Frame := [.native { method := ⟨0, 0⟩, args := #[] }]
def about1 : State := aboutOver below0
def p0 : Program := .bare "" "" ""
def e0 : Env := launch0.env 0 0 0
theorem w_frames : about1.frames = Frame.invoking theMethod args0 :: below0 := rfl
set_option maxRecDepth 65536 in
theorem w_args : argsFit about1.vm theMethod args0 = true := by decide +kernel
set_option maxRecDepth 65536 in
theorem w_heap : heapFits about1 = true := by decide +kernel
set_option maxRecDepth 65536 in
theorem w_runnable : about1.curStatus? = some .runnable := by decide +kernel
set_option maxRecDepth 65536 in
theorem w_alone : about1.alone = true := by decide +kernel
set_option maxRecDepth 65536 in
theorem w_named : about1.methodNamed? x = some theMethod := by decide +kernel
set_option maxRecDepth 65536 in
theorem w_hears : about1.hears theMethod below0 = true := by decide +kernel
set_option maxRecDepth 65536 in
theorem w_ripe : about1.ripe theMethod args0 below0 = true := by decide +kernel
theorem w_running : about1.status = .running := rfl
set_option maxRecDepth 65536 in
theorem w_room : about1.hasRoom e0.platform room_1 = true :=
  launch0.hasRoom_least _ room_1 (by decide +kernel) (by decide +kernel) (by decide +kernel) (by decide +kernel) (by decide +kernel) (by decide +kernel)
theorem allAtoms_all (ts : List Jvm.Cond) (a : Array Jvm.Value) (st : Jvm.State) : (allAtoms ts).before a st = ts.all (fun c => c.before a st) := by
  induction ts with
  | nil => rfl
  | cons c t ih =>
    show (Jvm.Cond.and c (allAtoms t)).before a st = _
    rw [Jvm.Cond.before_and, ih, List.all_cons]
def words1 : List Jvm.Cond := Jvm.Cond.code x code maxLocals ret :: tables_1
/-- a 'code' word, met by the world's own term for the bytes: nothing is compared byte by byte -/
theorem code_word {y : MethodName} {bytes : ByteArray} {mx : Nat} {rt : Option FieldType} {a : Array Value} {s : State} {m : MethodId} {meth : Method} {c : Code} (h1 : s.methodNamed? y = some m) (h2 : s.vm.method? m = some meth) (h3 : meth.code = some c) (h4 : c.code = bytes)
    (h5 : (c.maxLocals == mx && c.exceptionTable.isEmpty && decide (c.maxStack ≤ mostOperands) && decide (meth.sig.returnType = rt) && !meth.locks && decide (parseMethodDescriptor y.desc = some meth.sig)) = true) : (Jvm.Cond.code y bytes mx rt).before a s = true := by
  simp only [Bool.and_eq_true, beq_iff_eq, Bool.not_eq_true', decide_eq_true_eq] at h5
  obtain ⟨⟨⟨⟨⟨g1, g2⟩, g3⟩, g4⟩, g5⟩, g6⟩ := h5
  simp [Cond.before, Cond.holds, Cond.value, h1, h2, h3, h4, g1, g2, g3, g4, g5, g6]
def isCode : Jvm.Cond → Bool
  | .code _ _ _ _ => true
  | _ => false
theorem all_split {L : List Jvm.Cond} {P : Jvm.Cond → Bool} (h1 : L.all (fun c => isCode c || P c) = true) (h2 : ∀ c ∈ L.filter isCode, P c = true) : L.all P = true := by
  refine List.all_eq_true.mpr fun c hc => ?_
  have h := List.all_eq_true.mp h1 c hc
  rcases Bool.eq_false_or_eq_true (isCode c) with hi | hi
  · exact h2 c (List.mem_filter.mpr ⟨hc, hi⟩)
  · simpa [hi] using h
set_option maxRecDepth 65536 in
theorem w_c0 : (Jvm.Cond.code x code maxLocals ret).before args0 about1 = true := code_word (m := ⟨1, 3⟩) (meth := k1m3) (c := k1c3) (by decide +kernel) rfl rfl rfl (by decide +kernel)
set_option maxRecDepth 65536 in
theorem w_c1 : (Jvm.Cond.code ({ cls := "com/example/vacant_errand/vacanterrand/PackedIdComparePinLaw", name := "unsignedOrder", desc := "(JJ)I" } : Jvm.MethodName) method_2_code (6 : Nat) (Option.some Jvm.ClassFile.FieldType.int)).before args0 about1 = true := code_word (m := ⟨1, 1⟩) (meth := k1m1) (c := k1c1) (by decide +kernel) rfl rfl rfl (by decide +kernel)
set_option maxRecDepth 65536 in
theorem w_c2 : (Jvm.Cond.code ({ cls := "com/example/vacant_errand/vacanterrand/PackedId", name := "compare", desc := "(JJJJ)I" } : Jvm.MethodName) prog_5_method_7_code (9 : Nat) (Option.some Jvm.ClassFile.FieldType.int)).before args0 about1 = true := code_word (m := ⟨2, 1⟩) (meth := k2m1) (c := k2c1) (by decide +kernel) rfl rfl rfl (by decide +kernel)
set_option maxRecDepth 65536 in
theorem w_c3 : (Jvm.Cond.code ({ cls := "java/lang/Long", name := "compareUnsigned", desc := "(JJ)I" } : Jvm.MethodName) jdk_35_method_43_code (4 : Nat) (Option.some Jvm.ClassFile.FieldType.int)).before args0 about1 = true := code_word (m := ⟨8, 1⟩) (meth := k8m1) (c := k8c1) (by decide +kernel) rfl rfl rfl (by decide +kernel)
set_option maxRecDepth 65536 in
theorem w_c4 : (Jvm.Cond.code ({ cls := "java/lang/Long", name := "compare", desc := "(JJ)I" } : Jvm.MethodName) jdk_35_method_42_code (4 : Nat) (Option.some Jvm.ClassFile.FieldType.int)).before args0 about1 = true := code_word (m := ⟨8, 0⟩) (meth := k8m0) (c := k8c0) (by decide +kernel) rfl rfl rfl (by decide +kernel)
set_option maxRecDepth 65536 in
theorem w_c5 : (Jvm.Cond.code ({ cls := "com/example/vacant_errand/vacanterrand/PackedIdComparePinLaw", name := "sign", desc := "(I)I" } : Jvm.MethodName) method_3_code (1 : Nat) (Option.some Jvm.ClassFile.FieldType.int)).before args0 about1 = true := code_word (m := ⟨1, 2⟩) (meth := k1m2) (c := k1c2) (by decide +kernel) rfl rfl rfl (by decide +kernel)
def codes1 : List Jvm.Cond := [Jvm.Cond.code x code maxLocals ret, Jvm.Cond.code ({ cls := "com/example/vacant_errand/vacanterrand/PackedIdComparePinLaw", name := "unsignedOrder", desc := "(JJ)I" } : Jvm.MethodName) method_2_code (6 : Nat) (Option.some Jvm.ClassFile.FieldType.int), Jvm.Cond.code ({ cls := "com/example/vacant_errand/vacanterrand/PackedId", name := "compare", desc := "(JJJJ)I" } : Jvm.MethodName) prog_5_method_7_code (9 : Nat) (Option.some Jvm.ClassFile.FieldType.int), Jvm.Cond.code ({ cls := "java/lang/Long", name := "compareUnsigned", desc := "(JJ)I" } : Jvm.MethodName) jdk_35_method_43_code (4 : Nat) (Option.some Jvm.ClassFile.FieldType.int), Jvm.Cond.code ({ cls := "java/lang/Long", name := "compare", desc := "(JJ)I" } : Jvm.MethodName) jdk_35_method_42_code (4 : Nat) (Option.some Jvm.ClassFile.FieldType.int), Jvm.Cond.code ({ cls := "com/example/vacant_errand/vacanterrand/PackedIdComparePinLaw", name := "sign", desc := "(I)I" } : Jvm.MethodName) method_3_code (1 : Nat) (Option.some Jvm.ClassFile.FieldType.int)]
set_option maxRecDepth 65536 in
theorem codes_eq : words1.filter isCode = codes1 := rfl
theorem w_codes : ∀ c ∈ words1.filter isCode, c.before args0 about1 = true := by
  rw [codes_eq]
  intro c hc
  simp only [codes1, List.mem_cons, List.not_mem_nil, or_false] at hc
  rcases hc with rfl | rfl | rfl | rfl | rfl | rfl
  · exact w_c0
  · exact w_c1
  · exact w_c2
  · exact w_c3
  · exact w_c4
  · exact w_c5
set_option maxRecDepth 65536 in
theorem w_t1 : words1.all (fun c => isCode c || c.before args0 about1) = true := by decide +kernel
theorem w_tables : (allAtoms (Jvm.Cond.code x code maxLocals ret :: tables_1)).before args0 about1 = true := by
  rw [allAtoms_all]
  show words1.all (fun c => c.before args0 about1) = true
  refine all_split ?_ w_codes
  rw [w_t1]
set_option maxRecDepth 65536 in
theorem w_case : (Jvm.Cond.and given_1 narrow_1).before args0 about1 = true := by decide +kernel
theorem w_applies : (headSpec (Jvm.Cond.code x code maxLocals ret :: tables_1) room_1).applies x e0.platform about1 = true :=
  (Spec.applies_iff w_frames).mpr ⟨w_running, w_runnable, w_alone, w_named, w_hears, w_ripe, w_room, w_tables⟩
theorem atStart : AtStart classFile x code maxLocals ret World_1 tables_1 room_1 Calls_1 rest_1 Pre_1 launch0 p0 e0 about1 theMethod args0 below0 :=
  ⟨lists_1, trivial, launch0.admits_env _ _ _, launch0.least_env, fairChoices_fair.cas, fairChoices_fair.clock, w_frames, w_args, w_heap, w_applies, trivial, trivial, w_case⟩
end start1
theorem witness_1 : WitnessClaimed_1 := ⟨start1.p0, start1.e0, start1.about1, start1.theMethod, start1.args0, start1.below0, start1.atStart⟩
end Jvm.Pilot.@@N@@
