import JvmDerived
import JvmDerived.Pilot.@@N@@Statement
import JvmDerived.Pilot.@@N@@Code
set_option linter.unusedVariables false
set_option linter.unusedSimpArgs false
namespace Jvm.Pilot.@@N@@
open Jvm Jvm.ClassFile Sem Op Lib Jvm.Free Jvm.Stand Jvm.LawKit Jvm.RoadKit Bundle Jvm.Pilot.@@N@@.Jvm.D
/-- from the frame g at T the run reaches a state of which P holds -/
def own_Go (p : Program) (e : Env) (below : List Frame) (P : State → Outcome → Prop) (T : State) (g : JFrame) : Prop := ∃ t o, Steps p.tables e below (T.setTop g) t ∧ P t o
/-- the run has left the method: what it returned, the heap and the places written are as Q says -/
def own_P (s : State) (below : List Frame) (R : Room) (Q : Option Value → Heap → List Loc → Prop) (t : State) (o : Outcome) : Prop := t.status = .running ∧ Ended t below o ∧ ∃ v L, o = .returned v ∧ Q v t.heap L ∧ FrameEnd s o t L R.cells R.slots
section OwnKit
variable {p : Program} {l : Launch} {e : Env} {R : Room} {s : State} {m : MethodId} {args : Array Value} {below : List Frame} {meth : Method} {c : Code} {T T' : State} {locs : List Loc} {cells slots : Nat} {P : State → Outcome → Prop} {g g' : JFrame}
theorem own_by (k : ∀ t, Steps p.tables e below (T'.setTop g') t → Steps p.tables e below (T.setTop g) t) (h : own_Go p e below P T' g') : own_Go p e below P T g := by
  obtain ⟨t, o, st, q⟩ := h
  exact ⟨t, o, k t st, q⟩
theorem own_via (k : Steps p.tables e below (T.setTop g) (T'.setTop g')) (h : own_Go p e below P T' g') : own_Go p e below P T g := own_by (fun _ st => k.trans st) h
theorem own_in (q : g = g') (h : own_Go p e below P T g') : own_Go p e below P T g := q ▸ h
theorem own_out {v : Option Value} {Q : Option Value → Heap → List Loc → Prop} (X : Stand p l e R s m args below meth c T locs cells slots) (hv : meth.sig.returnType = none → v = none) (hlk : meth.locks = false) (hc : cells ≤ R.cells) (hs : slots ≤ R.slots) (q : Q v T.heap locs)
    (k : ∀ fs, (∀ (f : JFrame) (acts : List Action), f.method = m → f.locked = none → f.entered = [] → (doReturn e (T.setTop f) acts v).1 = T.setFrames fs) → Steps p.tables e below (T.setTop g) (T.setFrames fs)) : own_Go p e below (own_P s below R Q) T g := by
  obtain ⟨fs, hr, hrun, hended, hW, hsame⟩ := X.leave (v := v) hv hlk
  exact ⟨_, _, k fs hr, hrun, hended, _, _, rfl, q, ⟨_, rfl⟩, hW, hsame.mono hc hs⟩
theorem own_some {t : FieldType} {w : Value} (h : meth.sig.returnType = some t) : meth.sig.returnType = none → some w = none := fun q => by rw [h] at q; cases q
theorem own_retN {pc : Nat} {Ls : Array Slot} {z : Int32} {t : FieldType} {rest : List Value} {Q : Option Value → Heap → List Loc → Prop} (X : Stand p l e R s m args below meth c T locs cells slots) (hx : p.tables.exec = Jvm.exec) (hret : meth.sig.returnType = some t) (ht : t = .boolean ∨ t = .byte ∨ t = .char ∨ t = .short)
    (hd : decode c.code pc = .ok (.ireturn, 1)) (hlk : meth.locks = false) (hc : cells ≤ R.cells) (hs : slots ≤ R.slots) (q : Q (some (.int (nar t z))) T.heap locs) : own_Go p e below (own_P s below R Q) T (mkF m pc Ls (.int z :: rest)) :=
  own_out X (own_some hret) hlk hc hs q fun _ hr => retN X hx hret ht hd hr
theorem own_retI {pc : Nat} {Ls : Array Slot} {z : Int32} {rest : List Value} {Q : Option Value → Heap → List Loc → Prop} (X : Stand p l e R s m args below meth c T locs cells slots) (hx : p.tables.exec = Jvm.exec) (hret : meth.sig.returnType = some .int)
    (hd : decode c.code pc = .ok (.ireturn, 1)) (hlk : meth.locks = false) (hc : cells ≤ R.cells) (hs : slots ≤ R.slots) (q : Q (some (.int z)) T.heap locs) : own_Go p e below (own_P s below R Q) T (mkF m pc Ls (.int z :: rest)) :=
  own_out X (own_some hret) hlk hc hs q fun _ hr => retOut X hx hret rfl (Or.inl ⟨rfl, Or.inl rfl, _, rfl⟩) hd hr
theorem own_retJ {pc : Nat} {Ls : Array Slot} {z : Int64} {rest : List Value} {Q : Option Value → Heap → List Loc → Prop} (X : Stand p l e R s m args below meth c T locs cells slots) (hx : p.tables.exec = Jvm.exec) (hret : meth.sig.returnType = some .long)
    (hd : decode c.code pc = .ok (.lreturn, 1)) (hlk : meth.locks = false) (hc : cells ≤ R.cells) (hs : slots ≤ R.slots) (q : Q (some (.long z)) T.heap locs) : own_Go p e below (own_P s below R Q) T (mkF m pc Ls (.long z :: rest)) :=
  own_out X (own_some hret) hlk hc hs q fun _ hr => retOut X hx hret rfl (Or.inr (Or.inl ⟨rfl, rfl, _, rfl⟩)) hd hr
theorem own_retR {pc : Nat} {Ls : Array Slot} {w : Value} {t : FieldType} {rest : List Value} {Q : Option Value → Heap → List Loc → Prop} (X : Stand p l e R s m args below meth c T locs cells slots) (hx : p.tables.exec = Jvm.exec) (hret : meth.sig.returnType = some t) (ht : t.isReference = true) (hw : w.isRef = true) (hn : narrow t w = w)
    (hd : decode c.code pc = .ok (.areturn, 1)) (hlk : meth.locks = false) (hc : cells ≤ R.cells) (hs : slots ≤ R.slots) (q : Q (some w) T.heap locs) : own_Go p e below (own_P s below R Q) T (mkF m pc Ls (w :: rest)) :=
  own_out X (own_some hret) hlk hc hs q fun _ hr => retOut X hx hret hn (Or.inr (Or.inr (Or.inr (Or.inr ⟨rfl, ht, hw⟩)))) hd hr
theorem own_ret0 {pc : Nat} {Ls : Array Slot} {Q : Option Value → Heap → List Loc → Prop} (X : Stand p l e R s m args below meth c T locs cells slots) (hx : p.tables.exec = Jvm.exec) (hret : meth.sig.returnType = none)
    (hd : decode c.code pc = .ok (.return_, 1)) (hlk : meth.locks = false) (hc : cells ≤ R.cells) (hs : slots ≤ R.slots) (q : Q none T.heap locs) : own_Go p e below (own_P s below R Q) T (mkF m pc Ls []) :=
  own_out X (fun _ => rfl) hlk hc hs q fun _ hr => X.returnOut hx hret hd hr
theorem own_fitsR {C : String} {v : Value} (h : v.isRef = true) : fits (.object C) v = true := by
  cases v <;> first | rfl | (simp [Value.isRef] at h)
theorem own_tab (xs : List Int32) (d : Int32) (k : Nat) : (xs.map Value.int).getD k (.int d) = .int (xs.getD k d) := by
  simp only [List.getD_eq_getElem?_getD, List.getElem?_map]
  cases xs[k]? <;> rfl
end OwnKit
def own_EN (Z : State) (wNOT_FOUND : Addr) (wBAD_REQUEST : Addr) (wINTERNAL_ERROR : Addr) (wTOO_LARGE : Addr) (wMETHOD_NOT_ALLOWED : Addr) : Prop := Sta Z Z.heap "com/example/vacant_errand/vacanterrand/ErrorCode" "NOT_FOUND" "Lcom/example/vacant_errand/vacanterrand/ErrorCode;" (.ref wNOT_FOUND) ∧ Exa Z Z.heap wNOT_FOUND "com/example/vacant_errand/vacanterrand/ErrorCode" ∧ Fld Z Z.heap wNOT_FOUND "com/example/vacant_errand/vacanterrand/ErrorCode" "status" "I" (.int (404 : Int32)) ∧ Sta Z Z.heap "com/example/vacant_errand/vacanterrand/ErrorCode" "BAD_REQUEST" "Lcom/example/vacant_errand/vacanterrand/ErrorCode;" (.ref wBAD_REQUEST) ∧ Exa Z Z.heap wBAD_REQUEST "com/example/vacant_errand/vacanterrand/ErrorCode" ∧ Fld Z Z.heap wBAD_REQUEST "com/example/vacant_errand/vacanterrand/ErrorCode" "status" "I" (.int (400 : Int32)) ∧ Sta Z Z.heap "com/example/vacant_errand/vacanterrand/ErrorCode" "INTERNAL_ERROR" "Lcom/example/vacant_errand/vacanterrand/ErrorCode;" (.ref wINTERNAL_ERROR) ∧ Exa Z Z.heap wINTERNAL_ERROR "com/example/vacant_errand/vacanterrand/ErrorCode" ∧ Fld Z Z.heap wINTERNAL_ERROR "com/example/vacant_errand/vacanterrand/ErrorCode" "status" "I" (.int (500 : Int32)) ∧ Sta Z Z.heap "com/example/vacant_errand/vacanterrand/ErrorCode" "TOO_LARGE" "Lcom/example/vacant_errand/vacanterrand/ErrorCode;" (.ref wTOO_LARGE) ∧ Exa Z Z.heap wTOO_LARGE "com/example/vacant_errand/vacanterrand/ErrorCode" ∧ Fld Z Z.heap wTOO_LARGE "com/example/vacant_errand/vacanterrand/ErrorCode" "status" "I" (.int (413 : Int32)) ∧ Sta Z Z.heap "com/example/vacant_errand/vacanterrand/ErrorCode" "METHOD_NOT_ALLOWED" "Lcom/example/vacant_errand/vacanterrand/ErrorCode;" (.ref wMETHOD_NOT_ALLOWED) ∧ Exa Z Z.heap wMETHOD_NOT_ALLOWED "com/example/vacant_errand/vacanterrand/ErrorCode" ∧ Fld Z Z.heap wMETHOD_NOT_ALLOWED "com/example/vacant_errand/vacanterrand/ErrorCode" "status" "I" (.int (405 : Int32))
theorem own_and_le (x m : Int32) (k : Nat) (hm : m.toBitVec.toNat = k) (hk : k < 2147483648) : 0 ≤ (x &&& m).toInt ∧ (x &&& m).toInt ≤ k := by
  have h1 : (x &&& m).toBitVec.toNat ≤ k := by
    rw [Int32.toBitVec_and, BitVec.toNat_and, hm]; exact Nat.and_le_right
  have h2 : (x &&& m).toInt = ((x &&& m).toBitVec.toNat : Int) := BitVec.toInt_eq_toNat_of_lt (by omega)
  omega
theorem own_idx (x : Int32) (h : (x &&& (31 : Int32)) < (16 : Int32)) : ¬ (x &&& (31 : Int32)) < 0 ∧ (x &&& (31 : Int32)) < (16 : Int32) := by
  refine ⟨?_, h⟩
  have := own_and_le x 31 31 (by decide) (by decide)
  rw [Int32.lt_iff_toInt_lt, show (0 : Int32).toInt = 0 from by decide]
  omega

theorem d1_0 : decode prog_1_method_6_code 0 = .ok (.iload_n 0, 1) := by decide +kernel
theorem d1_1 : decode prog_1_method_6_code 1 = .ok (.lookupswitch 63 #[(404, 51), (405, 55), (413, 59), (414, 59), (431, 59)], 51) := by decide +kernel
theorem d1_52 : decode prog_1_method_6_code 52 = .ok (.getstatic 7, 3) := by decide +kernel
theorem d1_55 : decode prog_1_method_6_code 55 = .ok (.areturn, 1) := by decide +kernel
theorem d1_56 : decode prog_1_method_6_code 56 = .ok (.getstatic 10, 3) := by decide +kernel
theorem d1_59 : decode prog_1_method_6_code 59 = .ok (.areturn, 1) := by decide +kernel
theorem d1_60 : decode prog_1_method_6_code 60 = .ok (.getstatic 25, 3) := by decide +kernel
theorem d1_63 : decode prog_1_method_6_code 63 = .ok (.areturn, 1) := by decide +kernel
theorem d1_64 : decode prog_1_method_6_code 64 = .ok (.iload_n 0, 1) := by decide +kernel
theorem d1_65 : decode prog_1_method_6_code 65 = .ok (.sipush 500, 3) := by decide +kernel
theorem d1_68 : decode prog_1_method_6_code 68 = .ok (.if_icmp .lt 9, 3) := by decide +kernel
theorem d1_77 : decode prog_1_method_6_code 77 = .ok (.getstatic 3, 3) := by decide +kernel
theorem d1_71 : decode prog_1_method_6_code 71 = .ok (.getstatic 28, 3) := by decide +kernel
theorem d1_74 : decode prog_1_method_6_code 74 = .ok (.goto 6, 3) := by decide +kernel
theorem d1_80 : decode prog_1_method_6_code 80 = .ok (.areturn, 1) := by decide +kernel
theorem pn_com_example_vacant_errand_vacanterrand_ErrorCode : plainName "com/example/vacant_errand/vacanterrand/ErrorCode" = true := by first | (simp [plainName, overriddenIn]; done) | decide +kernel
def own_F1 (p1_0 : Int32) (wNOT_FOUND : Addr) (wBAD_REQUEST : Addr) (wINTERNAL_ERROR : Addr) (wTOO_LARGE : Addr) (wMETHOD_NOT_ALLOWED : Addr) : Value := (if p1_0 = (404 : Int32) then (.ref wNOT_FOUND) else (if p1_0 = (405 : Int32) then (.ref wMETHOD_NOT_ALLOWED) else (if p1_0 = (413 : Int32) then (.ref wTOO_LARGE) else (if p1_0 = (414 : Int32) then (.ref wTOO_LARGE) else (if p1_0 = (431 : Int32) then (.ref wTOO_LARGE) else (if p1_0 < (500 : Int32) then (.ref wBAD_REQUEST) else (.ref wINTERNAL_ERROR)))))))
theorem own_ef1 (m : MethodId) (x0 : Int32) : entryFrame m #[(.int x0)] 1 = mkF m 0 #[.val (.int x0)] [] := by first | (simp [entryFrame, mkF, argsToLocals, Value.category]; done) | rfl
def own_Q1 (r : Value) (h0 : Heap) (n0 : Nat) (v : Option Value) (h : Heap) (L : List Loc) : Prop := v = some r ∧ Fr n0 L ∧ h = h0
set_option maxRecDepth 65536 in
set_option maxHeartbeats 40000000 in
theorem own_rm1 (l : Launch) (Z : State) (a0 : Array Value) (hw : ∀ d ∈ tables_1, d.before a0 Z = true) (ws : List Jvm.Cond) (p1_0 : Int32) (wNOT_FOUND : Addr) (wBAD_REQUEST : Addr) (wINTERNAL_ERROR : Addr) (wTOO_LARGE : Addr) (wMETHOD_NOT_ALLOWED : Addr) (h0 : Heap) (n0 : Nat) (Z0 : n0 ≤ h0.size) (O0 : Old Z n0 h0) (EN : own_EN Z wNOT_FOUND wBAD_REQUEST wINTERNAL_ERROR wTOO_LARGE wMETHOD_NOT_ALLOWED) :
    MetFree l (⟨"com/example/vacant_errand/vacanterrand/ErrorCode", "forStatus", "(I)Lcom/example/vacant_errand/vacanterrand/ErrorCode;"⟩ : MethodName) (head1 (Jvm.Cond.code (⟨"com/example/vacant_errand/vacanterrand/ErrorCode", "forStatus", "(I)Lcom/example/vacant_errand/vacanterrand/ErrorCode;"⟩ : MethodName) prog_1_method_6_code 1 (some (.object "com/example/vacant_errand/vacanterrand/ErrorCode")) :: ws) ({ frames := 0, cells := 0, slots := 0, locals := 0 } : Room)) (fun a U => a = #[(.int p1_0)] ∧ Z.Warmed39 U.vm ∧ U.heap = h0) (fun _ _ _ _ _ => True) (fun _ U o U' => ∃ v L, o = .returned v ∧ own_Q1 (own_F1 p1_0 wNOT_FOUND wBAD_REQUEST wINTERNAL_ERROR wTOO_LARGE wMETHOD_NOT_ALLOWED) h0 n0 v U'.heap L ∧ FrameEnd U o U' L ({ frames := 0, cells := 0, slots := 0, locals := 0 } : Room).cells ({ frames := 0, cells := 0, slots := 0, locals := 0 } : Room).slots) := by
  refine MetFree.of_bodySF (plainFor_of_name pn_com_example_vacant_errand_vacanterrand_ErrorCode) hisR ?_
  intro p e s m args below meth c s₁ Bd hml0 hP hK
  obtain ⟨rfl, hZ, hh⟩ := hP
  have hx := Bd.exec
  have hby := Bd.bytes
  have hlk : meth.locks = false := BodyLoose.notSynchronized Bd
  have hml : c.maxLocals = 1 := hml0
  have hown : s.vm.findClass "com/example/vacant_errand/vacanterrand/ErrorCode" = some m.cls := findClass_of_methodNamed Bd.named
  have hnm := (name_of_methodNamed Bd.named Bd.method).1
  have X0 : Stand p l e ({ frames := 0, cells := 0, slots := 0, locals := 0 } : Room) s m #[(.int p1_0)] below meth c s₁ [] 0 0 := Stand.of_body Bd
  have e0 : s₁.heap = h0 := by rw [← hh, Bd.state]; rfl
  have N0 := Fr.nil n0
  show own_Go p e below (own_P s below ({ frames := 0, cells := 0, slots := 0, locals := 0 } : Room) (own_Q1 (own_F1 p1_0 wNOT_FOUND wBAD_REQUEST wINTERNAL_ERROR wTOO_LARGE wMETHOD_NOT_ALLOWED) h0 n0)) s₁ (entryFrame m #[(.int p1_0)] 1)
  refine own_in (own_ef1 m p1_0) ?_
  refine own_by (T' := s₁) (g' := (mkF m 1 #[.val (.int p1_0)] [(.int p1_0)])) (fun t k => ?_) ?_
  · show Steps p.tables e below (s₁.setTop (mkF m 0 #[.val (.int p1_0)] [])) t
    refine XS.iloadN X0.here hx rfl (hb hby d1_0) rfl ?_
    show Steps p.tables e below (s₁.setTop (mkF m 1 #[.val (.int p1_0)] [(.int p1_0)])) t
    exact k
  by_cases hc1 : p1_0 = (404 : Int32)
  · skip
    refine own_by (T' := s₁) (g' := (mkF m 52 #[.val (.int p1_0)] [])) (fun t k => ?_) ?_
    · show Steps p.tables e below (s₁.setTop (mkF m 1 #[.val (.int p1_0)] [(.int p1_0)])) t
      refine X0.lookupswitchHit hx (g := (mkF m 1 #[.val (.int p1_0)] [(.int p1_0)])) rfl rfl (hb hby d1_1) (by decide) (a := 404) (off := 51) (by rw [hc1]; decide) (by show (0 : Int) ≤ (1 : Int) + 51; decide) _ ?_
      show Steps p.tables e below (s₁.setTop (mkF m 52 #[.val (.int p1_0)] [])) t
      exact k
    obtain ⟨T2, X2, e2, st2⟩ := getS2 X0 hx hZ hown (host := "") (Or.inl (hw _ (List.mem_of_getElem? (i := 5) rfl))) Via.refl e0 (EN.1.ext O0.2) (g := (mkF m 52 #[.val (.int p1_0)] [])) rfl (hb hby d1_52)
    refine own_by (T' := T2) (g' := (mkF m 55 #[.val (.int p1_0)] [(.ref wNOT_FOUND)])) st2 ?_
    rw [show own_F1 p1_0 wNOT_FOUND wBAD_REQUEST wINTERNAL_ERROR wTOO_LARGE wMETHOD_NOT_ALLOWED = (.ref wNOT_FOUND) from ((if_pos hc1).trans rfl)]
    exact own_retR X2 hx Bd.returns rfl rfl rfl (hb hby d1_55) hlk (by decide) (by decide) ⟨rfl, N0, e2⟩
  · skip
    by_cases hc3 : p1_0 = (405 : Int32)
    · skip
      refine own_by (T' := s₁) (g' := (mkF m 56 #[.val (.int p1_0)] [])) (fun t k => ?_) ?_
      · show Steps p.tables e below (s₁.setTop (mkF m 1 #[.val (.int p1_0)] [(.int p1_0)])) t
        refine X0.lookupswitchHit hx (g := (mkF m 1 #[.val (.int p1_0)] [(.int p1_0)])) rfl rfl (hb hby d1_1) (by decide) (a := 405) (off := 55) (by rw [hc3]; decide) (by show (0 : Int) ≤ (1 : Int) + 55; decide) _ ?_
        show Steps p.tables e below (s₁.setTop (mkF m 56 #[.val (.int p1_0)] [])) t
        exact k
      obtain ⟨T4, X4, e4, st4⟩ := getS2 X0 hx hZ hown (host := "") (Or.inl (hw _ (List.mem_of_getElem? (i := 24) rfl))) Via.refl e0 (EN.2.2.2.2.2.2.2.2.2.2.2.2.1.ext O0.2) (g := (mkF m 56 #[.val (.int p1_0)] [])) rfl (hb hby d1_56)
      refine own_by (T' := T4) (g' := (mkF m 59 #[.val (.int p1_0)] [(.ref wMETHOD_NOT_ALLOWED)])) st4 ?_
      rw [show own_F1 p1_0 wNOT_FOUND wBAD_REQUEST wINTERNAL_ERROR wTOO_LARGE wMETHOD_NOT_ALLOWED = (.ref wMETHOD_NOT_ALLOWED) from ((if_neg hc1).trans ((if_pos hc3).trans rfl))]
      exact own_retR X4 hx Bd.returns rfl rfl rfl (hb hby d1_59) hlk (by decide) (by decide) ⟨rfl, N0, e4⟩
    · skip
      by_cases hc5 : p1_0 = (413 : Int32)
      · skip
        refine own_by (T' := s₁) (g' := (mkF m 60 #[.val (.int p1_0)] [])) (fun t k => ?_) ?_
        · show Steps p.tables e below (s₁.setTop (mkF m 1 #[.val (.int p1_0)] [(.int p1_0)])) t
          refine X0.lookupswitchHit hx (g := (mkF m 1 #[.val (.int p1_0)] [(.int p1_0)])) rfl rfl (hb hby d1_1) (by decide) (a := 413) (off := 59) (by rw [hc5]; decide) (by show (0 : Int) ≤ (1 : Int) + 59; decide) _ ?_
          show Steps p.tables e below (s₁.setTop (mkF m 60 #[.val (.int p1_0)] [])) t
          exact k
        obtain ⟨T6, X6, e6, st6⟩ := getS2 X0 hx hZ hown (host := "") (Or.inl (hw _ (List.mem_of_getElem? (i := 21) rfl))) Via.refl e0 (EN.2.2.2.2.2.2.2.2.2.1.ext O0.2) (g := (mkF m 60 #[.val (.int p1_0)] [])) rfl (hb hby d1_60)
        refine own_by (T' := T6) (g' := (mkF m 63 #[.val (.int p1_0)] [(.ref wTOO_LARGE)])) st6 ?_
        rw [show own_F1 p1_0 wNOT_FOUND wBAD_REQUEST wINTERNAL_ERROR wTOO_LARGE wMETHOD_NOT_ALLOWED = (.ref wTOO_LARGE) from ((if_neg hc1).trans ((if_neg hc3).trans ((if_pos hc5).trans rfl)))]
        exact own_retR X6 hx Bd.returns rfl rfl rfl (hb hby d1_63) hlk (by decide) (by decide) ⟨rfl, N0, e6⟩
      · skip
        by_cases hc7 : p1_0 = (414 : Int32)
        · skip
          refine own_by (T' := s₁) (g' := (mkF m 60 #[.val (.int p1_0)] [])) (fun t k => ?_) ?_
          · show Steps p.tables e below (s₁.setTop (mkF m 1 #[.val (.int p1_0)] [(.int p1_0)])) t
            refine X0.lookupswitchHit hx (g := (mkF m 1 #[.val (.int p1_0)] [(.int p1_0)])) rfl rfl (hb hby d1_1) (by decide) (a := 414) (off := 59) (by rw [hc7]; decide) (by show (0 : Int) ≤ (1 : Int) + 59; decide) _ ?_
            show Steps p.tables e below (s₁.setTop (mkF m 60 #[.val (.int p1_0)] [])) t
            exact k
          obtain ⟨T8, X8, e8, st8⟩ := getS2 X0 hx hZ hown (host := "") (Or.inl (hw _ (List.mem_of_getElem? (i := 21) rfl))) Via.refl e0 (EN.2.2.2.2.2.2.2.2.2.1.ext O0.2) (g := (mkF m 60 #[.val (.int p1_0)] [])) rfl (hb hby d1_60)
          refine own_by (T' := T8) (g' := (mkF m 63 #[.val (.int p1_0)] [(.ref wTOO_LARGE)])) st8 ?_
          rw [show own_F1 p1_0 wNOT_FOUND wBAD_REQUEST wINTERNAL_ERROR wTOO_LARGE wMETHOD_NOT_ALLOWED = (.ref wTOO_LARGE) from ((if_neg hc1).trans ((if_neg hc3).trans ((if_neg hc5).trans ((if_pos hc7).trans rfl))))]
          exact own_retR X8 hx Bd.returns rfl rfl rfl (hb hby d1_63) hlk (by decide) (by decide) ⟨rfl, N0, e8⟩
        · skip
          by_cases hc9 : p1_0 = (431 : Int32)
          · skip
            refine own_by (T' := s₁) (g' := (mkF m 60 #[.val (.int p1_0)] [])) (fun t k => ?_) ?_
            · show Steps p.tables e below (s₁.setTop (mkF m 1 #[.val (.int p1_0)] [(.int p1_0)])) t
              refine X0.lookupswitchHit hx (g := (mkF m 1 #[.val (.int p1_0)] [(.int p1_0)])) rfl rfl (hb hby d1_1) (by decide) (a := 431) (off := 59) (by rw [hc9]; decide) (by show (0 : Int) ≤ (1 : Int) + 59; decide) _ ?_
              show Steps p.tables e below (s₁.setTop (mkF m 60 #[.val (.int p1_0)] [])) t
              exact k
            obtain ⟨T10, X10, e10, st10⟩ := getS2 X0 hx hZ hown (host := "") (Or.inl (hw _ (List.mem_of_getElem? (i := 21) rfl))) Via.refl e0 (EN.2.2.2.2.2.2.2.2.2.1.ext O0.2) (g := (mkF m 60 #[.val (.int p1_0)] [])) rfl (hb hby d1_60)
            refine own_by (T' := T10) (g' := (mkF m 63 #[.val (.int p1_0)] [(.ref wTOO_LARGE)])) st10 ?_
            rw [show own_F1 p1_0 wNOT_FOUND wBAD_REQUEST wINTERNAL_ERROR wTOO_LARGE wMETHOD_NOT_ALLOWED = (.ref wTOO_LARGE) from ((if_neg hc1).trans ((if_neg hc3).trans ((if_neg hc5).trans ((if_neg hc7).trans ((if_pos hc9).trans rfl)))))]
            exact own_retR X10 hx Bd.returns rfl rfl rfl (hb hby d1_63) hlk (by decide) (by decide) ⟨rfl, N0, e10⟩
          · skip
            refine own_by (T' := s₁) (g' := (mkF m 68 #[.val (.int p1_0)] [(.int (500 : Int32)), (.int p1_0)])) (fun t k => ?_) ?_
            · show Steps p.tables e below (s₁.setTop (mkF m 1 #[.val (.int p1_0)] [(.int p1_0)])) t
              refine X0.lookupswitchMiss hx (g := (mkF m 1 #[.val (.int p1_0)] [(.int p1_0)])) rfl rfl (hb hby d1_1) (by decide) (find_miss (fun q hq => by
                  simp only [List.mem_cons, List.not_mem_nil, or_false] at hq
                  rcases hq with rfl | rfl | rfl | rfl | rfl
                  · exact fun e => hc1 (Int32.toInt_inj.mp e.symm)
                  · exact fun e => hc3 (Int32.toInt_inj.mp e.symm)
                  · exact fun e => hc5 (Int32.toInt_inj.mp e.symm)
                  · exact fun e => hc7 (Int32.toInt_inj.mp e.symm)
                  · exact fun e => hc9 (Int32.toInt_inj.mp e.symm)
                )) (by show (0 : Int) ≤ (1 : Int) + 63; decide) _ ?_
              show Steps p.tables e below (s₁.setTop (mkF m 64 #[.val (.int p1_0)] [])) t
              refine XS.iloadN X0.here hx rfl (hb hby d1_64) rfl ?_
              show Steps p.tables e below (s₁.setTop (mkF m 65 #[.val (.int p1_0)] [(.int p1_0)])) t
              refine XS.sipush X0.here hx rfl (hb hby d1_65) ?_
              show Steps p.tables e below (s₁.setTop (mkF m 68 #[.val (.int p1_0)] [(.int (500 : Int32)), (.int p1_0)])) t
              exact k
            by_cases hc11 : p1_0 < (500 : Int32)
            · skip
              refine own_by (T' := s₁) (g' := (mkF m 77 #[.val (.int p1_0)] [])) (fun t k => ?_) ?_
              · show Steps p.tables e below (s₁.setTop (mkF m 68 #[.val (.int p1_0)] [(.int (500 : Int32)), (.int p1_0)])) t
                refine XS.icmpYes X0.here hx rfl (pc0 := 68) (pc' := 77) rfl (hb hby d1_68) rfl (tlt hc11).1 (by decide) (by decide) ?_
                show Steps p.tables e below (s₁.setTop (mkF m 77 #[.val (.int p1_0)] [])) t
                exact k
              obtain ⟨T14, X14, e14, st14⟩ := getS2 X0 hx hZ hown (host := "") (Or.inl (hw _ (List.mem_of_getElem? (i := 15) rfl))) Via.refl e0 (EN.2.2.2.1.ext O0.2) (g := (mkF m 77 #[.val (.int p1_0)] [])) rfl (hb hby d1_77)
              refine own_by (T' := T14) (g' := (mkF m 80 #[.val (.int p1_0)] [(.ref wBAD_REQUEST)])) st14 ?_
              rw [show own_F1 p1_0 wNOT_FOUND wBAD_REQUEST wINTERNAL_ERROR wTOO_LARGE wMETHOD_NOT_ALLOWED = (.ref wBAD_REQUEST) from ((if_neg hc1).trans ((if_neg hc3).trans ((if_neg hc5).trans ((if_neg hc7).trans ((if_neg hc9).trans ((if_pos hc11).trans rfl))))))]
              exact own_retR X14 hx Bd.returns rfl rfl rfl (hb hby d1_80) hlk (by decide) (by decide) ⟨rfl, N0, e14⟩
            · skip
              refine own_by (T' := s₁) (g' := (mkF m 71 #[.val (.int p1_0)] [])) (fun t k => ?_) ?_
              · show Steps p.tables e below (s₁.setTop (mkF m 68 #[.val (.int p1_0)] [(.int (500 : Int32)), (.int p1_0)])) t
                refine XS.icmpNo X0.here hx rfl (hb hby d1_68) rfl (flt hc11).1 ?_
                show Steps p.tables e below (s₁.setTop (mkF m 71 #[.val (.int p1_0)] [])) t
                exact k
              obtain ⟨T15, X15, e15, st15⟩ := getS2 X0 hx hZ hown (host := "") (Or.inl (hw _ (List.mem_of_getElem? (i := 18) rfl))) Via.refl e0 (EN.2.2.2.2.2.2.1.ext O0.2) (g := (mkF m 71 #[.val (.int p1_0)] [])) rfl (hb hby d1_71)
              refine own_by (T' := T15) (g' := (mkF m 74 #[.val (.int p1_0)] [(.ref wINTERNAL_ERROR)])) st15 ?_
              refine own_by (T' := T15) (g' := (mkF m 80 #[.val (.int p1_0)] [(.ref wINTERNAL_ERROR)])) (fun t k => ?_) ?_
              · show Steps p.tables e below (T15.setTop (mkF m 74 #[.val (.int p1_0)] [(.ref wINTERNAL_ERROR)])) t
                refine XS.goto X15.here hx rfl (pc0 := 74) (pc' := 80) rfl (hb hby d1_74) (by decide) (by decide) ?_
                show Steps p.tables e below (T15.setTop (mkF m 80 #[.val (.int p1_0)] [(.ref wINTERNAL_ERROR)])) t
                exact k
              rw [show own_F1 p1_0 wNOT_FOUND wBAD_REQUEST wINTERNAL_ERROR wTOO_LARGE wMETHOD_NOT_ALLOWED = (.ref wINTERNAL_ERROR) from ((if_neg hc1).trans ((if_neg hc3).trans ((if_neg hc5).trans ((if_neg hc7).trans ((if_neg hc9).trans ((if_neg hc11).trans rfl))))))]
              exact own_retR X15 hx Bd.returns rfl rfl rfl (hb hby d1_80) hlk (by decide) (by decide) ⟨rfl, N0, e15⟩
theorem d2_0 : decode prog_1_method_5_code 0 = .ok (.aload_n 0, 1) := by decide +kernel
theorem d2_1 : decode prog_1_method_5_code 1 = .ok (.getfield 64, 3) := by decide +kernel
theorem d2_4 : decode prog_1_method_5_code 4 = .ok (.ireturn, 1) := by decide +kernel
def own_F2 (w_status_a2_0 : Int32) : Int32 := w_status_a2_0
theorem own_ef2 (m : MethodId) (x0 : Addr) : entryFrame m #[(.ref x0)] 1 = mkF m 0 #[.val (.ref x0)] [] := by first | (simp [entryFrame, mkF, argsToLocals, Value.category]; done) | rfl
def own_Q2 (r : Int32) (h0 : Heap) (n0 : Nat) (v : Option Value) (h : Heap) (L : List Loc) : Prop := v = some (.int r) ∧ Fr n0 L ∧ h = h0
set_option maxRecDepth 65536 in
set_option maxHeartbeats 40000000 in
theorem own_rm2 (l : Launch) (Z : State) (a0 : Array Value) (hw : ∀ d ∈ tables_1, d.before a0 Z = true) (ws : List Jvm.Cond) (a2_0 : Addr) (w_status_a2_0 : Int32) (h0 : Heap) (n0 : Nat) (Z0 : n0 ≤ h0.size) (F_status_a2_0 : Fld Z h0 a2_0 "com/example/vacant_errand/vacanterrand/ErrorCode" "status" "I" (.int w_status_a2_0)) :
    MetFree l (⟨"com/example/vacant_errand/vacanterrand/ErrorCode", "status", "()I"⟩ : MethodName) (head1 (Jvm.Cond.code (⟨"com/example/vacant_errand/vacanterrand/ErrorCode", "status", "()I"⟩ : MethodName) prog_1_method_5_code 1 (some .int) :: ws) ({ frames := 0, cells := 0, slots := 0, locals := 0 } : Room)) (fun a U => a = #[(.ref a2_0)] ∧ Z.Warmed39 U.vm ∧ U.heap = h0) (fun _ _ _ _ _ => True) (fun _ U o U' => ∃ v L, o = .returned v ∧ own_Q2 (own_F2 w_status_a2_0) h0 n0 v U'.heap L ∧ FrameEnd U o U' L ({ frames := 0, cells := 0, slots := 0, locals := 0 } : Room).cells ({ frames := 0, cells := 0, slots := 0, locals := 0 } : Room).slots) := by
  refine MetFree.of_bodySF (plainFor_of_name pn_com_example_vacant_errand_vacanterrand_ErrorCode) hisR ?_
  intro p e s m args below meth c s₁ Bd hml0 hP hK
  obtain ⟨rfl, hZ, hh⟩ := hP
  have hx := Bd.exec
  have hby := Bd.bytes
  have hlk : meth.locks = false := BodyLoose.notSynchronized Bd
  have hml : c.maxLocals = 1 := hml0
  have hown : s.vm.findClass "com/example/vacant_errand/vacanterrand/ErrorCode" = some m.cls := findClass_of_methodNamed Bd.named
  have hnm := (name_of_methodNamed Bd.named Bd.method).1
  have X0 : Stand p l e ({ frames := 0, cells := 0, slots := 0, locals := 0 } : Room) s m #[(.ref a2_0)] below meth c s₁ [] 0 0 := Stand.of_body Bd
  have e0 : s₁.heap = h0 := by rw [← hh, Bd.state]; rfl
  have N0 := Fr.nil n0
  show own_Go p e below (own_P s below ({ frames := 0, cells := 0, slots := 0, locals := 0 } : Room) (own_Q2 (own_F2 w_status_a2_0) h0 n0)) s₁ (entryFrame m #[(.ref a2_0)] 1)
  refine own_in (own_ef2 m a2_0) ?_
  refine own_by (T' := s₁) (g' := (mkF m 1 #[.val (.ref a2_0)] [(.ref a2_0)])) (fun t k => ?_) ?_
  · show Steps p.tables e below (s₁.setTop (mkF m 0 #[.val (.ref a2_0)] [])) t
    refine XS.aloadN X0.here hx rfl (hb hby d2_0) rfl rfl ?_
    show Steps p.tables e below (s₁.setTop (mkF m 1 #[.val (.ref a2_0)] [(.ref a2_0)])) t
    exact k
  obtain ⟨T16, X16, e16, st16⟩ := getF X0 hx hZ hown (host := "") (Or.inl (hw _ (List.mem_of_getElem? (i := 13) rfl))) Via.refl e0 F_status_a2_0 (g := (mkF m 1 #[.val (.ref a2_0)] [(.ref a2_0)])) rfl rfl (hb hby d2_1)
  refine own_by (T' := T16) (g' := (mkF m 4 #[.val (.ref a2_0)] [(.int w_status_a2_0)])) st16 ?_
  rw [show own_F2 w_status_a2_0 = w_status_a2_0 from rfl]
  exact own_retI X16 hx Bd.returns (hb hby d2_4) hlk (by decide) (by decide) ⟨rfl, N0, e16⟩
theorem pd__I_Lcom_example_vacant_errand_vacanterrand_ErrorCode_ : parseMethodDescriptor "(I)Lcom/example/vacant_errand/vacanterrand/ErrorCode;" = some ⟨[.int], some (.object "com/example/vacant_errand/vacanterrand/ErrorCode")⟩ := by decide +kernel
theorem pd___I : parseMethodDescriptor "()I" = some ⟨[], some .int⟩ := by decide +kernel
theorem pn_com_example_vacant_errand_vacanterrand_ErrorCodeForStatusPinLaw : plainName "com/example/vacant_errand/vacanterrand/ErrorCodeForStatusPinLaw" = true := by first | (simp [plainName, overriddenIn]; done) | decide +kernel
def own_F0_125_1 (p0_0 : Int32) (p0_1 : Int32) (i152 : Int32) : Int32 := (if i152 = (404 : Int32) then (if (own_F2 (404 : Int32)) = i152 then (1 : Int32) else (0 : Int32)) else (if i152 = (405 : Int32) then (if (own_F2 (405 : Int32)) = i152 then (1 : Int32) else (0 : Int32)) else (if i152 = (413 : Int32) then (if (own_F2 (413 : Int32)) = i152 then (1 : Int32) else (0 : Int32)) else (if i152 = (414 : Int32) then (1 : Int32) else (if i152 = (431 : Int32) then (1 : Int32) else (if i152 < (500 : Int32) then (1 : Int32) else (1 : Int32)))))))
def own_T0_120 : List Int32 := [(404 : Int32), (405 : Int32), (413 : Int32), (414 : Int32), (431 : Int32), (500 : Int32), (499 : Int32), (403 : Int32), (406 : Int32), (412 : Int32), (415 : Int32), (430 : Int32), (432 : Int32), (501 : Int32), (0 : Int32), (-1 : Int32)]
def own_F0 (p0_0 : Int32) (p0_1 : Int32) : Int32 := (if (p0_0 &&& (31 : Int32)) < (16 : Int32) then (own_F0_125_1 p0_0 p0_1 (own_T0_120.getD ((p0_0 &&& (31 : Int32))).toNatClampNeg (0 : Int32))) else (own_F0_125_1 p0_0 p0_1 p0_1))
theorem own_ef0 (m : MethodId) (x0 : Int32) (x1 : Int32) : entryFrame m #[(.int x0), (.int x1)] maxLocals = mkF m 0 #[.val (.int x0), .val (.int x1), .unset, .unset, .unset, .unset, .unset] [] := by first | (simp [entryFrame, mkF, argsToLocals, Value.category, maxLocals]; done) | rfl
def own_Q0 (r : Int32) (h0 : Heap) (n0 : Nat) (v : Option Value) (h : Heap) (L : List Loc) : Prop := v = some (.int r) ∧ Fr n0 L
set_option maxRecDepth 65536 in
set_option maxHeartbeats 40000000 in
theorem own_rm0 (l : Launch) (Z : State) (a0 : Array Value) (hw : ∀ d ∈ tables_1, d.before a0 Z = true) (ws : List Jvm.Cond) (p0_0 : Int32) (p0_1 : Int32) (wNOT_FOUND : Addr) (wBAD_REQUEST : Addr) (wINTERNAL_ERROR : Addr) (wTOO_LARGE : Addr) (wMETHOD_NOT_ALLOWED : Addr) (h0 : Heap) (n0 : Nat) (Z0 : n0 ≤ h0.size) (O0 : Old Z n0 h0) (EN : own_EN Z wNOT_FOUND wBAD_REQUEST wINTERNAL_ERROR wTOO_LARGE wMETHOD_NOT_ALLOWED) :
    MetFree l x (head1 (Jvm.Cond.code x code maxLocals ret :: ws) room_1) (fun a U => a = #[(.int p0_0), (.int p0_1)] ∧ Z.Warmed39 U.vm ∧ U.heap = h0) (fun _ _ _ _ _ => True) (fun _ U o U' => ∃ v L, o = .returned v ∧ own_Q0 (own_F0 p0_0 p0_1) h0 n0 v U'.heap L ∧ FrameEnd U o U' L room_1.cells room_1.slots) := by
  refine MetFree.of_bodySF (plainFor_of_name pn_com_example_vacant_errand_vacanterrand_ErrorCodeForStatusPinLaw) hisR ?_
  intro p e s m args below meth c s₁ Bd hml0 hP hK
  obtain ⟨rfl, hZ, hh⟩ := hP
  have hx := Bd.exec
  have hby := Bd.bytes
  have hlk : meth.locks = false := BodyLoose.notSynchronized Bd
  have hml : c.maxLocals = 7 := hml0
  have hown : s.vm.findClass "com/example/vacant_errand/vacanterrand/ErrorCodeForStatusPinLaw" = some m.cls := findClass_of_methodNamed Bd.named
  have hnm := (name_of_methodNamed Bd.named Bd.method).1
  have X0 : Stand p l e room_1 s m #[(.int p0_0), (.int p0_1)] below meth c s₁ [] 0 0 := Stand.of_body Bd
  have e0 : s₁.heap = h0 := by rw [← hh, Bd.state]; rfl
  have N0 := Fr.nil n0
  show own_Go p e below (own_P s below room_1 (own_Q0 (own_F0 p0_0 p0_1) h0 n0)) s₁ (entryFrame m #[(.int p0_0), (.int p0_1)] maxLocals)
  refine own_in (own_ef0 m p0_0 p0_1) ?_
  refine own_by (T' := s₁) (g' := (mkF m 2 #[.val (.int p0_0), .val (.int p0_1), .unset, .unset, .unset, .unset, .unset] [(.int (16 : Int32))])) (fun t k => ?_) ?_
  · show Steps p.tables e below (s₁.setTop (mkF m 0 #[.val (.int p0_0), .val (.int p0_1), .unset, .unset, .unset, .unset, .unset] [])) t
    refine XS.bipush X0.here hx rfl (hb hby at_0) ?_
    show Steps p.tables e below (s₁.setTop (mkF m 2 #[.val (.int p0_0), .val (.int p0_1), .unset, .unset, .unset, .unset, .unset] [(.int (16 : Int32))])) t
    exact k
  obtain ⟨T17, h17, k17, X17, e17, E17, A17, st17⟩ := newP X0 hx hZ (hw _ (List.mem_of_getElem? (i := 0) rfl)) e0 (g := (mkF m 2 #[.val (.int p0_0), .val (.int p0_1), .unset, .unset, .unset, .unset, .unset] [(.int (16 : Int32))])) rfl (hb hby at_2) rfl (by decide) (cap := 16) (by decide) (by decide) (by decide) (by decide)
  obtain ⟨b17, g17⟩ : ∃ z, z = h0.size := ⟨_, rfl⟩
  rw [← g17] at A17 st17
  have gn_b17 : n0 ≤ b17 := Nat.le_trans Z0 (Nat.le_of_eq g17.symm)
  have sz_b17 : h0.size ≤ b17 := Nat.le_trans (Keep.refl h0 []).1 (Nat.le_of_eq g17.symm)
  have K18 : Keep h0 h17 [] := (Keep.refl h0 []).ext E17
  have O19 := O0.ext E17
  have Z20 := Nat.le_trans Z0 E17.1
  have f21 : Arv Z h17 b17 k17 .int (16 : Int32) [(.int (0 : Int32)), (.int (0 : Int32)), (.int (0 : Int32)), (.int (0 : Int32)), (.int (0 : Int32)), (.int (0 : Int32)), (.int (0 : Int32)), (.int (0 : Int32)), (.int (0 : Int32)), (.int (0 : Int32)), (.int (0 : Int32)), (.int (0 : Int32)), (.int (0 : Int32)), (.int (0 : Int32)), (.int (0 : Int32)), (.int (0 : Int32))] (.int (0 : Int32)) := (Arv.new A17 (by decide)).pad (pad_rep [] (.int (0 : Int32)) 16)
  refine own_by (T' := T17) (g' := (mkF m 4 #[.val (.int p0_0), .val (.int p0_1), .unset, .unset, .unset, .unset, .unset] [(.ref b17)])) st17 ?_
  refine own_by (T' := T17) (g' := (mkF m 9 #[.val (.int p0_0), .val (.int p0_1), .unset, .unset, .unset, .unset, .unset] [(.int (404 : Int32)), (.int (0 : Int32)), (.ref b17), (.ref b17)])) (fun t k => ?_) ?_
  · show Steps p.tables e below (T17.setTop (mkF m 4 #[.val (.int p0_0), .val (.int p0_1), .unset, .unset, .unset, .unset, .unset] [(.ref b17)])) t
    refine XS.dup X17.here hx rfl (hb hby at_4) rfl rfl ?_
    show Steps p.tables e below (T17.setTop (mkF m 5 #[.val (.int p0_0), .val (.int p0_1), .unset, .unset, .unset, .unset, .unset] [(.ref b17), (.ref b17)])) t
    refine XS.iconst X17.here hx rfl (hb hby at_5) ?_
    show Steps p.tables e below (T17.setTop (mkF m 6 #[.val (.int p0_0), .val (.int p0_1), .unset, .unset, .unset, .unset, .unset] [(.int (0 : Int32)), (.ref b17), (.ref b17)])) t
    refine XS.sipush X17.here hx rfl (hb hby at_6) ?_
    show Steps p.tables e below (T17.setTop (mkF m 9 #[.val (.int p0_0), .val (.int p0_1), .unset, .unset, .unset, .unset, .unset] [(.int (404 : Int32)), (.int (0 : Int32)), (.ref b17), (.ref b17)])) t
    exact k
  obtain ⟨cl22, Ar22, q22, S22, N22, H22, G22⟩ := f21
  obtain ⟨T23, h23, X23, e23, W23, st23⟩ := stI X17 hx hZ e17 Ar22 (j := (0 : Int32)) (inb_of S22 ⟨by decide, by decide⟩) (g := (mkF m 9 #[.val (.int p0_0), .val (.int p0_1), .unset, .unset, .unset, .unset, .unset] [(.int (404 : Int32)), (.int (0 : Int32)), (.ref b17), (.ref b17)])) rfl rfl (hb hby at_9)
  have f24 : Arv Z h23 b17 k17 .int (16 : Int32) [(.int (404 : Int32)), (.int (0 : Int32)), (.int (0 : Int32)), (.int (0 : Int32)), (.int (0 : Int32)), (.int (0 : Int32)), (.int (0 : Int32)), (.int (0 : Int32)), (.int (0 : Int32)), (.int (0 : Int32)), (.int (0 : Int32)), (.int (0 : Int32)), (.int (0 : Int32)), (.int (0 : Int32)), (.int (0 : Int32)), (.int (0 : Int32))] (.int (0 : Int32)) := Arv.set Ar22 q22 S22 N22 H22 G22 rfl W23 0 rfl (Nat.le_of_ble_eq_true rfl)
  have K26 : Keep h0 h23 [] := K18.wr W23 (Or.inr sz_b17)
  have N27 := Fr.snoc X23 N0 gn_b17
  have O28 := O19.wr W23 gn_b17
  have Z29 := (Nat.le_trans Z20 (Keep.of_wr W23).1)
  refine own_by (T' := T23) (g' := (mkF m 10 #[.val (.int p0_0), .val (.int p0_1), .unset, .unset, .unset, .unset, .unset] [(.ref b17)])) st23 ?_
  refine own_by (T' := T23) (g' := (mkF m 15 #[.val (.int p0_0), .val (.int p0_1), .unset, .unset, .unset, .unset, .unset] [(.int (405 : Int32)), (.int (1 : Int32)), (.ref b17), (.ref b17)])) (fun t k => ?_) ?_
  · show Steps p.tables e below (T23.setTop (mkF m 10 #[.val (.int p0_0), .val (.int p0_1), .unset, .unset, .unset, .unset, .unset] [(.ref b17)])) t
    refine XS.dup X23.here hx rfl (hb hby at_10) rfl rfl ?_
    show Steps p.tables e below (T23.setTop (mkF m 11 #[.val (.int p0_0), .val (.int p0_1), .unset, .unset, .unset, .unset, .unset] [(.ref b17), (.ref b17)])) t
    refine XS.iconst X23.here hx rfl (hb hby at_11) ?_
    show Steps p.tables e below (T23.setTop (mkF m 12 #[.val (.int p0_0), .val (.int p0_1), .unset, .unset, .unset, .unset, .unset] [(.int (1 : Int32)), (.ref b17), (.ref b17)])) t
    refine XS.sipush X23.here hx rfl (hb hby at_12) ?_
    show Steps p.tables e below (T23.setTop (mkF m 15 #[.val (.int p0_0), .val (.int p0_1), .unset, .unset, .unset, .unset, .unset] [(.int (405 : Int32)), (.int (1 : Int32)), (.ref b17), (.ref b17)])) t
    exact k
  obtain ⟨cl30, Ar30, q30, S30, N30, H30, G30⟩ := f24
  obtain ⟨T31, h31, X31, e31, W31, st31⟩ := stI X23 hx hZ e23 Ar30 (j := (1 : Int32)) (inb_of S30 ⟨by decide, by decide⟩) (g := (mkF m 15 #[.val (.int p0_0), .val (.int p0_1), .unset, .unset, .unset, .unset, .unset] [(.int (405 : Int32)), (.int (1 : Int32)), (.ref b17), (.ref b17)])) rfl rfl (hb hby at_15)
  have f32 : Arv Z h31 b17 k17 .int (16 : Int32) [(.int (404 : Int32)), (.int (405 : Int32)), (.int (0 : Int32)), (.int (0 : Int32)), (.int (0 : Int32)), (.int (0 : Int32)), (.int (0 : Int32)), (.int (0 : Int32)), (.int (0 : Int32)), (.int (0 : Int32)), (.int (0 : Int32)), (.int (0 : Int32)), (.int (0 : Int32)), (.int (0 : Int32)), (.int (0 : Int32)), (.int (0 : Int32))] (.int (0 : Int32)) := Arv.set Ar30 q30 S30 N30 H30 G30 rfl W31 1 rfl (Nat.le_of_ble_eq_true rfl)
  have K34 : Keep h0 h31 [] := K26.wr W31 (Or.inr sz_b17)
  have N35 := Fr.snoc X31 N27 gn_b17
  have O36 := O28.wr W31 gn_b17
  have Z37 := (Nat.le_trans Z29 (Keep.of_wr W31).1)
  refine own_by (T' := T31) (g' := (mkF m 16 #[.val (.int p0_0), .val (.int p0_1), .unset, .unset, .unset, .unset, .unset] [(.ref b17)])) st31 ?_
  refine own_by (T' := T31) (g' := (mkF m 21 #[.val (.int p0_0), .val (.int p0_1), .unset, .unset, .unset, .unset, .unset] [(.int (413 : Int32)), (.int (2 : Int32)), (.ref b17), (.ref b17)])) (fun t k => ?_) ?_
  · show Steps p.tables e below (T31.setTop (mkF m 16 #[.val (.int p0_0), .val (.int p0_1), .unset, .unset, .unset, .unset, .unset] [(.ref b17)])) t
    refine XS.dup X31.here hx rfl (hb hby at_16) rfl rfl ?_
    show Steps p.tables e below (T31.setTop (mkF m 17 #[.val (.int p0_0), .val (.int p0_1), .unset, .unset, .unset, .unset, .unset] [(.ref b17), (.ref b17)])) t
    refine XS.iconst X31.here hx rfl (hb hby at_17) ?_
    show Steps p.tables e below (T31.setTop (mkF m 18 #[.val (.int p0_0), .val (.int p0_1), .unset, .unset, .unset, .unset, .unset] [(.int (2 : Int32)), (.ref b17), (.ref b17)])) t
    refine XS.sipush X31.here hx rfl (hb hby at_18) ?_
    show Steps p.tables e below (T31.setTop (mkF m 21 #[.val (.int p0_0), .val (.int p0_1), .unset, .unset, .unset, .unset, .unset] [(.int (413 : Int32)), (.int (2 : Int32)), (.ref b17), (.ref b17)])) t
    exact k
  obtain ⟨cl38, Ar38, q38, S38, N38, H38, G38⟩ := f32
  obtain ⟨T39, h39, X39, e39, W39, st39⟩ := stI X31 hx hZ e31 Ar38 (j := (2 : Int32)) (inb_of S38 ⟨by decide, by decide⟩) (g := (mkF m 21 #[.val (.int p0_0), .val (.int p0_1), .unset, .unset, .unset, .unset, .unset] [(.int (413 : Int32)), (.int (2 : Int32)), (.ref b17), (.ref b17)])) rfl rfl (hb hby at_21)
  have f40 : Arv Z h39 b17 k17 .int (16 : Int32) [(.int (404 : Int32)), (.int (405 : Int32)), (.int (413 : Int32)), (.int (0 : Int32)), (.int (0 : Int32)), (.int (0 : Int32)), (.int (0 : Int32)), (.int (0 : Int32)), (.int (0 : Int32)), (.int (0 : Int32)), (.int (0 : Int32)), (.int (0 : Int32)), (.int (0 : Int32)), (.int (0 : Int32)), (.int (0 : Int32)), (.int (0 : Int32))] (.int (0 : Int32)) := Arv.set Ar38 q38 S38 N38 H38 G38 rfl W39 2 rfl (Nat.le_of_ble_eq_true rfl)
  have K42 : Keep h0 h39 [] := K34.wr W39 (Or.inr sz_b17)
  have N43 := Fr.snoc X39 N35 gn_b17
  have O44 := O36.wr W39 gn_b17
  have Z45 := (Nat.le_trans Z37 (Keep.of_wr W39).1)
  refine own_by (T' := T39) (g' := (mkF m 22 #[.val (.int p0_0), .val (.int p0_1), .unset, .unset, .unset, .unset, .unset] [(.ref b17)])) st39 ?_
  refine own_by (T' := T39) (g' := (mkF m 27 #[.val (.int p0_0), .val (.int p0_1), .unset, .unset, .unset, .unset, .unset] [(.int (414 : Int32)), (.int (3 : Int32)), (.ref b17), (.ref b17)])) (fun t k => ?_) ?_
  · show Steps p.tables e below (T39.setTop (mkF m 22 #[.val (.int p0_0), .val (.int p0_1), .unset, .unset, .unset, .unset, .unset] [(.ref b17)])) t
    refine XS.dup X39.here hx rfl (hb hby at_22) rfl rfl ?_
    show Steps p.tables e below (T39.setTop (mkF m 23 #[.val (.int p0_0), .val (.int p0_1), .unset, .unset, .unset, .unset, .unset] [(.ref b17), (.ref b17)])) t
    refine XS.iconst X39.here hx rfl (hb hby at_23) ?_
    show Steps p.tables e below (T39.setTop (mkF m 24 #[.val (.int p0_0), .val (.int p0_1), .unset, .unset, .unset, .unset, .unset] [(.int (3 : Int32)), (.ref b17), (.ref b17)])) t
    refine XS.sipush X39.here hx rfl (hb hby at_24) ?_
    show Steps p.tables e below (T39.setTop (mkF m 27 #[.val (.int p0_0), .val (.int p0_1), .unset, .unset, .unset, .unset, .unset] [(.int (414 : Int32)), (.int (3 : Int32)), (.ref b17), (.ref b17)])) t
    exact k
  obtain ⟨cl46, Ar46, q46, S46, N46, H46, G46⟩ := f40
  obtain ⟨T47, h47, X47, e47, W47, st47⟩ := stI X39 hx hZ e39 Ar46 (j := (3 : Int32)) (inb_of S46 ⟨by decide, by decide⟩) (g := (mkF m 27 #[.val (.int p0_0), .val (.int p0_1), .unset, .unset, .unset, .unset, .unset] [(.int (414 : Int32)), (.int (3 : Int32)), (.ref b17), (.ref b17)])) rfl rfl (hb hby at_27)
  have f48 : Arv Z h47 b17 k17 .int (16 : Int32) [(.int (404 : Int32)), (.int (405 : Int32)), (.int (413 : Int32)), (.int (414 : Int32)), (.int (0 : Int32)), (.int (0 : Int32)), (.int (0 : Int32)), (.int (0 : Int32)), (.int (0 : Int32)), (.int (0 : Int32)), (.int (0 : Int32)), (.int (0 : Int32)), (.int (0 : Int32)), (.int (0 : Int32)), (.int (0 : Int32)), (.int (0 : Int32))] (.int (0 : Int32)) := Arv.set Ar46 q46 S46 N46 H46 G46 rfl W47 3 rfl (Nat.le_of_ble_eq_true rfl)
  have K50 : Keep h0 h47 [] := K42.wr W47 (Or.inr sz_b17)
  have N51 := Fr.snoc X47 N43 gn_b17
  have O52 := O44.wr W47 gn_b17
  have Z53 := (Nat.le_trans Z45 (Keep.of_wr W47).1)
  refine own_by (T' := T47) (g' := (mkF m 28 #[.val (.int p0_0), .val (.int p0_1), .unset, .unset, .unset, .unset, .unset] [(.ref b17)])) st47 ?_
  refine own_by (T' := T47) (g' := (mkF m 33 #[.val (.int p0_0), .val (.int p0_1), .unset, .unset, .unset, .unset, .unset] [(.int (431 : Int32)), (.int (4 : Int32)), (.ref b17), (.ref b17)])) (fun t k => ?_) ?_
  · show Steps p.tables e below (T47.setTop (mkF m 28 #[.val (.int p0_0), .val (.int p0_1), .unset, .unset, .unset, .unset, .unset] [(.ref b17)])) t
    refine XS.dup X47.here hx rfl (hb hby at_28) rfl rfl ?_
    show Steps p.tables e below (T47.setTop (mkF m 29 #[.val (.int p0_0), .val (.int p0_1), .unset, .unset, .unset, .unset, .unset] [(.ref b17), (.ref b17)])) t
    refine XS.iconst X47.here hx rfl (hb hby at_29) ?_
    show Steps p.tables e below (T47.setTop (mkF m 30 #[.val (.int p0_0), .val (.int p0_1), .unset, .unset, .unset, .unset, .unset] [(.int (4 : Int32)), (.ref b17), (.ref b17)])) t
    refine XS.sipush X47.here hx rfl (hb hby at_30) ?_
    show Steps p.tables e below (T47.setTop (mkF m 33 #[.val (.int p0_0), .val (.int p0_1), .unset, .unset, .unset, .unset, .unset] [(.int (431 : Int32)), (.int (4 : Int32)), (.ref b17), (.ref b17)])) t
    exact k
  obtain ⟨cl54, Ar54, q54, S54, N54, H54, G54⟩ := f48
  obtain ⟨T55, h55, X55, e55, W55, st55⟩ := stI X47 hx hZ e47 Ar54 (j := (4 : Int32)) (inb_of S54 ⟨by decide, by decide⟩) (g := (mkF m 33 #[.val (.int p0_0), .val (.int p0_1), .unset, .unset, .unset, .unset, .unset] [(.int (431 : Int32)), (.int (4 : Int32)), (.ref b17), (.ref b17)])) rfl rfl (hb hby at_33)
  have f56 : Arv Z h55 b17 k17 .int (16 : Int32) [(.int (404 : Int32)), (.int (405 : Int32)), (.int (413 : Int32)), (.int (414 : Int32)), (.int (431 : Int32)), (.int (0 : Int32)), (.int (0 : Int32)), (.int (0 : Int32)), (.int (0 : Int32)), (.int (0 : Int32)), (.int (0 : Int32)), (.int (0 : Int32)), (.int (0 : Int32)), (.int (0 : Int32)), (.int (0 : Int32)), (.int (0 : Int32))] (.int (0 : Int32)) := Arv.set Ar54 q54 S54 N54 H54 G54 rfl W55 4 rfl (Nat.le_of_ble_eq_true rfl)
  have K58 : Keep h0 h55 [] := K50.wr W55 (Or.inr sz_b17)
  have N59 := Fr.snoc X55 N51 gn_b17
  have O60 := O52.wr W55 gn_b17
  have Z61 := (Nat.le_trans Z53 (Keep.of_wr W55).1)
  refine own_by (T' := T55) (g' := (mkF m 34 #[.val (.int p0_0), .val (.int p0_1), .unset, .unset, .unset, .unset, .unset] [(.ref b17)])) st55 ?_
  refine own_by (T' := T55) (g' := (mkF m 39 #[.val (.int p0_0), .val (.int p0_1), .unset, .unset, .unset, .unset, .unset] [(.int (500 : Int32)), (.int (5 : Int32)), (.ref b17), (.ref b17)])) (fun t k => ?_) ?_
  · show Steps p.tables e below (T55.setTop (mkF m 34 #[.val (.int p0_0), .val (.int p0_1), .unset, .unset, .unset, .unset, .unset] [(.ref b17)])) t
    refine XS.dup X55.here hx rfl (hb hby at_34) rfl rfl ?_
    show Steps p.tables e below (T55.setTop (mkF m 35 #[.val (.int p0_0), .val (.int p0_1), .unset, .unset, .unset, .unset, .unset] [(.ref b17), (.ref b17)])) t
    refine XS.iconst X55.here hx rfl (hb hby at_35) ?_
    show Steps p.tables e below (T55.setTop (mkF m 36 #[.val (.int p0_0), .val (.int p0_1), .unset, .unset, .unset, .unset, .unset] [(.int (5 : Int32)), (.ref b17), (.ref b17)])) t
    refine XS.sipush X55.here hx rfl (hb hby at_36) ?_
    show Steps p.tables e below (T55.setTop (mkF m 39 #[.val (.int p0_0), .val (.int p0_1), .unset, .unset, .unset, .unset, .unset] [(.int (500 : Int32)), (.int (5 : Int32)), (.ref b17), (.ref b17)])) t
    exact k
  obtain ⟨cl62, Ar62, q62, S62, N62, H62, G62⟩ := f56
  obtain ⟨T63, h63, X63, e63, W63, st63⟩ := stI X55 hx hZ e55 Ar62 (j := (5 : Int32)) (inb_of S62 ⟨by decide, by decide⟩) (g := (mkF m 39 #[.val (.int p0_0), .val (.int p0_1), .unset, .unset, .unset, .unset, .unset] [(.int (500 : Int32)), (.int (5 : Int32)), (.ref b17), (.ref b17)])) rfl rfl (hb hby at_39)
  have f64 : Arv Z h63 b17 k17 .int (16 : Int32) [(.int (404 : Int32)), (.int (405 : Int32)), (.int (413 : Int32)), (.int (414 : Int32)), (.int (431 : Int32)), (.int (500 : Int32)), (.int (0 : Int32)), (.int (0 : Int32)), (.int (0 : Int32)), (.int (0 : Int32)), (.int (0 : Int32)), (.int (0 : Int32)), (.int (0 : Int32)), (.int (0 : Int32)), (.int (0 : Int32)), (.int (0 : Int32))] (.int (0 : Int32)) := Arv.set Ar62 q62 S62 N62 H62 G62 rfl W63 5 rfl (Nat.le_of_ble_eq_true rfl)
  have K66 : Keep h0 h63 [] := K58.wr W63 (Or.inr sz_b17)
  have N67 := Fr.snoc X63 N59 gn_b17
  have O68 := O60.wr W63 gn_b17
  have Z69 := (Nat.le_trans Z61 (Keep.of_wr W63).1)
  refine own_by (T' := T63) (g' := (mkF m 40 #[.val (.int p0_0), .val (.int p0_1), .unset, .unset, .unset, .unset, .unset] [(.ref b17)])) st63 ?_
  refine own_by (T' := T63) (g' := (mkF m 46 #[.val (.int p0_0), .val (.int p0_1), .unset, .unset, .unset, .unset, .unset] [(.int (499 : Int32)), (.int (6 : Int32)), (.ref b17), (.ref b17)])) (fun t k => ?_) ?_
  · show Steps p.tables e below (T63.setTop (mkF m 40 #[.val (.int p0_0), .val (.int p0_1), .unset, .unset, .unset, .unset, .unset] [(.ref b17)])) t
    refine XS.dup X63.here hx rfl (hb hby at_40) rfl rfl ?_
    show Steps p.tables e below (T63.setTop (mkF m 41 #[.val (.int p0_0), .val (.int p0_1), .unset, .unset, .unset, .unset, .unset] [(.ref b17), (.ref b17)])) t
    refine XS.bipush X63.here hx rfl (hb hby at_41) ?_
    show Steps p.tables e below (T63.setTop (mkF m 43 #[.val (.int p0_0), .val (.int p0_1), .unset, .unset, .unset, .unset, .unset] [(.int (6 : Int32)), (.ref b17), (.ref b17)])) t
    refine XS.sipush X63.here hx rfl (hb hby at_43) ?_
    show Steps p.tables e below (T63.setTop (mkF m 46 #[.val (.int p0_0), .val (.int p0_1), .unset, .unset, .unset, .unset, .unset] [(.int (499 : Int32)), (.int (6 : Int32)), (.ref b17), (.ref b17)])) t
    exact k
  obtain ⟨cl70, Ar70, q70, S70, N70, H70, G70⟩ := f64
  obtain ⟨T71, h71, X71, e71, W71, st71⟩ := stI X63 hx hZ e63 Ar70 (j := (6 : Int32)) (inb_of S70 ⟨by decide, by decide⟩) (g := (mkF m 46 #[.val (.int p0_0), .val (.int p0_1), .unset, .unset, .unset, .unset, .unset] [(.int (499 : Int32)), (.int (6 : Int32)), (.ref b17), (.ref b17)])) rfl rfl (hb hby at_46)
  have f72 : Arv Z h71 b17 k17 .int (16 : Int32) [(.int (404 : Int32)), (.int (405 : Int32)), (.int (413 : Int32)), (.int (414 : Int32)), (.int (431 : Int32)), (.int (500 : Int32)), (.int (499 : Int32)), (.int (0 : Int32)), (.int (0 : Int32)), (.int (0 : Int32)), (.int (0 : Int32)), (.int (0 : Int32)), (.int (0 : Int32)), (.int (0 : Int32)), (.int (0 : Int32)), (.int (0 : Int32))] (.int (0 : Int32)) := Arv.set Ar70 q70 S70 N70 H70 G70 rfl W71 6 rfl (Nat.le_of_ble_eq_true rfl)
  have K74 : Keep h0 h71 [] := K66.wr W71 (Or.inr sz_b17)
  have N75 := Fr.snoc X71 N67 gn_b17
  have O76 := O68.wr W71 gn_b17
  have Z77 := (Nat.le_trans Z69 (Keep.of_wr W71).1)
  refine own_by (T' := T71) (g' := (mkF m 47 #[.val (.int p0_0), .val (.int p0_1), .unset, .unset, .unset, .unset, .unset] [(.ref b17)])) st71 ?_
  refine own_by (T' := T71) (g' := (mkF m 53 #[.val (.int p0_0), .val (.int p0_1), .unset, .unset, .unset, .unset, .unset] [(.int (403 : Int32)), (.int (7 : Int32)), (.ref b17), (.ref b17)])) (fun t k => ?_) ?_
  · show Steps p.tables e below (T71.setTop (mkF m 47 #[.val (.int p0_0), .val (.int p0_1), .unset, .unset, .unset, .unset, .unset] [(.ref b17)])) t
    refine XS.dup X71.here hx rfl (hb hby at_47) rfl rfl ?_
    show Steps p.tables e below (T71.setTop (mkF m 48 #[.val (.int p0_0), .val (.int p0_1), .unset, .unset, .unset, .unset, .unset] [(.ref b17), (.ref b17)])) t
    refine XS.bipush X71.here hx rfl (hb hby at_48) ?_
    show Steps p.tables e below (T71.setTop (mkF m 50 #[.val (.int p0_0), .val (.int p0_1), .unset, .unset, .unset, .unset, .unset] [(.int (7 : Int32)), (.ref b17), (.ref b17)])) t
    refine XS.sipush X71.here hx rfl (hb hby at_50) ?_
    show Steps p.tables e below (T71.setTop (mkF m 53 #[.val (.int p0_0), .val (.int p0_1), .unset, .unset, .unset, .unset, .unset] [(.int (403 : Int32)), (.int (7 : Int32)), (.ref b17), (.ref b17)])) t
    exact k
  obtain ⟨cl78, Ar78, q78, S78, N78, H78, G78⟩ := f72
  obtain ⟨T79, h79, X79, e79, W79, st79⟩ := stI X71 hx hZ e71 Ar78 (j := (7 : Int32)) (inb_of S78 ⟨by decide, by decide⟩) (g := (mkF m 53 #[.val (.int p0_0), .val (.int p0_1), .unset, .unset, .unset, .unset, .unset] [(.int (403 : Int32)), (.int (7 : Int32)), (.ref b17), (.ref b17)])) rfl rfl (hb hby at_53)
  have f80 : Arv Z h79 b17 k17 .int (16 : Int32) [(.int (404 : Int32)), (.int (405 : Int32)), (.int (413 : Int32)), (.int (414 : Int32)), (.int (431 : Int32)), (.int (500 : Int32)), (.int (499 : Int32)), (.int (403 : Int32)), (.int (0 : Int32)), (.int (0 : Int32)), (.int (0 : Int32)), (.int (0 : Int32)), (.int (0 : Int32)), (.int (0 : Int32)), (.int (0 : Int32)), (.int (0 : Int32))] (.int (0 : Int32)) := Arv.set Ar78 q78 S78 N78 H78 G78 rfl W79 7 rfl (Nat.le_of_ble_eq_true rfl)
  have K82 : Keep h0 h79 [] := K74.wr W79 (Or.inr sz_b17)
  have N83 := Fr.snoc X79 N75 gn_b17
  have O84 := O76.wr W79 gn_b17
  have Z85 := (Nat.le_trans Z77 (Keep.of_wr W79).1)
  refine own_by (T' := T79) (g' := (mkF m 54 #[.val (.int p0_0), .val (.int p0_1), .unset, .unset, .unset, .unset, .unset] [(.ref b17)])) st79 ?_
  refine own_by (T' := T79) (g' := (mkF m 60 #[.val (.int p0_0), .val (.int p0_1), .unset, .unset, .unset, .unset, .unset] [(.int (406 : Int32)), (.int (8 : Int32)), (.ref b17), (.ref b17)])) (fun t k => ?_) ?_
  · show Steps p.tables e below (T79.setTop (mkF m 54 #[.val (.int p0_0), .val (.int p0_1), .unset, .unset, .unset, .unset, .unset] [(.ref b17)])) t
    refine XS.dup X79.here hx rfl (hb hby at_54) rfl rfl ?_
    show Steps p.tables e below (T79.setTop (mkF m 55 #[.val (.int p0_0), .val (.int p0_1), .unset, .unset, .unset, .unset, .unset] [(.ref b17), (.ref b17)])) t
    refine XS.bipush X79.here hx rfl (hb hby at_55) ?_
    show Steps p.tables e below (T79.setTop (mkF m 57 #[.val (.int p0_0), .val (.int p0_1), .unset, .unset, .unset, .unset, .unset] [(.int (8 : Int32)), (.ref b17), (.ref b17)])) t
    refine XS.sipush X79.here hx rfl (hb hby at_57) ?_
    show Steps p.tables e below (T79.setTop (mkF m 60 #[.val (.int p0_0), .val (.int p0_1), .unset, .unset, .unset, .unset, .unset] [(.int (406 : Int32)), (.int (8 : Int32)), (.ref b17), (.ref b17)])) t
    exact k
  obtain ⟨cl86, Ar86, q86, S86, N86, H86, G86⟩ := f80
  obtain ⟨T87, h87, X87, e87, W87, st87⟩ := stI X79 hx hZ e79 Ar86 (j := (8 : Int32)) (inb_of S86 ⟨by decide, by decide⟩) (g := (mkF m 60 #[.val (.int p0_0), .val (.int p0_1), .unset, .unset, .unset, .unset, .unset] [(.int (406 : Int32)), (.int (8 : Int32)), (.ref b17), (.ref b17)])) rfl rfl (hb hby at_60)
  have f88 : Arv Z h87 b17 k17 .int (16 : Int32) [(.int (404 : Int32)), (.int (405 : Int32)), (.int (413 : Int32)), (.int (414 : Int32)), (.int (431 : Int32)), (.int (500 : Int32)), (.int (499 : Int32)), (.int (403 : Int32)), (.int (406 : Int32)), (.int (0 : Int32)), (.int (0 : Int32)), (.int (0 : Int32)), (.int (0 : Int32)), (.int (0 : Int32)), (.int (0 : Int32)), (.int (0 : Int32))] (.int (0 : Int32)) := Arv.set Ar86 q86 S86 N86 H86 G86 rfl W87 8 rfl (Nat.le_of_ble_eq_true rfl)
  have K90 : Keep h0 h87 [] := K82.wr W87 (Or.inr sz_b17)
  have N91 := Fr.snoc X87 N83 gn_b17
  have O92 := O84.wr W87 gn_b17
  have Z93 := (Nat.le_trans Z85 (Keep.of_wr W87).1)
  refine own_by (T' := T87) (g' := (mkF m 61 #[.val (.int p0_0), .val (.int p0_1), .unset, .unset, .unset, .unset, .unset] [(.ref b17)])) st87 ?_
  refine own_by (T' := T87) (g' := (mkF m 67 #[.val (.int p0_0), .val (.int p0_1), .unset, .unset, .unset, .unset, .unset] [(.int (412 : Int32)), (.int (9 : Int32)), (.ref b17), (.ref b17)])) (fun t k => ?_) ?_
  · show Steps p.tables e below (T87.setTop (mkF m 61 #[.val (.int p0_0), .val (.int p0_1), .unset, .unset, .unset, .unset, .unset] [(.ref b17)])) t
    refine XS.dup X87.here hx rfl (hb hby at_61) rfl rfl ?_
    show Steps p.tables e below (T87.setTop (mkF m 62 #[.val (.int p0_0), .val (.int p0_1), .unset, .unset, .unset, .unset, .unset] [(.ref b17), (.ref b17)])) t
    refine XS.bipush X87.here hx rfl (hb hby at_62) ?_
    show Steps p.tables e below (T87.setTop (mkF m 64 #[.val (.int p0_0), .val (.int p0_1), .unset, .unset, .unset, .unset, .unset] [(.int (9 : Int32)), (.ref b17), (.ref b17)])) t
    refine XS.sipush X87.here hx rfl (hb hby at_64) ?_
    show Steps p.tables e below (T87.setTop (mkF m 67 #[.val (.int p0_0), .val (.int p0_1), .unset, .unset, .unset, .unset, .unset] [(.int (412 : Int32)), (.int (9 : Int32)), (.ref b17), (.ref b17)])) t
    exact k
  obtain ⟨cl94, Ar94, q94, S94, N94, H94, G94⟩ := f88
  obtain ⟨T95, h95, X95, e95, W95, st95⟩ := stI X87 hx hZ e87 Ar94 (j := (9 : Int32)) (inb_of S94 ⟨by decide, by decide⟩) (g := (mkF m 67 #[.val (.int p0_0), .val (.int p0_1), .unset, .unset, .unset, .unset, .unset] [(.int (412 : Int32)), (.int (9 : Int32)), (.ref b17), (.ref b17)])) rfl rfl (hb hby at_67)
  have f96 : Arv Z h95 b17 k17 .int (16 : Int32) [(.int (404 : Int32)), (.int (405 : Int32)), (.int (413 : Int32)), (.int (414 : Int32)), (.int (431 : Int32)), (.int (500 : Int32)), (.int (499 : Int32)), (.int (403 : Int32)), (.int (406 : Int32)), (.int (412 : Int32)), (.int (0 : Int32)), (.int (0 : Int32)), (.int (0 : Int32)), (.int (0 : Int32)), (.int (0 : Int32)), (.int (0 : Int32))] (.int (0 : Int32)) := Arv.set Ar94 q94 S94 N94 H94 G94 rfl W95 9 rfl (Nat.le_of_ble_eq_true rfl)
  have K98 : Keep h0 h95 [] := K90.wr W95 (Or.inr sz_b17)
  have N99 := Fr.snoc X95 N91 gn_b17
  have O100 := O92.wr W95 gn_b17
  have Z101 := (Nat.le_trans Z93 (Keep.of_wr W95).1)
  refine own_by (T' := T95) (g' := (mkF m 68 #[.val (.int p0_0), .val (.int p0_1), .unset, .unset, .unset, .unset, .unset] [(.ref b17)])) st95 ?_
  refine own_by (T' := T95) (g' := (mkF m 74 #[.val (.int p0_0), .val (.int p0_1), .unset, .unset, .unset, .unset, .unset] [(.int (415 : Int32)), (.int (10 : Int32)), (.ref b17), (.ref b17)])) (fun t k => ?_) ?_
  · show Steps p.tables e below (T95.setTop (mkF m 68 #[.val (.int p0_0), .val (.int p0_1), .unset, .unset, .unset, .unset, .unset] [(.ref b17)])) t
    refine XS.dup X95.here hx rfl (hb hby at_68) rfl rfl ?_
    show Steps p.tables e below (T95.setTop (mkF m 69 #[.val (.int p0_0), .val (.int p0_1), .unset, .unset, .unset, .unset, .unset] [(.ref b17), (.ref b17)])) t
    refine XS.bipush X95.here hx rfl (hb hby at_69) ?_
    show Steps p.tables e below (T95.setTop (mkF m 71 #[.val (.int p0_0), .val (.int p0_1), .unset, .unset, .unset, .unset, .unset] [(.int (10 : Int32)), (.ref b17), (.ref b17)])) t
    refine XS.sipush X95.here hx rfl (hb hby at_71) ?_
    show Steps p.tables e below (T95.setTop (mkF m 74 #[.val (.int p0_0), .val (.int p0_1), .unset, .unset, .unset, .unset, .unset] [(.int (415 : Int32)), (.int (10 : Int32)), (.ref b17), (.ref b17)])) t
    exact k
  obtain ⟨cl102, Ar102, q102, S102, N102, H102, G102⟩ := f96
  obtain ⟨T103, h103, X103, e103, W103, st103⟩ := stI X95 hx hZ e95 Ar102 (j := (10 : Int32)) (inb_of S102 ⟨by decide, by decide⟩) (g := (mkF m 74 #[.val (.int p0_0), .val (.int p0_1), .unset, .unset, .unset, .unset, .unset] [(.int (415 : Int32)), (.int (10 : Int32)), (.ref b17), (.ref b17)])) rfl rfl (hb hby at_74)
  have f104 : Arv Z h103 b17 k17 .int (16 : Int32) [(.int (404 : Int32)), (.int (405 : Int32)), (.int (413 : Int32)), (.int (414 : Int32)), (.int (431 : Int32)), (.int (500 : Int32)), (.int (499 : Int32)), (.int (403 : Int32)), (.int (406 : Int32)), (.int (412 : Int32)), (.int (415 : Int32)), (.int (0 : Int32)), (.int (0 : Int32)), (.int (0 : Int32)), (.int (0 : Int32)), (.int (0 : Int32))] (.int (0 : Int32)) := Arv.set Ar102 q102 S102 N102 H102 G102 rfl W103 10 rfl (Nat.le_of_ble_eq_true rfl)
  have K106 : Keep h0 h103 [] := K98.wr W103 (Or.inr sz_b17)
  have N107 := Fr.snoc X103 N99 gn_b17
  have O108 := O100.wr W103 gn_b17
  have Z109 := (Nat.le_trans Z101 (Keep.of_wr W103).1)
  refine own_by (T' := T103) (g' := (mkF m 75 #[.val (.int p0_0), .val (.int p0_1), .unset, .unset, .unset, .unset, .unset] [(.ref b17)])) st103 ?_
  refine own_by (T' := T103) (g' := (mkF m 81 #[.val (.int p0_0), .val (.int p0_1), .unset, .unset, .unset, .unset, .unset] [(.int (430 : Int32)), (.int (11 : Int32)), (.ref b17), (.ref b17)])) (fun t k => ?_) ?_
  · show Steps p.tables e below (T103.setTop (mkF m 75 #[.val (.int p0_0), .val (.int p0_1), .unset, .unset, .unset, .unset, .unset] [(.ref b17)])) t
    refine XS.dup X103.here hx rfl (hb hby at_75) rfl rfl ?_
    show Steps p.tables e below (T103.setTop (mkF m 76 #[.val (.int p0_0), .val (.int p0_1), .unset, .unset, .unset, .unset, .unset] [(.ref b17), (.ref b17)])) t
    refine XS.bipush X103.here hx rfl (hb hby at_76) ?_
    show Steps p.tables e below (T103.setTop (mkF m 78 #[.val (.int p0_0), .val (.int p0_1), .unset, .unset, .unset, .unset, .unset] [(.int (11 : Int32)), (.ref b17), (.ref b17)])) t
    refine XS.sipush X103.here hx rfl (hb hby at_78) ?_
    show Steps p.tables e below (T103.setTop (mkF m 81 #[.val (.int p0_0), .val (.int p0_1), .unset, .unset, .unset, .unset, .unset] [(.int (430 : Int32)), (.int (11 : Int32)), (.ref b17), (.ref b17)])) t
    exact k
  obtain ⟨cl110, Ar110, q110, S110, N110, H110, G110⟩ := f104
  obtain ⟨T111, h111, X111, e111, W111, st111⟩ := stI X103 hx hZ e103 Ar110 (j := (11 : Int32)) (inb_of S110 ⟨by decide, by decide⟩) (g := (mkF m 81 #[.val (.int p0_0), .val (.int p0_1), .unset, .unset, .unset, .unset, .unset] [(.int (430 : Int32)), (.int (11 : Int32)), (.ref b17), (.ref b17)])) rfl rfl (hb hby at_81)
  have f112 : Arv Z h111 b17 k17 .int (16 : Int32) [(.int (404 : Int32)), (.int (405 : Int32)), (.int (413 : Int32)), (.int (414 : Int32)), (.int (431 : Int32)), (.int (500 : Int32)), (.int (499 : Int32)), (.int (403 : Int32)), (.int (406 : Int32)), (.int (412 : Int32)), (.int (415 : Int32)), (.int (430 : Int32)), (.int (0 : Int32)), (.int (0 : Int32)), (.int (0 : Int32)), (.int (0 : Int32))] (.int (0 : Int32)) := Arv.set Ar110 q110 S110 N110 H110 G110 rfl W111 11 rfl (Nat.le_of_ble_eq_true rfl)
  have K114 : Keep h0 h111 [] := K106.wr W111 (Or.inr sz_b17)
  have N115 := Fr.snoc X111 N107 gn_b17
  have O116 := O108.wr W111 gn_b17
  have Z117 := (Nat.le_trans Z109 (Keep.of_wr W111).1)
  refine own_by (T' := T111) (g' := (mkF m 82 #[.val (.int p0_0), .val (.int p0_1), .unset, .unset, .unset, .unset, .unset] [(.ref b17)])) st111 ?_
  refine own_by (T' := T111) (g' := (mkF m 88 #[.val (.int p0_0), .val (.int p0_1), .unset, .unset, .unset, .unset, .unset] [(.int (432 : Int32)), (.int (12 : Int32)), (.ref b17), (.ref b17)])) (fun t k => ?_) ?_
  · show Steps p.tables e below (T111.setTop (mkF m 82 #[.val (.int p0_0), .val (.int p0_1), .unset, .unset, .unset, .unset, .unset] [(.ref b17)])) t
    refine XS.dup X111.here hx rfl (hb hby at_82) rfl rfl ?_
    show Steps p.tables e below (T111.setTop (mkF m 83 #[.val (.int p0_0), .val (.int p0_1), .unset, .unset, .unset, .unset, .unset] [(.ref b17), (.ref b17)])) t
    refine XS.bipush X111.here hx rfl (hb hby at_83) ?_
    show Steps p.tables e below (T111.setTop (mkF m 85 #[.val (.int p0_0), .val (.int p0_1), .unset, .unset, .unset, .unset, .unset] [(.int (12 : Int32)), (.ref b17), (.ref b17)])) t
    refine XS.sipush X111.here hx rfl (hb hby at_85) ?_
    show Steps p.tables e below (T111.setTop (mkF m 88 #[.val (.int p0_0), .val (.int p0_1), .unset, .unset, .unset, .unset, .unset] [(.int (432 : Int32)), (.int (12 : Int32)), (.ref b17), (.ref b17)])) t
    exact k
  obtain ⟨cl118, Ar118, q118, S118, N118, H118, G118⟩ := f112
  obtain ⟨T119, h119, X119, e119, W119, st119⟩ := stI X111 hx hZ e111 Ar118 (j := (12 : Int32)) (inb_of S118 ⟨by decide, by decide⟩) (g := (mkF m 88 #[.val (.int p0_0), .val (.int p0_1), .unset, .unset, .unset, .unset, .unset] [(.int (432 : Int32)), (.int (12 : Int32)), (.ref b17), (.ref b17)])) rfl rfl (hb hby at_88)
  have f120 : Arv Z h119 b17 k17 .int (16 : Int32) [(.int (404 : Int32)), (.int (405 : Int32)), (.int (413 : Int32)), (.int (414 : Int32)), (.int (431 : Int32)), (.int (500 : Int32)), (.int (499 : Int32)), (.int (403 : Int32)), (.int (406 : Int32)), (.int (412 : Int32)), (.int (415 : Int32)), (.int (430 : Int32)), (.int (432 : Int32)), (.int (0 : Int32)), (.int (0 : Int32)), (.int (0 : Int32))] (.int (0 : Int32)) := Arv.set Ar118 q118 S118 N118 H118 G118 rfl W119 12 rfl (Nat.le_of_ble_eq_true rfl)
  have K122 : Keep h0 h119 [] := K114.wr W119 (Or.inr sz_b17)
  have N123 := Fr.snoc X119 N115 gn_b17
  have O124 := O116.wr W119 gn_b17
  have Z125 := (Nat.le_trans Z117 (Keep.of_wr W119).1)
  refine own_by (T' := T119) (g' := (mkF m 89 #[.val (.int p0_0), .val (.int p0_1), .unset, .unset, .unset, .unset, .unset] [(.ref b17)])) st119 ?_
  refine own_by (T' := T119) (g' := (mkF m 95 #[.val (.int p0_0), .val (.int p0_1), .unset, .unset, .unset, .unset, .unset] [(.int (501 : Int32)), (.int (13 : Int32)), (.ref b17), (.ref b17)])) (fun t k => ?_) ?_
  · show Steps p.tables e below (T119.setTop (mkF m 89 #[.val (.int p0_0), .val (.int p0_1), .unset, .unset, .unset, .unset, .unset] [(.ref b17)])) t
    refine XS.dup X119.here hx rfl (hb hby at_89) rfl rfl ?_
    show Steps p.tables e below (T119.setTop (mkF m 90 #[.val (.int p0_0), .val (.int p0_1), .unset, .unset, .unset, .unset, .unset] [(.ref b17), (.ref b17)])) t
    refine XS.bipush X119.here hx rfl (hb hby at_90) ?_
    show Steps p.tables e below (T119.setTop (mkF m 92 #[.val (.int p0_0), .val (.int p0_1), .unset, .unset, .unset, .unset, .unset] [(.int (13 : Int32)), (.ref b17), (.ref b17)])) t
    refine XS.sipush X119.here hx rfl (hb hby at_92) ?_
    show Steps p.tables e below (T119.setTop (mkF m 95 #[.val (.int p0_0), .val (.int p0_1), .unset, .unset, .unset, .unset, .unset] [(.int (501 : Int32)), (.int (13 : Int32)), (.ref b17), (.ref b17)])) t
    exact k
  obtain ⟨cl126, Ar126, q126, S126, N126, H126, G126⟩ := f120
  obtain ⟨T127, h127, X127, e127, W127, st127⟩ := stI X119 hx hZ e119 Ar126 (j := (13 : Int32)) (inb_of S126 ⟨by decide, by decide⟩) (g := (mkF m 95 #[.val (.int p0_0), .val (.int p0_1), .unset, .unset, .unset, .unset, .unset] [(.int (501 : Int32)), (.int (13 : Int32)), (.ref b17), (.ref b17)])) rfl rfl (hb hby at_95)
  have f128 : Arv Z h127 b17 k17 .int (16 : Int32) [(.int (404 : Int32)), (.int (405 : Int32)), (.int (413 : Int32)), (.int (414 : Int32)), (.int (431 : Int32)), (.int (500 : Int32)), (.int (499 : Int32)), (.int (403 : Int32)), (.int (406 : Int32)), (.int (412 : Int32)), (.int (415 : Int32)), (.int (430 : Int32)), (.int (432 : Int32)), (.int (501 : Int32)), (.int (0 : Int32)), (.int (0 : Int32))] (.int (0 : Int32)) := Arv.set Ar126 q126 S126 N126 H126 G126 rfl W127 13 rfl (Nat.le_of_ble_eq_true rfl)
  have K130 : Keep h0 h127 [] := K122.wr W127 (Or.inr sz_b17)
  have N131 := Fr.snoc X127 N123 gn_b17
  have O132 := O124.wr W127 gn_b17
  have Z133 := (Nat.le_trans Z125 (Keep.of_wr W127).1)
  refine own_by (T' := T127) (g' := (mkF m 96 #[.val (.int p0_0), .val (.int p0_1), .unset, .unset, .unset, .unset, .unset] [(.ref b17)])) st127 ?_
  refine own_by (T' := T127) (g' := (mkF m 100 #[.val (.int p0_0), .val (.int p0_1), .unset, .unset, .unset, .unset, .unset] [(.int (0 : Int32)), (.int (14 : Int32)), (.ref b17), (.ref b17)])) (fun t k => ?_) ?_
  · show Steps p.tables e below (T127.setTop (mkF m 96 #[.val (.int p0_0), .val (.int p0_1), .unset, .unset, .unset, .unset, .unset] [(.ref b17)])) t
    refine XS.dup X127.here hx rfl (hb hby at_96) rfl rfl ?_
    show Steps p.tables e below (T127.setTop (mkF m 97 #[.val (.int p0_0), .val (.int p0_1), .unset, .unset, .unset, .unset, .unset] [(.ref b17), (.ref b17)])) t
    refine XS.bipush X127.here hx rfl (hb hby at_97) ?_
    show Steps p.tables e below (T127.setTop (mkF m 99 #[.val (.int p0_0), .val (.int p0_1), .unset, .unset, .unset, .unset, .unset] [(.int (14 : Int32)), (.ref b17), (.ref b17)])) t
    refine XS.iconst X127.here hx rfl (hb hby at_99) ?_
    show Steps p.tables e below (T127.setTop (mkF m 100 #[.val (.int p0_0), .val (.int p0_1), .unset, .unset, .unset, .unset, .unset] [(.int (0 : Int32)), (.int (14 : Int32)), (.ref b17), (.ref b17)])) t
    exact k
  obtain ⟨cl134, Ar134, q134, S134, N134, H134, G134⟩ := f128
  obtain ⟨T135, h135, X135, e135, W135, st135⟩ := stI X127 hx hZ e127 Ar134 (j := (14 : Int32)) (inb_of S134 ⟨by decide, by decide⟩) (g := (mkF m 100 #[.val (.int p0_0), .val (.int p0_1), .unset, .unset, .unset, .unset, .unset] [(.int (0 : Int32)), (.int (14 : Int32)), (.ref b17), (.ref b17)])) rfl rfl (hb hby at_100)
  have f136 : Arv Z h135 b17 k17 .int (16 : Int32) [(.int (404 : Int32)), (.int (405 : Int32)), (.int (413 : Int32)), (.int (414 : Int32)), (.int (431 : Int32)), (.int (500 : Int32)), (.int (499 : Int32)), (.int (403 : Int32)), (.int (406 : Int32)), (.int (412 : Int32)), (.int (415 : Int32)), (.int (430 : Int32)), (.int (432 : Int32)), (.int (501 : Int32)), (.int (0 : Int32)), (.int (0 : Int32))] (.int (0 : Int32)) := Arv.set Ar134 q134 S134 N134 H134 G134 rfl W135 14 rfl (Nat.le_of_ble_eq_true rfl)
  have K138 : Keep h0 h135 [] := K130.wr W135 (Or.inr sz_b17)
  have N139 := Fr.snoc X135 N131 gn_b17
  have O140 := O132.wr W135 gn_b17
  have Z141 := (Nat.le_trans Z133 (Keep.of_wr W135).1)
  refine own_by (T' := T135) (g' := (mkF m 101 #[.val (.int p0_0), .val (.int p0_1), .unset, .unset, .unset, .unset, .unset] [(.ref b17)])) st135 ?_
  refine own_by (T' := T135) (g' := (mkF m 105 #[.val (.int p0_0), .val (.int p0_1), .unset, .unset, .unset, .unset, .unset] [(.int (-1 : Int32)), (.int (15 : Int32)), (.ref b17), (.ref b17)])) (fun t k => ?_) ?_
  · show Steps p.tables e below (T135.setTop (mkF m 101 #[.val (.int p0_0), .val (.int p0_1), .unset, .unset, .unset, .unset, .unset] [(.ref b17)])) t
    refine XS.dup X135.here hx rfl (hb hby at_101) rfl rfl ?_
    show Steps p.tables e below (T135.setTop (mkF m 102 #[.val (.int p0_0), .val (.int p0_1), .unset, .unset, .unset, .unset, .unset] [(.ref b17), (.ref b17)])) t
    refine XS.bipush X135.here hx rfl (hb hby at_102) ?_
    show Steps p.tables e below (T135.setTop (mkF m 104 #[.val (.int p0_0), .val (.int p0_1), .unset, .unset, .unset, .unset, .unset] [(.int (15 : Int32)), (.ref b17), (.ref b17)])) t
    refine XS.iconst X135.here hx rfl (hb hby at_104) ?_
    show Steps p.tables e below (T135.setTop (mkF m 105 #[.val (.int p0_0), .val (.int p0_1), .unset, .unset, .unset, .unset, .unset] [(.int (-1 : Int32)), (.int (15 : Int32)), (.ref b17), (.ref b17)])) t
    exact k
  obtain ⟨cl142, Ar142, q142, S142, N142, H142, G142⟩ := f136
  obtain ⟨T143, h143, X143, e143, W143, st143⟩ := stI X135 hx hZ e135 Ar142 (j := (15 : Int32)) (inb_of S142 ⟨by decide, by decide⟩) (g := (mkF m 105 #[.val (.int p0_0), .val (.int p0_1), .unset, .unset, .unset, .unset, .unset] [(.int (-1 : Int32)), (.int (15 : Int32)), (.ref b17), (.ref b17)])) rfl rfl (hb hby at_105)
  have f144 : Arv Z h143 b17 k17 .int (16 : Int32) [(.int (404 : Int32)), (.int (405 : Int32)), (.int (413 : Int32)), (.int (414 : Int32)), (.int (431 : Int32)), (.int (500 : Int32)), (.int (499 : Int32)), (.int (403 : Int32)), (.int (406 : Int32)), (.int (412 : Int32)), (.int (415 : Int32)), (.int (430 : Int32)), (.int (432 : Int32)), (.int (501 : Int32)), (.int (0 : Int32)), (.int (-1 : Int32))] (.int (0 : Int32)) := Arv.set Ar142 q142 S142 N142 H142 G142 rfl W143 15 rfl (Nat.le_of_ble_eq_true rfl)
  have K146 : Keep h0 h143 [] := K138.wr W143 (Or.inr sz_b17)
  have N147 := Fr.snoc X143 N139 gn_b17
  have O148 := O140.wr W143 gn_b17
  have Z149 := (Nat.le_trans Z141 (Keep.of_wr W143).1)
  refine own_by (T' := T143) (g' := (mkF m 106 #[.val (.int p0_0), .val (.int p0_1), .unset, .unset, .unset, .unset, .unset] [(.ref b17)])) st143 ?_
  refine own_by (T' := T143) (g' := (mkF m 115 #[.val (.int p0_0), .val (.int p0_1), .val (.ref b17), .val (.int (p0_0 &&& (31 : Int32))), .unset, .unset, .unset] [(.int (16 : Int32)), (.int (p0_0 &&& (31 : Int32)))])) (fun t k => ?_) ?_
  · show Steps p.tables e below (T143.setTop (mkF m 106 #[.val (.int p0_0), .val (.int p0_1), .unset, .unset, .unset, .unset, .unset] [(.ref b17)])) t
    refine XS.astoreN X143.here hx rfl (hb hby at_106) rfl rfl (l' := #[.val (.int p0_0), .val (.int p0_1), .val (.ref b17), .unset, .unset, .unset, .unset]) rfl ?_
    show Steps p.tables e below (T143.setTop (mkF m 107 #[.val (.int p0_0), .val (.int p0_1), .val (.ref b17), .unset, .unset, .unset, .unset] [])) t
    refine XS.iloadN X143.here hx rfl (hb hby at_107) rfl ?_
    show Steps p.tables e below (T143.setTop (mkF m 108 #[.val (.int p0_0), .val (.int p0_1), .val (.ref b17), .unset, .unset, .unset, .unset] [(.int p0_0)])) t
    refine XS.bipush X143.here hx rfl (hb hby at_108) ?_
    show Steps p.tables e below (T143.setTop (mkF m 110 #[.val (.int p0_0), .val (.int p0_1), .val (.ref b17), .unset, .unset, .unset, .unset] [(.int (31 : Int32)), (.int p0_0)])) t
    refine XS.iand X143.here hx rfl (hb hby at_110) rfl ?_
    show Steps p.tables e below (T143.setTop (mkF m 111 #[.val (.int p0_0), .val (.int p0_1), .val (.ref b17), .unset, .unset, .unset, .unset] [(.int (p0_0 &&& (31 : Int32)))])) t
    refine XS.istoreN X143.here hx rfl (hb hby at_111) rfl (l' := #[.val (.int p0_0), .val (.int p0_1), .val (.ref b17), .val (.int (p0_0 &&& (31 : Int32))), .unset, .unset, .unset]) rfl ?_
    show Steps p.tables e below (T143.setTop (mkF m 112 #[.val (.int p0_0), .val (.int p0_1), .val (.ref b17), .val (.int (p0_0 &&& (31 : Int32))), .unset, .unset, .unset] [])) t
    refine XS.iloadN X143.here hx rfl (hb hby at_112) rfl ?_
    show Steps p.tables e below (T143.setTop (mkF m 113 #[.val (.int p0_0), .val (.int p0_1), .val (.ref b17), .val (.int (p0_0 &&& (31 : Int32))), .unset, .unset, .unset] [(.int (p0_0 &&& (31 : Int32)))])) t
    refine XS.bipush X143.here hx rfl (hb hby at_113) ?_
    show Steps p.tables e below (T143.setTop (mkF m 115 #[.val (.int p0_0), .val (.int p0_1), .val (.ref b17), .val (.int (p0_0 &&& (31 : Int32))), .unset, .unset, .unset] [(.int (16 : Int32)), (.int (p0_0 &&& (31 : Int32)))])) t
    exact k
  have J0_1 : ∀ (T153 : State) (L153 : List Loc) (i152 : Int32), Stand p l e room_1 s m #[(.int p0_0), (.int p0_1)] below meth c T153 L153 1 16 → T153.heap = h143 → Fr n0 L153 → own_Go p e below (own_P s below room_1 (own_Q0 (own_F0_125_1 p0_0 p0_1 i152) h0 n0)) T153 (mkF m 125 #[.val (.int p0_0), .val (.int p0_1), .val (.ref b17), .val (.int (p0_0 &&& (31 : Int32))), .unset, .unset, .unset] [(.int i152)]) := by
    intro T153 L153 i152 X153 e153 N153
    refine own_by (T' := T153) (g' := (mkF m 129 #[.val (.int p0_0), .val (.int p0_1), .val (.ref b17), .val (.int (p0_0 &&& (31 : Int32))), .val (.int i152), .unset, .unset] [(.int i152)])) (fun t k => ?_) ?_
    · show Steps p.tables e below (T153.setTop (mkF m 125 #[.val (.int p0_0), .val (.int p0_1), .val (.ref b17), .val (.int (p0_0 &&& (31 : Int32))), .unset, .unset, .unset] [(.int i152)])) t
      refine XS.istore X153.here hx rfl (hb hby at_125) rfl (l' := #[.val (.int p0_0), .val (.int p0_1), .val (.ref b17), .val (.int (p0_0 &&& (31 : Int32))), .val (.int i152), .unset, .unset]) rfl ?_
      show Steps p.tables e below (T153.setTop (mkF m 127 #[.val (.int p0_0), .val (.int p0_1), .val (.ref b17), .val (.int (p0_0 &&& (31 : Int32))), .val (.int i152), .unset, .unset] [])) t
      refine XS.iload X153.here hx rfl (hb hby at_127) rfl ?_
      show Steps p.tables e below (T153.setTop (mkF m 129 #[.val (.int p0_0), .val (.int p0_1), .val (.ref b17), .val (.int (p0_0 &&& (31 : Int32))), .val (.int i152), .unset, .unset] [(.int i152)])) t
      exact k
    obtain ⟨v154, _, ⟨T154, L154, k154, n154⟩, -, X154, ⟨Lc154, hQ154, l154, y154, z154⟩, st154⟩ := Jvm.LawKit.callS X153 hx (y := (⟨"com/example/vacant_errand/vacanterrand/ErrorCode", "forStatus", "(I)Lcom/example/vacant_errand/vacanterrand/ErrorCode;"⟩ : MethodName)) hown (mvT hZ (hw _ (List.mem_of_getElem? (i := 1) rfl))) (mvT hZ (hw _ (List.mem_of_getElem? (i := 2) rfl))) (mvT hZ (hw _ (List.mem_of_getElem? (i := 3) rfl))) (mvT hZ (hw _ (List.mem_of_getElem? (i := 4) rfl))) (by decide) (backOf (W := 0) (own_rm1 l Z a0 hw [] i152 wNOT_FOUND wBAD_REQUEST wINTERNAL_ERROR wTOO_LARGE wMETHOD_NOT_ALLOWED h143 n0 Z149 O148 EN) hZ (hw _ (List.mem_of_getElem? (i := 4) rfl)) (hw _ (List.mem_of_getElem? (i := 3) rfl)) (by decide) (by decide)) (g := (mkF m 129 #[.val (.int p0_0), .val (.int p0_1), .val (.ref b17), .val (.int (p0_0 &&& (31 : Int32))), .val (.int i152), .unset, .unset] [(.int i152)])) rfl (by rw [hml]; rfl) (argsL := [(.int i152)]) (rest := []) (lenOf pd__I_Lcom_example_vacant_errand_vacanterrand_ErrorCode_ rfl) rfl (by show 2 * 0 + _ ≤ _; exact Nat.le_of_eq rfl) (hb hby at_129) (fun _ _ => ⟨rfl, e153, (by decide : 1 + 0 ≤ _), (by decide : 16 + 0 ≤ _)⟩)
    dsimp only [Pt.U, Pt.locs, Pt.cells, Pt.slots] at X154 l154 y154 z154 st154 hQ154
    subst l154 y154 z154
    obtain ⟨hv154, M154, e154⟩ := hQ154
    have N155 := Fr.app N153 M154
    by_cases hc156 : i152 = (404 : Int32)
    · skip
      obtain rfl : v154 = some (.ref wNOT_FOUND) := hv154.trans (congrArg some ((if_pos hc156).trans rfl))
      refine own_by (T' := T154) (g' := (mkF m 132 #[.val (.int p0_0), .val (.int p0_1), .val (.ref b17), .val (.int (p0_0 &&& (31 : Int32))), .val (.int i152), .unset, .unset] [(.ref wNOT_FOUND)])) st154 ?_
      refine own_by (T' := T154) (g' := (mkF m 142 #[.val (.int p0_0), .val (.int p0_1), .val (.ref b17), .val (.int (p0_0 &&& (31 : Int32))), .val (.int i152), .val (.ref wNOT_FOUND), .unset] [])) (fun t k => ?_) ?_
      · show Steps p.tables e below (T154.setTop (mkF m 132 #[.val (.int p0_0), .val (.int p0_1), .val (.ref b17), .val (.int (p0_0 &&& (31 : Int32))), .val (.int i152), .unset, .unset] [(.ref wNOT_FOUND)])) t
        refine XS.astore X154.here hx rfl (hb hby at_132) rfl rfl (l' := #[.val (.int p0_0), .val (.int p0_1), .val (.ref b17), .val (.int (p0_0 &&& (31 : Int32))), .val (.int i152), .val (.ref wNOT_FOUND), .unset]) rfl ?_
        show Steps p.tables e below (T154.setTop (mkF m 134 #[.val (.int p0_0), .val (.int p0_1), .val (.ref b17), .val (.int (p0_0 &&& (31 : Int32))), .val (.int i152), .val (.ref wNOT_FOUND), .unset] [])) t
        refine XS.iload X154.here hx rfl (hb hby at_134) rfl ?_
        show Steps p.tables e below (T154.setTop (mkF m 136 #[.val (.int p0_0), .val (.int p0_1), .val (.ref b17), .val (.int (p0_0 &&& (31 : Int32))), .val (.int i152), .val (.ref wNOT_FOUND), .unset] [(.int i152)])) t
        refine XS.sipush X154.here hx rfl (hb hby at_136) ?_
        show Steps p.tables e below (T154.setTop (mkF m 139 #[.val (.int p0_0), .val (.int p0_1), .val (.ref b17), .val (.int (p0_0 &&& (31 : Int32))), .val (.int i152), .val (.ref wNOT_FOUND), .unset] [(.int (404 : Int32)), (.int i152)])) t
        refine XS.icmpNo X154.here hx rfl (hb hby at_139) rfl (teq hc156).2 ?_
        show Steps p.tables e below (T154.setTop (mkF m 142 #[.val (.int p0_0), .val (.int p0_1), .val (.ref b17), .val (.int (p0_0 &&& (31 : Int32))), .val (.int i152), .val (.ref wNOT_FOUND), .unset] [])) t
        exact k
      obtain ⟨T157, X157, e157, st157⟩ := getS2 X154 hx hZ hown (host := "") (Or.inl (hw _ (List.mem_of_getElem? (i := 7) rfl))) Via.refl e154 (EN.1.ext O148.2) (g := (mkF m 142 #[.val (.int p0_0), .val (.int p0_1), .val (.ref b17), .val (.int (p0_0 &&& (31 : Int32))), .val (.int i152), .val (.ref wNOT_FOUND), .unset] [])) rfl (hb hby at_142)
      refine own_by (T' := T157) (g' := (mkF m 145 #[.val (.int p0_0), .val (.int p0_1), .val (.ref b17), .val (.int (p0_0 &&& (31 : Int32))), .val (.int i152), .val (.ref wNOT_FOUND), .unset] [(.ref wNOT_FOUND)])) st157 ?_
      refine own_by (T' := T157) (g' := (mkF m 254 #[.val (.int p0_0), .val (.int p0_1), .val (.ref b17), .val (.int (p0_0 &&& (31 : Int32))), .val (.int i152), .val (.ref wNOT_FOUND), .val (.ref wNOT_FOUND)] [(.ref wNOT_FOUND)])) (fun t k => ?_) ?_
      · show Steps p.tables e below (T157.setTop (mkF m 145 #[.val (.int p0_0), .val (.int p0_1), .val (.ref b17), .val (.int (p0_0 &&& (31 : Int32))), .val (.int i152), .val (.ref wNOT_FOUND), .unset] [(.ref wNOT_FOUND)])) t
        refine XS.astore X157.here hx rfl (hb hby at_145) rfl rfl (l' := #[.val (.int p0_0), .val (.int p0_1), .val (.ref b17), .val (.int (p0_0 &&& (31 : Int32))), .val (.int i152), .val (.ref wNOT_FOUND), .val (.ref wNOT_FOUND)]) rfl ?_
        show Steps p.tables e below (T157.setTop (mkF m 147 #[.val (.int p0_0), .val (.int p0_1), .val (.ref b17), .val (.int (p0_0 &&& (31 : Int32))), .val (.int i152), .val (.ref wNOT_FOUND), .val (.ref wNOT_FOUND)] [])) t
        refine XS.goto X157.here hx rfl (pc0 := 147) (pc' := 219) rfl (hb hby at_147) (by decide) (by decide) ?_
        show Steps p.tables e below (T157.setTop (mkF m 219 #[.val (.int p0_0), .val (.int p0_1), .val (.ref b17), .val (.int (p0_0 &&& (31 : Int32))), .val (.int i152), .val (.ref wNOT_FOUND), .val (.ref wNOT_FOUND)] [])) t
        refine XS.aload X157.here hx rfl (hb hby at_219) rfl rfl ?_
        show Steps p.tables e below (T157.setTop (mkF m 221 #[.val (.int p0_0), .val (.int p0_1), .val (.ref b17), .val (.int (p0_0 &&& (31 : Int32))), .val (.int i152), .val (.ref wNOT_FOUND), .val (.ref wNOT_FOUND)] [(.ref wNOT_FOUND)])) t
        refine XS.aload X157.here hx rfl (hb hby at_221) rfl rfl ?_
        show Steps p.tables e below (T157.setTop (mkF m 223 #[.val (.int p0_0), .val (.int p0_1), .val (.ref b17), .val (.int (p0_0 &&& (31 : Int32))), .val (.int i152), .val (.ref wNOT_FOUND), .val (.ref wNOT_FOUND)] [(.ref wNOT_FOUND), (.ref wNOT_FOUND)])) t
        refine Jvm.RoadKit.acmp (g := (mkF m 223 #[.val (.int p0_0), .val (.int p0_1), .val (.ref b17), .val (.int (p0_0 &&& (31 : Int32))), .val (.int i152), .val (.ref wNOT_FOUND), .val (.ref wNOT_FOUND)] [(.ref wNOT_FOUND), (.ref wNOT_FOUND)])) X157 hx rfl rfl rfl (pc0 := 223) (pc' := 228) (same := true) rfl (hb hby at_223) rfl (decide_eq_true rfl) (by decide) (by decide) ?_
        show Steps p.tables e below (T157.setTop (mkF m 228 #[.val (.int p0_0), .val (.int p0_1), .val (.ref b17), .val (.int (p0_0 &&& (31 : Int32))), .val (.int i152), .val (.ref wNOT_FOUND), .val (.ref wNOT_FOUND)] [])) t
        refine XS.iload X157.here hx rfl (hb hby at_228) rfl ?_
        show Steps p.tables e below (T157.setTop (mkF m 230 #[.val (.int p0_0), .val (.int p0_1), .val (.ref b17), .val (.int (p0_0 &&& (31 : Int32))), .val (.int i152), .val (.ref wNOT_FOUND), .val (.ref wNOT_FOUND)] [(.int i152)])) t
        refine XS.sipush X157.here hx rfl (hb hby at_230) ?_
        show Steps p.tables e below (T157.setTop (mkF m 233 #[.val (.int p0_0), .val (.int p0_1), .val (.ref b17), .val (.int (p0_0 &&& (31 : Int32))), .val (.int i152), .val (.ref wNOT_FOUND), .val (.ref wNOT_FOUND)] [(.int (404 : Int32)), (.int i152)])) t
        refine XS.icmpYes X157.here hx rfl (pc0 := 233) (pc' := 252) rfl (hb hby at_233) rfl (teq hc156).1 (by decide) (by decide) ?_
        show Steps p.tables e below (T157.setTop (mkF m 252 #[.val (.int p0_0), .val (.int p0_1), .val (.ref b17), .val (.int (p0_0 &&& (31 : Int32))), .val (.int i152), .val (.ref wNOT_FOUND), .val (.ref wNOT_FOUND)] [])) t
        refine XS.aload X157.here hx rfl (hb hby at_252) rfl rfl ?_
        show Steps p.tables e below (T157.setTop (mkF m 254 #[.val (.int p0_0), .val (.int p0_1), .val (.ref b17), .val (.int (p0_0 &&& (31 : Int32))), .val (.int i152), .val (.ref wNOT_FOUND), .val (.ref wNOT_FOUND)] [(.ref wNOT_FOUND)])) t
        exact k
      obtain ⟨cq158, kq158, q158a, q158b, q158c⟩ := isOf hZ e157 (EN.2.1.ext O148.2)
      obtain ⟨v158, _, ⟨T158, L158, k158, n158⟩, -, X158, ⟨Lc158, hQ158, l158, y158, z158⟩, st158⟩ := X157.virtualBack hx (y := (⟨"com/example/vacant_errand/vacanterrand/ErrorCode", "status", "()I"⟩ : MethodName)) (z := (⟨"com/example/vacant_errand/vacanterrand/ErrorCode", "status", "()I"⟩ : MethodName)) hown (mvT hZ (hw _ (List.mem_of_getElem? (i := 8) rfl))) (mvT hZ (hw _ (List.mem_of_getElem? (i := 9) rfl))) (notFace_of_selects (args := #[]) (mvT hZ (hw _ (List.mem_of_getElem? (i := 11) rfl)))) (mvT hZ (hw _ (List.mem_of_getElem? (i := 11) rfl))) (mvT hZ (hw _ (List.mem_of_getElem? (i := 10) rfl))) (by decide) (backOf (W := 0) (own_rm2 l Z a0 hw [] wNOT_FOUND (404 : Int32) h143 n0 Z149 (EN.2.2.1.ext O148.2)) hZ (hw _ (List.mem_of_getElem? (i := 12) rfl)) (hw _ (List.mem_of_getElem? (i := 3) rfl)) (by decide) (by decide)) q158a q158c (g := (mkF m 254 #[.val (.int p0_0), .val (.int p0_1), .val (.ref b17), .val (.int (p0_0 &&& (31 : Int32))), .val (.int i152), .val (.ref wNOT_FOUND), .val (.ref wNOT_FOUND)] [(.ref wNOT_FOUND)])) rfl (by rw [hml]; rfl) (Steps.refl _) (argsL := []) (rest := []) (lenOf pd___I rfl) rfl (by show 2 * 0 + _ ≤ _; exact Nat.le_of_eq rfl) (hb hby at_254) (fun _ _ => ⟨rfl, e157, (by decide : 1 + 0 ≤ _), (by decide : 16 + 0 ≤ _)⟩)
      dsimp only [Pt.U, Pt.locs, Pt.cells, Pt.slots] at X158 l158 y158 z158 st158 hQ158
      subst l158 y158 z158
      obtain ⟨rfl, M158, e158⟩ := hQ158
      have N159 := Fr.app N155 M158
      refine own_via (T' := T158) (g' := (mkF m 257 #[.val (.int p0_0), .val (.int p0_1), .val (.ref b17), .val (.int (p0_0 &&& (31 : Int32))), .val (.int i152), .val (.ref wNOT_FOUND), .val (.ref wNOT_FOUND)] [(.int (own_F2 (404 : Int32)))])) st158 ?_
      refine own_by (T' := T158) (g' := (mkF m 259 #[.val (.int p0_0), .val (.int p0_1), .val (.ref b17), .val (.int (p0_0 &&& (31 : Int32))), .val (.int i152), .val (.ref wNOT_FOUND), .val (.ref wNOT_FOUND)] [(.int i152), (.int (own_F2 (404 : Int32)))])) (fun t k => ?_) ?_
      · show Steps p.tables e below (T158.setTop (mkF m 257 #[.val (.int p0_0), .val (.int p0_1), .val (.ref b17), .val (.int (p0_0 &&& (31 : Int32))), .val (.int i152), .val (.ref wNOT_FOUND), .val (.ref wNOT_FOUND)] [(.int (own_F2 (404 : Int32)))])) t
        refine XS.iload X158.here hx rfl (hb hby at_257) rfl ?_
        show Steps p.tables e below (T158.setTop (mkF m 259 #[.val (.int p0_0), .val (.int p0_1), .val (.ref b17), .val (.int (p0_0 &&& (31 : Int32))), .val (.int i152), .val (.ref wNOT_FOUND), .val (.ref wNOT_FOUND)] [(.int i152), (.int (own_F2 (404 : Int32)))])) t
        exact k
      by_cases hc160 : (own_F2 (404 : Int32)) = i152
      · skip
        refine own_by (T' := T158) (g' := (mkF m 267 #[.val (.int p0_0), .val (.int p0_1), .val (.ref b17), .val (.int (p0_0 &&& (31 : Int32))), .val (.int i152), .val (.ref wNOT_FOUND), .val (.ref wNOT_FOUND)] [(.int (1 : Int32))])) (fun t k => ?_) ?_
        · show Steps p.tables e below (T158.setTop (mkF m 259 #[.val (.int p0_0), .val (.int p0_1), .val (.ref b17), .val (.int (p0_0 &&& (31 : Int32))), .val (.int i152), .val (.ref wNOT_FOUND), .val (.ref wNOT_FOUND)] [(.int i152), (.int (own_F2 (404 : Int32)))])) t
          refine XS.icmpNo X158.here hx rfl (hb hby at_259) rfl (teq hc160).2 ?_
          show Steps p.tables e below (T158.setTop (mkF m 262 #[.val (.int p0_0), .val (.int p0_1), .val (.ref b17), .val (.int (p0_0 &&& (31 : Int32))), .val (.int i152), .val (.ref wNOT_FOUND), .val (.ref wNOT_FOUND)] [])) t
          refine XS.iconst X158.here hx rfl (hb hby at_262) ?_
          show Steps p.tables e below (T158.setTop (mkF m 263 #[.val (.int p0_0), .val (.int p0_1), .val (.ref b17), .val (.int (p0_0 &&& (31 : Int32))), .val (.int i152), .val (.ref wNOT_FOUND), .val (.ref wNOT_FOUND)] [(.int (1 : Int32))])) t
          refine XS.goto X158.here hx rfl (pc0 := 263) (pc' := 267) rfl (hb hby at_263) (by decide) (by decide) ?_
          show Steps p.tables e below (T158.setTop (mkF m 267 #[.val (.int p0_0), .val (.int p0_1), .val (.ref b17), .val (.int (p0_0 &&& (31 : Int32))), .val (.int i152), .val (.ref wNOT_FOUND), .val (.ref wNOT_FOUND)] [(.int (1 : Int32))])) t
          exact k
        rw [show own_F0_125_1 p0_0 p0_1 i152 = (1 : Int32) from ((if_pos hc156).trans ((if_pos hc160).trans rfl))]
        exact own_retN X158 hx (t := .boolean) Bd.returns (by simp) (hb hby at_267) hlk (by decide) (by decide) ⟨rfl, N159⟩
      · skip
        refine own_by (T' := T158) (g' := (mkF m 267 #[.val (.int p0_0), .val (.int p0_1), .val (.ref b17), .val (.int (p0_0 &&& (31 : Int32))), .val (.int i152), .val (.ref wNOT_FOUND), .val (.ref wNOT_FOUND)] [(.int (0 : Int32))])) (fun t k => ?_) ?_
        · show Steps p.tables e below (T158.setTop (mkF m 259 #[.val (.int p0_0), .val (.int p0_1), .val (.ref b17), .val (.int (p0_0 &&& (31 : Int32))), .val (.int i152), .val (.ref wNOT_FOUND), .val (.ref wNOT_FOUND)] [(.int i152), (.int (own_F2 (404 : Int32)))])) t
          refine XS.icmpYes X158.here hx rfl (pc0 := 259) (pc' := 266) rfl (hb hby at_259) rfl (feq hc160).2 (by decide) (by decide) ?_
          show Steps p.tables e below (T158.setTop (mkF m 266 #[.val (.int p0_0), .val (.int p0_1), .val (.ref b17), .val (.int (p0_0 &&& (31 : Int32))), .val (.int i152), .val (.ref wNOT_FOUND), .val (.ref wNOT_FOUND)] [])) t
          refine XS.iconst X158.here hx rfl (hb hby at_266) ?_
          show Steps p.tables e below (T158.setTop (mkF m 267 #[.val (.int p0_0), .val (.int p0_1), .val (.ref b17), .val (.int (p0_0 &&& (31 : Int32))), .val (.int i152), .val (.ref wNOT_FOUND), .val (.ref wNOT_FOUND)] [(.int (0 : Int32))])) t
          exact k
        rw [show own_F0_125_1 p0_0 p0_1 i152 = (0 : Int32) from ((if_pos hc156).trans ((if_neg hc160).trans rfl))]
        exact own_retN X158 hx (t := .boolean) Bd.returns (by simp) (hb hby at_267) hlk (by decide) (by decide) ⟨rfl, N159⟩
    · skip
      by_cases hc161 : i152 = (405 : Int32)
      · skip
        obtain rfl : v154 = some (.ref wMETHOD_NOT_ALLOWED) := hv154.trans (congrArg some ((if_neg hc156).trans ((if_pos hc161).trans rfl)))
        refine own_by (T' := T154) (g' := (mkF m 132 #[.val (.int p0_0), .val (.int p0_1), .val (.ref b17), .val (.int (p0_0 &&& (31 : Int32))), .val (.int i152), .unset, .unset] [(.ref wMETHOD_NOT_ALLOWED)])) st154 ?_
        refine own_by (T' := T154) (g' := (mkF m 158 #[.val (.int p0_0), .val (.int p0_1), .val (.ref b17), .val (.int (p0_0 &&& (31 : Int32))), .val (.int i152), .val (.ref wMETHOD_NOT_ALLOWED), .unset] [])) (fun t k => ?_) ?_
        · show Steps p.tables e below (T154.setTop (mkF m 132 #[.val (.int p0_0), .val (.int p0_1), .val (.ref b17), .val (.int (p0_0 &&& (31 : Int32))), .val (.int i152), .unset, .unset] [(.ref wMETHOD_NOT_ALLOWED)])) t
          refine XS.astore X154.here hx rfl (hb hby at_132) rfl rfl (l' := #[.val (.int p0_0), .val (.int p0_1), .val (.ref b17), .val (.int (p0_0 &&& (31 : Int32))), .val (.int i152), .val (.ref wMETHOD_NOT_ALLOWED), .unset]) rfl ?_
          show Steps p.tables e below (T154.setTop (mkF m 134 #[.val (.int p0_0), .val (.int p0_1), .val (.ref b17), .val (.int (p0_0 &&& (31 : Int32))), .val (.int i152), .val (.ref wMETHOD_NOT_ALLOWED), .unset] [])) t
          refine XS.iload X154.here hx rfl (hb hby at_134) rfl ?_
          show Steps p.tables e below (T154.setTop (mkF m 136 #[.val (.int p0_0), .val (.int p0_1), .val (.ref b17), .val (.int (p0_0 &&& (31 : Int32))), .val (.int i152), .val (.ref wMETHOD_NOT_ALLOWED), .unset] [(.int i152)])) t
          refine XS.sipush X154.here hx rfl (hb hby at_136) ?_
          show Steps p.tables e below (T154.setTop (mkF m 139 #[.val (.int p0_0), .val (.int p0_1), .val (.ref b17), .val (.int (p0_0 &&& (31 : Int32))), .val (.int i152), .val (.ref wMETHOD_NOT_ALLOWED), .unset] [(.int (404 : Int32)), (.int i152)])) t
          refine XS.icmpYes X154.here hx rfl (pc0 := 139) (pc' := 150) rfl (hb hby at_139) rfl (feq hc156).2 (by decide) (by decide) ?_
          show Steps p.tables e below (T154.setTop (mkF m 150 #[.val (.int p0_0), .val (.int p0_1), .val (.ref b17), .val (.int (p0_0 &&& (31 : Int32))), .val (.int i152), .val (.ref wMETHOD_NOT_ALLOWED), .unset] [])) t
          refine XS.iload X154.here hx rfl (hb hby at_150) rfl ?_
          show Steps p.tables e below (T154.setTop (mkF m 152 #[.val (.int p0_0), .val (.int p0_1), .val (.ref b17), .val (.int (p0_0 &&& (31 : Int32))), .val (.int i152), .val (.ref wMETHOD_NOT_ALLOWED), .unset] [(.int i152)])) t
          refine XS.sipush X154.here hx rfl (hb hby at_152) ?_
          show Steps p.tables e below (T154.setTop (mkF m 155 #[.val (.int p0_0), .val (.int p0_1), .val (.ref b17), .val (.int (p0_0 &&& (31 : Int32))), .val (.int i152), .val (.ref wMETHOD_NOT_ALLOWED), .unset] [(.int (405 : Int32)), (.int i152)])) t
          refine XS.icmpNo X154.here hx rfl (hb hby at_155) rfl (teq hc161).2 ?_
          show Steps p.tables e below (T154.setTop (mkF m 158 #[.val (.int p0_0), .val (.int p0_1), .val (.ref b17), .val (.int (p0_0 &&& (31 : Int32))), .val (.int i152), .val (.ref wMETHOD_NOT_ALLOWED), .unset] [])) t
          exact k
        obtain ⟨T162, X162, e162, st162⟩ := getS2 X154 hx hZ hown (host := "") (Or.inl (hw _ (List.mem_of_getElem? (i := 26) rfl))) Via.refl e154 (EN.2.2.2.2.2.2.2.2.2.2.2.2.1.ext O148.2) (g := (mkF m 158 #[.val (.int p0_0), .val (.int p0_1), .val (.ref b17), .val (.int (p0_0 &&& (31 : Int32))), .val (.int i152), .val (.ref wMETHOD_NOT_ALLOWED), .unset] [])) rfl (hb hby at_158)
        refine own_by (T' := T162) (g' := (mkF m 161 #[.val (.int p0_0), .val (.int p0_1), .val (.ref b17), .val (.int (p0_0 &&& (31 : Int32))), .val (.int i152), .val (.ref wMETHOD_NOT_ALLOWED), .unset] [(.ref wMETHOD_NOT_ALLOWED)])) st162 ?_
        refine own_by (T' := T162) (g' := (mkF m 254 #[.val (.int p0_0), .val (.int p0_1), .val (.ref b17), .val (.int (p0_0 &&& (31 : Int32))), .val (.int i152), .val (.ref wMETHOD_NOT_ALLOWED), .val (.ref wMETHOD_NOT_ALLOWED)] [(.ref wMETHOD_NOT_ALLOWED)])) (fun t k => ?_) ?_
        · show Steps p.tables e below (T162.setTop (mkF m 161 #[.val (.int p0_0), .val (.int p0_1), .val (.ref b17), .val (.int (p0_0 &&& (31 : Int32))), .val (.int i152), .val (.ref wMETHOD_NOT_ALLOWED), .unset] [(.ref wMETHOD_NOT_ALLOWED)])) t
          refine XS.astore X162.here hx rfl (hb hby at_161) rfl rfl (l' := #[.val (.int p0_0), .val (.int p0_1), .val (.ref b17), .val (.int (p0_0 &&& (31 : Int32))), .val (.int i152), .val (.ref wMETHOD_NOT_ALLOWED), .val (.ref wMETHOD_NOT_ALLOWED)]) rfl ?_
          show Steps p.tables e below (T162.setTop (mkF m 163 #[.val (.int p0_0), .val (.int p0_1), .val (.ref b17), .val (.int (p0_0 &&& (31 : Int32))), .val (.int i152), .val (.ref wMETHOD_NOT_ALLOWED), .val (.ref wMETHOD_NOT_ALLOWED)] [])) t
          refine XS.goto X162.here hx rfl (pc0 := 163) (pc' := 219) rfl (hb hby at_163) (by decide) (by decide) ?_
          show Steps p.tables e below (T162.setTop (mkF m 219 #[.val (.int p0_0), .val (.int p0_1), .val (.ref b17), .val (.int (p0_0 &&& (31 : Int32))), .val (.int i152), .val (.ref wMETHOD_NOT_ALLOWED), .val (.ref wMETHOD_NOT_ALLOWED)] [])) t
          refine XS.aload X162.here hx rfl (hb hby at_219) rfl rfl ?_
          show Steps p.tables e below (T162.setTop (mkF m 221 #[.val (.int p0_0), .val (.int p0_1), .val (.ref b17), .val (.int (p0_0 &&& (31 : Int32))), .val (.int i152), .val (.ref wMETHOD_NOT_ALLOWED), .val (.ref wMETHOD_NOT_ALLOWED)] [(.ref wMETHOD_NOT_ALLOWED)])) t
          refine XS.aload X162.here hx rfl (hb hby at_221) rfl rfl ?_
          show Steps p.tables e below (T162.setTop (mkF m 223 #[.val (.int p0_0), .val (.int p0_1), .val (.ref b17), .val (.int (p0_0 &&& (31 : Int32))), .val (.int i152), .val (.ref wMETHOD_NOT_ALLOWED), .val (.ref wMETHOD_NOT_ALLOWED)] [(.ref wMETHOD_NOT_ALLOWED), (.ref wMETHOD_NOT_ALLOWED)])) t
          refine Jvm.RoadKit.acmp (g := (mkF m 223 #[.val (.int p0_0), .val (.int p0_1), .val (.ref b17), .val (.int (p0_0 &&& (31 : Int32))), .val (.int i152), .val (.ref wMETHOD_NOT_ALLOWED), .val (.ref wMETHOD_NOT_ALLOWED)] [(.ref wMETHOD_NOT_ALLOWED), (.ref wMETHOD_NOT_ALLOWED)])) X162 hx rfl rfl rfl (pc0 := 223) (pc' := 228) (same := true) rfl (hb hby at_223) rfl (decide_eq_true rfl) (by decide) (by decide) ?_
          show Steps p.tables e below (T162.setTop (mkF m 228 #[.val (.int p0_0), .val (.int p0_1), .val (.ref b17), .val (.int (p0_0 &&& (31 : Int32))), .val (.int i152), .val (.ref wMETHOD_NOT_ALLOWED), .val (.ref wMETHOD_NOT_ALLOWED)] [])) t
          refine XS.iload X162.here hx rfl (hb hby at_228) rfl ?_
          show Steps p.tables e below (T162.setTop (mkF m 230 #[.val (.int p0_0), .val (.int p0_1), .val (.ref b17), .val (.int (p0_0 &&& (31 : Int32))), .val (.int i152), .val (.ref wMETHOD_NOT_ALLOWED), .val (.ref wMETHOD_NOT_ALLOWED)] [(.int i152)])) t
          refine XS.sipush X162.here hx rfl (hb hby at_230) ?_
          show Steps p.tables e below (T162.setTop (mkF m 233 #[.val (.int p0_0), .val (.int p0_1), .val (.ref b17), .val (.int (p0_0 &&& (31 : Int32))), .val (.int i152), .val (.ref wMETHOD_NOT_ALLOWED), .val (.ref wMETHOD_NOT_ALLOWED)] [(.int (404 : Int32)), (.int i152)])) t
          refine XS.icmpNo X162.here hx rfl (hb hby at_233) rfl (feq hc156).1 ?_
          show Steps p.tables e below (T162.setTop (mkF m 236 #[.val (.int p0_0), .val (.int p0_1), .val (.ref b17), .val (.int (p0_0 &&& (31 : Int32))), .val (.int i152), .val (.ref wMETHOD_NOT_ALLOWED), .val (.ref wMETHOD_NOT_ALLOWED)] [])) t
          refine XS.iload X162.here hx rfl (hb hby at_236) rfl ?_
          show Steps p.tables e below (T162.setTop (mkF m 238 #[.val (.int p0_0), .val (.int p0_1), .val (.ref b17), .val (.int (p0_0 &&& (31 : Int32))), .val (.int i152), .val (.ref wMETHOD_NOT_ALLOWED), .val (.ref wMETHOD_NOT_ALLOWED)] [(.int i152)])) t
          refine XS.sipush X162.here hx rfl (hb hby at_238) ?_
          show Steps p.tables e below (T162.setTop (mkF m 241 #[.val (.int p0_0), .val (.int p0_1), .val (.ref b17), .val (.int (p0_0 &&& (31 : Int32))), .val (.int i152), .val (.ref wMETHOD_NOT_ALLOWED), .val (.ref wMETHOD_NOT_ALLOWED)] [(.int (405 : Int32)), (.int i152)])) t
          refine XS.icmpYes X162.here hx rfl (pc0 := 241) (pc' := 252) rfl (hb hby at_241) rfl (teq hc161).1 (by decide) (by decide) ?_
          show Steps p.tables e below (T162.setTop (mkF m 252 #[.val (.int p0_0), .val (.int p0_1), .val (.ref b17), .val (.int (p0_0 &&& (31 : Int32))), .val (.int i152), .val (.ref wMETHOD_NOT_ALLOWED), .val (.ref wMETHOD_NOT_ALLOWED)] [])) t
          refine XS.aload X162.here hx rfl (hb hby at_252) rfl rfl ?_
          show Steps p.tables e below (T162.setTop (mkF m 254 #[.val (.int p0_0), .val (.int p0_1), .val (.ref b17), .val (.int (p0_0 &&& (31 : Int32))), .val (.int i152), .val (.ref wMETHOD_NOT_ALLOWED), .val (.ref wMETHOD_NOT_ALLOWED)] [(.ref wMETHOD_NOT_ALLOWED)])) t
          exact k
        obtain ⟨cq163, kq163, q163a, q163b, q163c⟩ := isOf hZ e162 (EN.2.2.2.2.2.2.2.2.2.2.2.2.2.1.ext O148.2)
        obtain ⟨v163, _, ⟨T163, L163, k163, n163⟩, -, X163, ⟨Lc163, hQ163, l163, y163, z163⟩, st163⟩ := X162.virtualBack hx (y := (⟨"com/example/vacant_errand/vacanterrand/ErrorCode", "status", "()I"⟩ : MethodName)) (z := (⟨"com/example/vacant_errand/vacanterrand/ErrorCode", "status", "()I"⟩ : MethodName)) hown (mvT hZ (hw _ (List.mem_of_getElem? (i := 8) rfl))) (mvT hZ (hw _ (List.mem_of_getElem? (i := 9) rfl))) (notFace_of_selects (args := #[]) (mvT hZ (hw _ (List.mem_of_getElem? (i := 11) rfl)))) (mvT hZ (hw _ (List.mem_of_getElem? (i := 11) rfl))) (mvT hZ (hw _ (List.mem_of_getElem? (i := 10) rfl))) (by decide) (backOf (W := 0) (own_rm2 l Z a0 hw [] wMETHOD_NOT_ALLOWED (405 : Int32) h143 n0 Z149 (EN.2.2.2.2.2.2.2.2.2.2.2.2.2.2.ext O148.2)) hZ (hw _ (List.mem_of_getElem? (i := 12) rfl)) (hw _ (List.mem_of_getElem? (i := 3) rfl)) (by decide) (by decide)) q163a q163c (g := (mkF m 254 #[.val (.int p0_0), .val (.int p0_1), .val (.ref b17), .val (.int (p0_0 &&& (31 : Int32))), .val (.int i152), .val (.ref wMETHOD_NOT_ALLOWED), .val (.ref wMETHOD_NOT_ALLOWED)] [(.ref wMETHOD_NOT_ALLOWED)])) rfl (by rw [hml]; rfl) (Steps.refl _) (argsL := []) (rest := []) (lenOf pd___I rfl) rfl (by show 2 * 0 + _ ≤ _; exact Nat.le_of_eq rfl) (hb hby at_254) (fun _ _ => ⟨rfl, e162, (by decide : 1 + 0 ≤ _), (by decide : 16 + 0 ≤ _)⟩)
        dsimp only [Pt.U, Pt.locs, Pt.cells, Pt.slots] at X163 l163 y163 z163 st163 hQ163
        subst l163 y163 z163
        obtain ⟨rfl, M163, e163⟩ := hQ163
        have N164 := Fr.app N155 M163
        refine own_via (T' := T163) (g' := (mkF m 257 #[.val (.int p0_0), .val (.int p0_1), .val (.ref b17), .val (.int (p0_0 &&& (31 : Int32))), .val (.int i152), .val (.ref wMETHOD_NOT_ALLOWED), .val (.ref wMETHOD_NOT_ALLOWED)] [(.int (own_F2 (405 : Int32)))])) st163 ?_
        refine own_by (T' := T163) (g' := (mkF m 259 #[.val (.int p0_0), .val (.int p0_1), .val (.ref b17), .val (.int (p0_0 &&& (31 : Int32))), .val (.int i152), .val (.ref wMETHOD_NOT_ALLOWED), .val (.ref wMETHOD_NOT_ALLOWED)] [(.int i152), (.int (own_F2 (405 : Int32)))])) (fun t k => ?_) ?_
        · show Steps p.tables e below (T163.setTop (mkF m 257 #[.val (.int p0_0), .val (.int p0_1), .val (.ref b17), .val (.int (p0_0 &&& (31 : Int32))), .val (.int i152), .val (.ref wMETHOD_NOT_ALLOWED), .val (.ref wMETHOD_NOT_ALLOWED)] [(.int (own_F2 (405 : Int32)))])) t
          refine XS.iload X163.here hx rfl (hb hby at_257) rfl ?_
          show Steps p.tables e below (T163.setTop (mkF m 259 #[.val (.int p0_0), .val (.int p0_1), .val (.ref b17), .val (.int (p0_0 &&& (31 : Int32))), .val (.int i152), .val (.ref wMETHOD_NOT_ALLOWED), .val (.ref wMETHOD_NOT_ALLOWED)] [(.int i152), (.int (own_F2 (405 : Int32)))])) t
          exact k
        by_cases hc165 : (own_F2 (405 : Int32)) = i152
        · skip
          refine own_by (T' := T163) (g' := (mkF m 267 #[.val (.int p0_0), .val (.int p0_1), .val (.ref b17), .val (.int (p0_0 &&& (31 : Int32))), .val (.int i152), .val (.ref wMETHOD_NOT_ALLOWED), .val (.ref wMETHOD_NOT_ALLOWED)] [(.int (1 : Int32))])) (fun t k => ?_) ?_
          · show Steps p.tables e below (T163.setTop (mkF m 259 #[.val (.int p0_0), .val (.int p0_1), .val (.ref b17), .val (.int (p0_0 &&& (31 : Int32))), .val (.int i152), .val (.ref wMETHOD_NOT_ALLOWED), .val (.ref wMETHOD_NOT_ALLOWED)] [(.int i152), (.int (own_F2 (405 : Int32)))])) t
            refine XS.icmpNo X163.here hx rfl (hb hby at_259) rfl (teq hc165).2 ?_
            show Steps p.tables e below (T163.setTop (mkF m 262 #[.val (.int p0_0), .val (.int p0_1), .val (.ref b17), .val (.int (p0_0 &&& (31 : Int32))), .val (.int i152), .val (.ref wMETHOD_NOT_ALLOWED), .val (.ref wMETHOD_NOT_ALLOWED)] [])) t
            refine XS.iconst X163.here hx rfl (hb hby at_262) ?_
            show Steps p.tables e below (T163.setTop (mkF m 263 #[.val (.int p0_0), .val (.int p0_1), .val (.ref b17), .val (.int (p0_0 &&& (31 : Int32))), .val (.int i152), .val (.ref wMETHOD_NOT_ALLOWED), .val (.ref wMETHOD_NOT_ALLOWED)] [(.int (1 : Int32))])) t
            refine XS.goto X163.here hx rfl (pc0 := 263) (pc' := 267) rfl (hb hby at_263) (by decide) (by decide) ?_
            show Steps p.tables e below (T163.setTop (mkF m 267 #[.val (.int p0_0), .val (.int p0_1), .val (.ref b17), .val (.int (p0_0 &&& (31 : Int32))), .val (.int i152), .val (.ref wMETHOD_NOT_ALLOWED), .val (.ref wMETHOD_NOT_ALLOWED)] [(.int (1 : Int32))])) t
            exact k
          rw [show own_F0_125_1 p0_0 p0_1 i152 = (1 : Int32) from ((if_neg hc156).trans ((if_pos hc161).trans ((if_pos hc165).trans rfl)))]
          exact own_retN X163 hx (t := .boolean) Bd.returns (by simp) (hb hby at_267) hlk (by decide) (by decide) ⟨rfl, N164⟩
        · skip
          refine own_by (T' := T163) (g' := (mkF m 267 #[.val (.int p0_0), .val (.int p0_1), .val (.ref b17), .val (.int (p0_0 &&& (31 : Int32))), .val (.int i152), .val (.ref wMETHOD_NOT_ALLOWED), .val (.ref wMETHOD_NOT_ALLOWED)] [(.int (0 : Int32))])) (fun t k => ?_) ?_
          · show Steps p.tables e below (T163.setTop (mkF m 259 #[.val (.int p0_0), .val (.int p0_1), .val (.ref b17), .val (.int (p0_0 &&& (31 : Int32))), .val (.int i152), .val (.ref wMETHOD_NOT_ALLOWED), .val (.ref wMETHOD_NOT_ALLOWED)] [(.int i152), (.int (own_F2 (405 : Int32)))])) t
            refine XS.icmpYes X163.here hx rfl (pc0 := 259) (pc' := 266) rfl (hb hby at_259) rfl (feq hc165).2 (by decide) (by decide) ?_
            show Steps p.tables e below (T163.setTop (mkF m 266 #[.val (.int p0_0), .val (.int p0_1), .val (.ref b17), .val (.int (p0_0 &&& (31 : Int32))), .val (.int i152), .val (.ref wMETHOD_NOT_ALLOWED), .val (.ref wMETHOD_NOT_ALLOWED)] [])) t
            refine XS.iconst X163.here hx rfl (hb hby at_266) ?_
            show Steps p.tables e below (T163.setTop (mkF m 267 #[.val (.int p0_0), .val (.int p0_1), .val (.ref b17), .val (.int (p0_0 &&& (31 : Int32))), .val (.int i152), .val (.ref wMETHOD_NOT_ALLOWED), .val (.ref wMETHOD_NOT_ALLOWED)] [(.int (0 : Int32))])) t
            exact k
          rw [show own_F0_125_1 p0_0 p0_1 i152 = (0 : Int32) from ((if_neg hc156).trans ((if_pos hc161).trans ((if_neg hc165).trans rfl)))]
          exact own_retN X163 hx (t := .boolean) Bd.returns (by simp) (hb hby at_267) hlk (by decide) (by decide) ⟨rfl, N164⟩
      · skip
        by_cases hc166 : i152 = (413 : Int32)
        · skip
          obtain rfl : v154 = some (.ref wTOO_LARGE) := hv154.trans (congrArg some ((if_neg hc156).trans ((if_neg hc161).trans ((if_pos hc166).trans rfl))))
          refine own_by (T' := T154) (g' := (mkF m 132 #[.val (.int p0_0), .val (.int p0_1), .val (.ref b17), .val (.int (p0_0 &&& (31 : Int32))), .val (.int i152), .unset, .unset] [(.ref wTOO_LARGE)])) st154 ?_
          refine own_by (T' := T154) (g' := (mkF m 190 #[.val (.int p0_0), .val (.int p0_1), .val (.ref b17), .val (.int (p0_0 &&& (31 : Int32))), .val (.int i152), .val (.ref wTOO_LARGE), .unset] [])) (fun t k => ?_) ?_
          · show Steps p.tables e below (T154.setTop (mkF m 132 #[.val (.int p0_0), .val (.int p0_1), .val (.ref b17), .val (.int (p0_0 &&& (31 : Int32))), .val (.int i152), .unset, .unset] [(.ref wTOO_LARGE)])) t
            refine XS.astore X154.here hx rfl (hb hby at_132) rfl rfl (l' := #[.val (.int p0_0), .val (.int p0_1), .val (.ref b17), .val (.int (p0_0 &&& (31 : Int32))), .val (.int i152), .val (.ref wTOO_LARGE), .unset]) rfl ?_
            show Steps p.tables e below (T154.setTop (mkF m 134 #[.val (.int p0_0), .val (.int p0_1), .val (.ref b17), .val (.int (p0_0 &&& (31 : Int32))), .val (.int i152), .val (.ref wTOO_LARGE), .unset] [])) t
            refine XS.iload X154.here hx rfl (hb hby at_134) rfl ?_
            show Steps p.tables e below (T154.setTop (mkF m 136 #[.val (.int p0_0), .val (.int p0_1), .val (.ref b17), .val (.int (p0_0 &&& (31 : Int32))), .val (.int i152), .val (.ref wTOO_LARGE), .unset] [(.int i152)])) t
            refine XS.sipush X154.here hx rfl (hb hby at_136) ?_
            show Steps p.tables e below (T154.setTop (mkF m 139 #[.val (.int p0_0), .val (.int p0_1), .val (.ref b17), .val (.int (p0_0 &&& (31 : Int32))), .val (.int i152), .val (.ref wTOO_LARGE), .unset] [(.int (404 : Int32)), (.int i152)])) t
            refine XS.icmpYes X154.here hx rfl (pc0 := 139) (pc' := 150) rfl (hb hby at_139) rfl (feq hc156).2 (by decide) (by decide) ?_
            show Steps p.tables e below (T154.setTop (mkF m 150 #[.val (.int p0_0), .val (.int p0_1), .val (.ref b17), .val (.int (p0_0 &&& (31 : Int32))), .val (.int i152), .val (.ref wTOO_LARGE), .unset] [])) t
            refine XS.iload X154.here hx rfl (hb hby at_150) rfl ?_
            show Steps p.tables e below (T154.setTop (mkF m 152 #[.val (.int p0_0), .val (.int p0_1), .val (.ref b17), .val (.int (p0_0 &&& (31 : Int32))), .val (.int i152), .val (.ref wTOO_LARGE), .unset] [(.int i152)])) t
            refine XS.sipush X154.here hx rfl (hb hby at_152) ?_
            show Steps p.tables e below (T154.setTop (mkF m 155 #[.val (.int p0_0), .val (.int p0_1), .val (.ref b17), .val (.int (p0_0 &&& (31 : Int32))), .val (.int i152), .val (.ref wTOO_LARGE), .unset] [(.int (405 : Int32)), (.int i152)])) t
            refine XS.icmpYes X154.here hx rfl (pc0 := 155) (pc' := 166) rfl (hb hby at_155) rfl (feq hc161).2 (by decide) (by decide) ?_
            show Steps p.tables e below (T154.setTop (mkF m 166 #[.val (.int p0_0), .val (.int p0_1), .val (.ref b17), .val (.int (p0_0 &&& (31 : Int32))), .val (.int i152), .val (.ref wTOO_LARGE), .unset] [])) t
            refine XS.iload X154.here hx rfl (hb hby at_166) rfl ?_
            show Steps p.tables e below (T154.setTop (mkF m 168 #[.val (.int p0_0), .val (.int p0_1), .val (.ref b17), .val (.int (p0_0 &&& (31 : Int32))), .val (.int i152), .val (.ref wTOO_LARGE), .unset] [(.int i152)])) t
            refine XS.sipush X154.here hx rfl (hb hby at_168) ?_
            show Steps p.tables e below (T154.setTop (mkF m 171 #[.val (.int p0_0), .val (.int p0_1), .val (.ref b17), .val (.int (p0_0 &&& (31 : Int32))), .val (.int i152), .val (.ref wTOO_LARGE), .unset] [(.int (413 : Int32)), (.int i152)])) t
            refine XS.icmpYes X154.here hx rfl (pc0 := 171) (pc' := 190) rfl (hb hby at_171) rfl (teq hc166).1 (by decide) (by decide) ?_
            show Steps p.tables e below (T154.setTop (mkF m 190 #[.val (.int p0_0), .val (.int p0_1), .val (.ref b17), .val (.int (p0_0 &&& (31 : Int32))), .val (.int i152), .val (.ref wTOO_LARGE), .unset] [])) t
            exact k
          obtain ⟨T167, X167, e167, st167⟩ := getS2 X154 hx hZ hown (host := "") (Or.inl (hw _ (List.mem_of_getElem? (i := 23) rfl))) Via.refl e154 (EN.2.2.2.2.2.2.2.2.2.1.ext O148.2) (g := (mkF m 190 #[.val (.int p0_0), .val (.int p0_1), .val (.ref b17), .val (.int (p0_0 &&& (31 : Int32))), .val (.int i152), .val (.ref wTOO_LARGE), .unset] [])) rfl (hb hby at_190)
          refine own_by (T' := T167) (g' := (mkF m 193 #[.val (.int p0_0), .val (.int p0_1), .val (.ref b17), .val (.int (p0_0 &&& (31 : Int32))), .val (.int i152), .val (.ref wTOO_LARGE), .unset] [(.ref wTOO_LARGE)])) st167 ?_
          refine own_by (T' := T167) (g' := (mkF m 254 #[.val (.int p0_0), .val (.int p0_1), .val (.ref b17), .val (.int (p0_0 &&& (31 : Int32))), .val (.int i152), .val (.ref wTOO_LARGE), .val (.ref wTOO_LARGE)] [(.ref wTOO_LARGE)])) (fun t k => ?_) ?_
          · show Steps p.tables e below (T167.setTop (mkF m 193 #[.val (.int p0_0), .val (.int p0_1), .val (.ref b17), .val (.int (p0_0 &&& (31 : Int32))), .val (.int i152), .val (.ref wTOO_LARGE), .unset] [(.ref wTOO_LARGE)])) t
            refine XS.astore X167.here hx rfl (hb hby at_193) rfl rfl (l' := #[.val (.int p0_0), .val (.int p0_1), .val (.ref b17), .val (.int (p0_0 &&& (31 : Int32))), .val (.int i152), .val (.ref wTOO_LARGE), .val (.ref wTOO_LARGE)]) rfl ?_
            show Steps p.tables e below (T167.setTop (mkF m 195 #[.val (.int p0_0), .val (.int p0_1), .val (.ref b17), .val (.int (p0_0 &&& (31 : Int32))), .val (.int i152), .val (.ref wTOO_LARGE), .val (.ref wTOO_LARGE)] [])) t
            refine XS.goto X167.here hx rfl (pc0 := 195) (pc' := 219) rfl (hb hby at_195) (by decide) (by decide) ?_
            show Steps p.tables e below (T167.setTop (mkF m 219 #[.val (.int p0_0), .val (.int p0_1), .val (.ref b17), .val (.int (p0_0 &&& (31 : Int32))), .val (.int i152), .val (.ref wTOO_LARGE), .val (.ref wTOO_LARGE)] [])) t
            refine XS.aload X167.here hx rfl (hb hby at_219) rfl rfl ?_
            show Steps p.tables e below (T167.setTop (mkF m 221 #[.val (.int p0_0), .val (.int p0_1), .val (.ref b17), .val (.int (p0_0 &&& (31 : Int32))), .val (.int i152), .val (.ref wTOO_LARGE), .val (.ref wTOO_LARGE)] [(.ref wTOO_LARGE)])) t
            refine XS.aload X167.here hx rfl (hb hby at_221) rfl rfl ?_
            show Steps p.tables e below (T167.setTop (mkF m 223 #[.val (.int p0_0), .val (.int p0_1), .val (.ref b17), .val (.int (p0_0 &&& (31 : Int32))), .val (.int i152), .val (.ref wTOO_LARGE), .val (.ref wTOO_LARGE)] [(.ref wTOO_LARGE), (.ref wTOO_LARGE)])) t
            refine Jvm.RoadKit.acmp (g := (mkF m 223 #[.val (.int p0_0), .val (.int p0_1), .val (.ref b17), .val (.int (p0_0 &&& (31 : Int32))), .val (.int i152), .val (.ref wTOO_LARGE), .val (.ref wTOO_LARGE)] [(.ref wTOO_LARGE), (.ref wTOO_LARGE)])) X167 hx rfl rfl rfl (pc0 := 223) (pc' := 228) (same := true) rfl (hb hby at_223) rfl (decide_eq_true rfl) (by decide) (by decide) ?_
            show Steps p.tables e below (T167.setTop (mkF m 228 #[.val (.int p0_0), .val (.int p0_1), .val (.ref b17), .val (.int (p0_0 &&& (31 : Int32))), .val (.int i152), .val (.ref wTOO_LARGE), .val (.ref wTOO_LARGE)] [])) t
            refine XS.iload X167.here hx rfl (hb hby at_228) rfl ?_
            show Steps p.tables e below (T167.setTop (mkF m 230 #[.val (.int p0_0), .val (.int p0_1), .val (.ref b17), .val (.int (p0_0 &&& (31 : Int32))), .val (.int i152), .val (.ref wTOO_LARGE), .val (.ref wTOO_LARGE)] [(.int i152)])) t
            refine XS.sipush X167.here hx rfl (hb hby at_230) ?_
            show Steps p.tables e below (T167.setTop (mkF m 233 #[.val (.int p0_0), .val (.int p0_1), .val (.ref b17), .val (.int (p0_0 &&& (31 : Int32))), .val (.int i152), .val (.ref wTOO_LARGE), .val (.ref wTOO_LARGE)] [(.int (404 : Int32)), (.int i152)])) t
            refine XS.icmpNo X167.here hx rfl (hb hby at_233) rfl (feq hc156).1 ?_
            show Steps p.tables e below (T167.setTop (mkF m 236 #[.val (.int p0_0), .val (.int p0_1), .val (.ref b17), .val (.int (p0_0 &&& (31 : Int32))), .val (.int i152), .val (.ref wTOO_LARGE), .val (.ref wTOO_LARGE)] [])) t
            refine XS.iload X167.here hx rfl (hb hby at_236) rfl ?_
            show Steps p.tables e below (T167.setTop (mkF m 238 #[.val (.int p0_0), .val (.int p0_1), .val (.ref b17), .val (.int (p0_0 &&& (31 : Int32))), .val (.int i152), .val (.ref wTOO_LARGE), .val (.ref wTOO_LARGE)] [(.int i152)])) t
            refine XS.sipush X167.here hx rfl (hb hby at_238) ?_
            show Steps p.tables e below (T167.setTop (mkF m 241 #[.val (.int p0_0), .val (.int p0_1), .val (.ref b17), .val (.int (p0_0 &&& (31 : Int32))), .val (.int i152), .val (.ref wTOO_LARGE), .val (.ref wTOO_LARGE)] [(.int (405 : Int32)), (.int i152)])) t
            refine XS.icmpNo X167.here hx rfl (hb hby at_241) rfl (feq hc161).1 ?_
            show Steps p.tables e below (T167.setTop (mkF m 244 #[.val (.int p0_0), .val (.int p0_1), .val (.ref b17), .val (.int (p0_0 &&& (31 : Int32))), .val (.int i152), .val (.ref wTOO_LARGE), .val (.ref wTOO_LARGE)] [])) t
            refine XS.iload X167.here hx rfl (hb hby at_244) rfl ?_
            show Steps p.tables e below (T167.setTop (mkF m 246 #[.val (.int p0_0), .val (.int p0_1), .val (.ref b17), .val (.int (p0_0 &&& (31 : Int32))), .val (.int i152), .val (.ref wTOO_LARGE), .val (.ref wTOO_LARGE)] [(.int i152)])) t
            refine XS.sipush X167.here hx rfl (hb hby at_246) ?_
            show Steps p.tables e below (T167.setTop (mkF m 249 #[.val (.int p0_0), .val (.int p0_1), .val (.ref b17), .val (.int (p0_0 &&& (31 : Int32))), .val (.int i152), .val (.ref wTOO_LARGE), .val (.ref wTOO_LARGE)] [(.int (413 : Int32)), (.int i152)])) t
            refine XS.icmpNo X167.here hx rfl (hb hby at_249) rfl (teq hc166).2 ?_
            show Steps p.tables e below (T167.setTop (mkF m 252 #[.val (.int p0_0), .val (.int p0_1), .val (.ref b17), .val (.int (p0_0 &&& (31 : Int32))), .val (.int i152), .val (.ref wTOO_LARGE), .val (.ref wTOO_LARGE)] [])) t
            refine XS.aload X167.here hx rfl (hb hby at_252) rfl rfl ?_
            show Steps p.tables e below (T167.setTop (mkF m 254 #[.val (.int p0_0), .val (.int p0_1), .val (.ref b17), .val (.int (p0_0 &&& (31 : Int32))), .val (.int i152), .val (.ref wTOO_LARGE), .val (.ref wTOO_LARGE)] [(.ref wTOO_LARGE)])) t
            exact k
          obtain ⟨cq168, kq168, q168a, q168b, q168c⟩ := isOf hZ e167 (EN.2.2.2.2.2.2.2.2.2.2.1.ext O148.2)
          obtain ⟨v168, _, ⟨T168, L168, k168, n168⟩, -, X168, ⟨Lc168, hQ168, l168, y168, z168⟩, st168⟩ := X167.virtualBack hx (y := (⟨"com/example/vacant_errand/vacanterrand/ErrorCode", "status", "()I"⟩ : MethodName)) (z := (⟨"com/example/vacant_errand/vacanterrand/ErrorCode", "status", "()I"⟩ : MethodName)) hown (mvT hZ (hw _ (List.mem_of_getElem? (i := 8) rfl))) (mvT hZ (hw _ (List.mem_of_getElem? (i := 9) rfl))) (notFace_of_selects (args := #[]) (mvT hZ (hw _ (List.mem_of_getElem? (i := 11) rfl)))) (mvT hZ (hw _ (List.mem_of_getElem? (i := 11) rfl))) (mvT hZ (hw _ (List.mem_of_getElem? (i := 10) rfl))) (by decide) (backOf (W := 0) (own_rm2 l Z a0 hw [] wTOO_LARGE (413 : Int32) h143 n0 Z149 (EN.2.2.2.2.2.2.2.2.2.2.2.1.ext O148.2)) hZ (hw _ (List.mem_of_getElem? (i := 12) rfl)) (hw _ (List.mem_of_getElem? (i := 3) rfl)) (by decide) (by decide)) q168a q168c (g := (mkF m 254 #[.val (.int p0_0), .val (.int p0_1), .val (.ref b17), .val (.int (p0_0 &&& (31 : Int32))), .val (.int i152), .val (.ref wTOO_LARGE), .val (.ref wTOO_LARGE)] [(.ref wTOO_LARGE)])) rfl (by rw [hml]; rfl) (Steps.refl _) (argsL := []) (rest := []) (lenOf pd___I rfl) rfl (by show 2 * 0 + _ ≤ _; exact Nat.le_of_eq rfl) (hb hby at_254) (fun _ _ => ⟨rfl, e167, (by decide : 1 + 0 ≤ _), (by decide : 16 + 0 ≤ _)⟩)
          dsimp only [Pt.U, Pt.locs, Pt.cells, Pt.slots] at X168 l168 y168 z168 st168 hQ168
          subst l168 y168 z168
          obtain ⟨rfl, M168, e168⟩ := hQ168
          have N169 := Fr.app N155 M168
          refine own_via (T' := T168) (g' := (mkF m 257 #[.val (.int p0_0), .val (.int p0_1), .val (.ref b17), .val (.int (p0_0 &&& (31 : Int32))), .val (.int i152), .val (.ref wTOO_LARGE), .val (.ref wTOO_LARGE)] [(.int (own_F2 (413 : Int32)))])) st168 ?_
          refine own_by (T' := T168) (g' := (mkF m 259 #[.val (.int p0_0), .val (.int p0_1), .val (.ref b17), .val (.int (p0_0 &&& (31 : Int32))), .val (.int i152), .val (.ref wTOO_LARGE), .val (.ref wTOO_LARGE)] [(.int i152), (.int (own_F2 (413 : Int32)))])) (fun t k => ?_) ?_
          · show Steps p.tables e below (T168.setTop (mkF m 257 #[.val (.int p0_0), .val (.int p0_1), .val (.ref b17), .val (.int (p0_0 &&& (31 : Int32))), .val (.int i152), .val (.ref wTOO_LARGE), .val (.ref wTOO_LARGE)] [(.int (own_F2 (413 : Int32)))])) t
            refine XS.iload X168.here hx rfl (hb hby at_257) rfl ?_
            show Steps p.tables e below (T168.setTop (mkF m 259 #[.val (.int p0_0), .val (.int p0_1), .val (.ref b17), .val (.int (p0_0 &&& (31 : Int32))), .val (.int i152), .val (.ref wTOO_LARGE), .val (.ref wTOO_LARGE)] [(.int i152), (.int (own_F2 (413 : Int32)))])) t
            exact k
          by_cases hc170 : (own_F2 (413 : Int32)) = i152
          · skip
            refine own_by (T' := T168) (g' := (mkF m 267 #[.val (.int p0_0), .val (.int p0_1), .val (.ref b17), .val (.int (p0_0 &&& (31 : Int32))), .val (.int i152), .val (.ref wTOO_LARGE), .val (.ref wTOO_LARGE)] [(.int (1 : Int32))])) (fun t k => ?_) ?_
            · show Steps p.tables e below (T168.setTop (mkF m 259 #[.val (.int p0_0), .val (.int p0_1), .val (.ref b17), .val (.int (p0_0 &&& (31 : Int32))), .val (.int i152), .val (.ref wTOO_LARGE), .val (.ref wTOO_LARGE)] [(.int i152), (.int (own_F2 (413 : Int32)))])) t
              refine XS.icmpNo X168.here hx rfl (hb hby at_259) rfl (teq hc170).2 ?_
              show Steps p.tables e below (T168.setTop (mkF m 262 #[.val (.int p0_0), .val (.int p0_1), .val (.ref b17), .val (.int (p0_0 &&& (31 : Int32))), .val (.int i152), .val (.ref wTOO_LARGE), .val (.ref wTOO_LARGE)] [])) t
              refine XS.iconst X168.here hx rfl (hb hby at_262) ?_
              show Steps p.tables e below (T168.setTop (mkF m 263 #[.val (.int p0_0), .val (.int p0_1), .val (.ref b17), .val (.int (p0_0 &&& (31 : Int32))), .val (.int i152), .val (.ref wTOO_LARGE), .val (.ref wTOO_LARGE)] [(.int (1 : Int32))])) t
              refine XS.goto X168.here hx rfl (pc0 := 263) (pc' := 267) rfl (hb hby at_263) (by decide) (by decide) ?_
              show Steps p.tables e below (T168.setTop (mkF m 267 #[.val (.int p0_0), .val (.int p0_1), .val (.ref b17), .val (.int (p0_0 &&& (31 : Int32))), .val (.int i152), .val (.ref wTOO_LARGE), .val (.ref wTOO_LARGE)] [(.int (1 : Int32))])) t
              exact k
            rw [show own_F0_125_1 p0_0 p0_1 i152 = (1 : Int32) from ((if_neg hc156).trans ((if_neg hc161).trans ((if_pos hc166).trans ((if_pos hc170).trans rfl))))]
            exact own_retN X168 hx (t := .boolean) Bd.returns (by simp) (hb hby at_267) hlk (by decide) (by decide) ⟨rfl, N169⟩
          · skip
            refine own_by (T' := T168) (g' := (mkF m 267 #[.val (.int p0_0), .val (.int p0_1), .val (.ref b17), .val (.int (p0_0 &&& (31 : Int32))), .val (.int i152), .val (.ref wTOO_LARGE), .val (.ref wTOO_LARGE)] [(.int (0 : Int32))])) (fun t k => ?_) ?_
            · show Steps p.tables e below (T168.setTop (mkF m 259 #[.val (.int p0_0), .val (.int p0_1), .val (.ref b17), .val (.int (p0_0 &&& (31 : Int32))), .val (.int i152), .val (.ref wTOO_LARGE), .val (.ref wTOO_LARGE)] [(.int i152), (.int (own_F2 (413 : Int32)))])) t
              refine XS.icmpYes X168.here hx rfl (pc0 := 259) (pc' := 266) rfl (hb hby at_259) rfl (feq hc170).2 (by decide) (by decide) ?_
              show Steps p.tables e below (T168.setTop (mkF m 266 #[.val (.int p0_0), .val (.int p0_1), .val (.ref b17), .val (.int (p0_0 &&& (31 : Int32))), .val (.int i152), .val (.ref wTOO_LARGE), .val (.ref wTOO_LARGE)] [])) t
              refine XS.iconst X168.here hx rfl (hb hby at_266) ?_
              show Steps p.tables e below (T168.setTop (mkF m 267 #[.val (.int p0_0), .val (.int p0_1), .val (.ref b17), .val (.int (p0_0 &&& (31 : Int32))), .val (.int i152), .val (.ref wTOO_LARGE), .val (.ref wTOO_LARGE)] [(.int (0 : Int32))])) t
              exact k
            rw [show own_F0_125_1 p0_0 p0_1 i152 = (0 : Int32) from ((if_neg hc156).trans ((if_neg hc161).trans ((if_pos hc166).trans ((if_neg hc170).trans rfl))))]
            exact own_retN X168 hx (t := .boolean) Bd.returns (by simp) (hb hby at_267) hlk (by decide) (by decide) ⟨rfl, N169⟩
        · skip
          by_cases hc171 : i152 = (414 : Int32)
          · skip
            obtain rfl : v154 = some (.ref wTOO_LARGE) := hv154.trans (congrArg some ((if_neg hc156).trans ((if_neg hc161).trans ((if_neg hc166).trans ((if_pos hc171).trans rfl)))))
            refine own_by (T' := T154) (g' := (mkF m 132 #[.val (.int p0_0), .val (.int p0_1), .val (.ref b17), .val (.int (p0_0 &&& (31 : Int32))), .val (.int i152), .unset, .unset] [(.ref wTOO_LARGE)])) st154 ?_
            refine own_by (T' := T154) (g' := (mkF m 190 #[.val (.int p0_0), .val (.int p0_1), .val (.ref b17), .val (.int (p0_0 &&& (31 : Int32))), .val (.int i152), .val (.ref wTOO_LARGE), .unset] [])) (fun t k => ?_) ?_
            · show Steps p.tables e below (T154.setTop (mkF m 132 #[.val (.int p0_0), .val (.int p0_1), .val (.ref b17), .val (.int (p0_0 &&& (31 : Int32))), .val (.int i152), .unset, .unset] [(.ref wTOO_LARGE)])) t
              refine XS.astore X154.here hx rfl (hb hby at_132) rfl rfl (l' := #[.val (.int p0_0), .val (.int p0_1), .val (.ref b17), .val (.int (p0_0 &&& (31 : Int32))), .val (.int i152), .val (.ref wTOO_LARGE), .unset]) rfl ?_
              show Steps p.tables e below (T154.setTop (mkF m 134 #[.val (.int p0_0), .val (.int p0_1), .val (.ref b17), .val (.int (p0_0 &&& (31 : Int32))), .val (.int i152), .val (.ref wTOO_LARGE), .unset] [])) t
              refine XS.iload X154.here hx rfl (hb hby at_134) rfl ?_
              show Steps p.tables e below (T154.setTop (mkF m 136 #[.val (.int p0_0), .val (.int p0_1), .val (.ref b17), .val (.int (p0_0 &&& (31 : Int32))), .val (.int i152), .val (.ref wTOO_LARGE), .unset] [(.int i152)])) t
              refine XS.sipush X154.here hx rfl (hb hby at_136) ?_
              show Steps p.tables e below (T154.setTop (mkF m 139 #[.val (.int p0_0), .val (.int p0_1), .val (.ref b17), .val (.int (p0_0 &&& (31 : Int32))), .val (.int i152), .val (.ref wTOO_LARGE), .unset] [(.int (404 : Int32)), (.int i152)])) t
              refine XS.icmpYes X154.here hx rfl (pc0 := 139) (pc' := 150) rfl (hb hby at_139) rfl (feq hc156).2 (by decide) (by decide) ?_
              show Steps p.tables e below (T154.setTop (mkF m 150 #[.val (.int p0_0), .val (.int p0_1), .val (.ref b17), .val (.int (p0_0 &&& (31 : Int32))), .val (.int i152), .val (.ref wTOO_LARGE), .unset] [])) t
              refine XS.iload X154.here hx rfl (hb hby at_150) rfl ?_
              show Steps p.tables e below (T154.setTop (mkF m 152 #[.val (.int p0_0), .val (.int p0_1), .val (.ref b17), .val (.int (p0_0 &&& (31 : Int32))), .val (.int i152), .val (.ref wTOO_LARGE), .unset] [(.int i152)])) t
              refine XS.sipush X154.here hx rfl (hb hby at_152) ?_
              show Steps p.tables e below (T154.setTop (mkF m 155 #[.val (.int p0_0), .val (.int p0_1), .val (.ref b17), .val (.int (p0_0 &&& (31 : Int32))), .val (.int i152), .val (.ref wTOO_LARGE), .unset] [(.int (405 : Int32)), (.int i152)])) t
              refine XS.icmpYes X154.here hx rfl (pc0 := 155) (pc' := 166) rfl (hb hby at_155) rfl (feq hc161).2 (by decide) (by decide) ?_
              show Steps p.tables e below (T154.setTop (mkF m 166 #[.val (.int p0_0), .val (.int p0_1), .val (.ref b17), .val (.int (p0_0 &&& (31 : Int32))), .val (.int i152), .val (.ref wTOO_LARGE), .unset] [])) t
              refine XS.iload X154.here hx rfl (hb hby at_166) rfl ?_
              show Steps p.tables e below (T154.setTop (mkF m 168 #[.val (.int p0_0), .val (.int p0_1), .val (.ref b17), .val (.int (p0_0 &&& (31 : Int32))), .val (.int i152), .val (.ref wTOO_LARGE), .unset] [(.int i152)])) t
              refine XS.sipush X154.here hx rfl (hb hby at_168) ?_
              show Steps p.tables e below (T154.setTop (mkF m 171 #[.val (.int p0_0), .val (.int p0_1), .val (.ref b17), .val (.int (p0_0 &&& (31 : Int32))), .val (.int i152), .val (.ref wTOO_LARGE), .unset] [(.int (413 : Int32)), (.int i152)])) t
              refine XS.icmpNo X154.here hx rfl (hb hby at_171) rfl (feq hc166).1 ?_
              show Steps p.tables e below (T154.setTop (mkF m 174 #[.val (.int p0_0), .val (.int p0_1), .val (.ref b17), .val (.int (p0_0 &&& (31 : Int32))), .val (.int i152), .val (.ref wTOO_LARGE), .unset] [])) t
              refine XS.iload X154.here hx rfl (hb hby at_174) rfl ?_
              show Steps p.tables e below (T154.setTop (mkF m 176 #[.val (.int p0_0), .val (.int p0_1), .val (.ref b17), .val (.int (p0_0 &&& (31 : Int32))), .val (.int i152), .val (.ref wTOO_LARGE), .unset] [(.int i152)])) t
              refine XS.sipush X154.here hx rfl (hb hby at_176) ?_
              show Steps p.tables e below (T154.setTop (mkF m 179 #[.val (.int p0_0), .val (.int p0_1), .val (.ref b17), .val (.int (p0_0 &&& (31 : Int32))), .val (.int i152), .val (.ref wTOO_LARGE), .unset] [(.int (414 : Int32)), (.int i152)])) t
              refine XS.icmpYes X154.here hx rfl (pc0 := 179) (pc' := 190) rfl (hb hby at_179) rfl (teq hc171).1 (by decide) (by decide) ?_
              show Steps p.tables e below (T154.setTop (mkF m 190 #[.val (.int p0_0), .val (.int p0_1), .val (.ref b17), .val (.int (p0_0 &&& (31 : Int32))), .val (.int i152), .val (.ref wTOO_LARGE), .unset] [])) t
              exact k
            obtain ⟨T172, X172, e172, st172⟩ := getS2 X154 hx hZ hown (host := "") (Or.inl (hw _ (List.mem_of_getElem? (i := 23) rfl))) Via.refl e154 (EN.2.2.2.2.2.2.2.2.2.1.ext O148.2) (g := (mkF m 190 #[.val (.int p0_0), .val (.int p0_1), .val (.ref b17), .val (.int (p0_0 &&& (31 : Int32))), .val (.int i152), .val (.ref wTOO_LARGE), .unset] [])) rfl (hb hby at_190)
            refine own_by (T' := T172) (g' := (mkF m 193 #[.val (.int p0_0), .val (.int p0_1), .val (.ref b17), .val (.int (p0_0 &&& (31 : Int32))), .val (.int i152), .val (.ref wTOO_LARGE), .unset] [(.ref wTOO_LARGE)])) st172 ?_
            refine own_by (T' := T172) (g' := (mkF m 269 #[.val (.int p0_0), .val (.int p0_1), .val (.ref b17), .val (.int (p0_0 &&& (31 : Int32))), .val (.int i152), .val (.ref wTOO_LARGE), .val (.ref wTOO_LARGE)] [(.int (1 : Int32))])) (fun t k => ?_) ?_
            · show Steps p.tables e below (T172.setTop (mkF m 193 #[.val (.int p0_0), .val (.int p0_1), .val (.ref b17), .val (.int (p0_0 &&& (31 : Int32))), .val (.int i152), .val (.ref wTOO_LARGE), .unset] [(.ref wTOO_LARGE)])) t
              refine XS.astore X172.here hx rfl (hb hby at_193) rfl rfl (l' := #[.val (.int p0_0), .val (.int p0_1), .val (.ref b17), .val (.int (p0_0 &&& (31 : Int32))), .val (.int i152), .val (.ref wTOO_LARGE), .val (.ref wTOO_LARGE)]) rfl ?_
              show Steps p.tables e below (T172.setTop (mkF m 195 #[.val (.int p0_0), .val (.int p0_1), .val (.ref b17), .val (.int (p0_0 &&& (31 : Int32))), .val (.int i152), .val (.ref wTOO_LARGE), .val (.ref wTOO_LARGE)] [])) t
              refine XS.goto X172.here hx rfl (pc0 := 195) (pc' := 219) rfl (hb hby at_195) (by decide) (by decide) ?_
              show Steps p.tables e below (T172.setTop (mkF m 219 #[.val (.int p0_0), .val (.int p0_1), .val (.ref b17), .val (.int (p0_0 &&& (31 : Int32))), .val (.int i152), .val (.ref wTOO_LARGE), .val (.ref wTOO_LARGE)] [])) t
              refine XS.aload X172.here hx rfl (hb hby at_219) rfl rfl ?_
              show Steps p.tables e below (T172.setTop (mkF m 221 #[.val (.int p0_0), .val (.int p0_1), .val (.ref b17), .val (.int (p0_0 &&& (31 : Int32))), .val (.int i152), .val (.ref wTOO_LARGE), .val (.ref wTOO_LARGE)] [(.ref wTOO_LARGE)])) t
              refine XS.aload X172.here hx rfl (hb hby at_221) rfl rfl ?_
              show Steps p.tables e below (T172.setTop (mkF m 223 #[.val (.int p0_0), .val (.int p0_1), .val (.ref b17), .val (.int (p0_0 &&& (31 : Int32))), .val (.int i152), .val (.ref wTOO_LARGE), .val (.ref wTOO_LARGE)] [(.ref wTOO_LARGE), (.ref wTOO_LARGE)])) t
              refine Jvm.RoadKit.acmp (g := (mkF m 223 #[.val (.int p0_0), .val (.int p0_1), .val (.ref b17), .val (.int (p0_0 &&& (31 : Int32))), .val (.int i152), .val (.ref wTOO_LARGE), .val (.ref wTOO_LARGE)] [(.ref wTOO_LARGE), (.ref wTOO_LARGE)])) X172 hx rfl rfl rfl (pc0 := 223) (pc' := 228) (same := true) rfl (hb hby at_223) rfl (decide_eq_true rfl) (by decide) (by decide) ?_
              show Steps p.tables e below (T172.setTop (mkF m 228 #[.val (.int p0_0), .val (.int p0_1), .val (.ref b17), .val (.int (p0_0 &&& (31 : Int32))), .val (.int i152), .val (.ref wTOO_LARGE), .val (.ref wTOO_LARGE)] [])) t
              refine XS.iload X172.here hx rfl (hb hby at_228) rfl ?_
              show Steps p.tables e below (T172.setTop (mkF m 230 #[.val (.int p0_0), .val (.int p0_1), .val (.ref b17), .val (.int (p0_0 &&& (31 : Int32))), .val (.int i152), .val (.ref wTOO_LARGE), .val (.ref wTOO_LARGE)] [(.int i152)])) t
              refine XS.sipush X172.here hx rfl (hb hby at_230) ?_
              show Steps p.tables e below (T172.setTop (mkF m 233 #[.val (.int p0_0), .val (.int p0_1), .val (.ref b17), .val (.int (p0_0 &&& (31 : Int32))), .val (.int i152), .val (.ref wTOO_LARGE), .val (.ref wTOO_LARGE)] [(.int (404 : Int32)), (.int i152)])) t
              refine XS.icmpNo X172.here hx rfl (hb hby at_233) rfl (feq hc156).1 ?_
              show Steps p.tables e below (T172.setTop (mkF m 236 #[.val (.int p0_0), .val (.int p0_1), .val (.ref b17), .val (.int (p0_0 &&& (31 : Int32))), .val (.int i152), .val (.ref wTOO_LARGE), .val (.ref wTOO_LARGE)] [])) t
              refine XS.iload X172.here hx rfl (hb hby at_236) rfl ?_
              show Steps p.tables e below (T172.setTop (mkF m 238 #[.val (.int p0_0), .val (.int p0_1), .val (.ref b17), .val (.int (p0_0 &&& (31 : Int32))), .val (.int i152), .val (.ref wTOO_LARGE), .val (.ref wTOO_LARGE)] [(.int i152)])) t
              refine XS.sipush X172.here hx rfl (hb hby at_238) ?_
              show Steps p.tables e below (T172.setTop (mkF m 241 #[.val (.int p0_0), .val (.int p0_1), .val (.ref b17), .val (.int (p0_0 &&& (31 : Int32))), .val (.int i152), .val (.ref wTOO_LARGE), .val (.ref wTOO_LARGE)] [(.int (405 : Int32)), (.int i152)])) t
              refine XS.icmpNo X172.here hx rfl (hb hby at_241) rfl (feq hc161).1 ?_
              show Steps p.tables e below (T172.setTop (mkF m 244 #[.val (.int p0_0), .val (.int p0_1), .val (.ref b17), .val (.int (p0_0 &&& (31 : Int32))), .val (.int i152), .val (.ref wTOO_LARGE), .val (.ref wTOO_LARGE)] [])) t
              refine XS.iload X172.here hx rfl (hb hby at_244) rfl ?_
              show Steps p.tables e below (T172.setTop (mkF m 246 #[.val (.int p0_0), .val (.int p0_1), .val (.ref b17), .val (.int (p0_0 &&& (31 : Int32))), .val (.int i152), .val (.ref wTOO_LARGE), .val (.ref wTOO_LARGE)] [(.int i152)])) t
              refine XS.sipush X172.here hx rfl (hb hby at_246) ?_
              show Steps p.tables e below (T172.setTop (mkF m 249 #[.val (.int p0_0), .val (.int p0_1), .val (.ref b17), .val (.int (p0_0 &&& (31 : Int32))), .val (.int i152), .val (.ref wTOO_LARGE), .val (.ref wTOO_LARGE)] [(.int (413 : Int32)), (.int i152)])) t
              refine XS.icmpYes X172.here hx rfl (pc0 := 249) (pc' := 268) rfl (hb hby at_249) rfl (feq hc166).2 (by decide) (by decide) ?_
              show Steps p.tables e below (T172.setTop (mkF m 268 #[.val (.int p0_0), .val (.int p0_1), .val (.ref b17), .val (.int (p0_0 &&& (31 : Int32))), .val (.int i152), .val (.ref wTOO_LARGE), .val (.ref wTOO_LARGE)] [])) t
              refine XS.iconst X172.here hx rfl (hb hby at_268) ?_
              show Steps p.tables e below (T172.setTop (mkF m 269 #[.val (.int p0_0), .val (.int p0_1), .val (.ref b17), .val (.int (p0_0 &&& (31 : Int32))), .val (.int i152), .val (.ref wTOO_LARGE), .val (.ref wTOO_LARGE)] [(.int (1 : Int32))])) t
              exact k
            rw [show own_F0_125_1 p0_0 p0_1 i152 = (1 : Int32) from ((if_neg hc156).trans ((if_neg hc161).trans ((if_neg hc166).trans ((if_pos hc171).trans rfl))))]
            exact own_retN X172 hx (t := .boolean) Bd.returns (by simp) (hb hby at_269) hlk (by decide) (by decide) ⟨rfl, N155⟩
          · skip
            by_cases hc173 : i152 = (431 : Int32)
            · skip
              obtain rfl : v154 = some (.ref wTOO_LARGE) := hv154.trans (congrArg some ((if_neg hc156).trans ((if_neg hc161).trans ((if_neg hc166).trans ((if_neg hc171).trans ((if_pos hc173).trans rfl))))))
              refine own_by (T' := T154) (g' := (mkF m 132 #[.val (.int p0_0), .val (.int p0_1), .val (.ref b17), .val (.int (p0_0 &&& (31 : Int32))), .val (.int i152), .unset, .unset] [(.ref wTOO_LARGE)])) st154 ?_
              refine own_by (T' := T154) (g' := (mkF m 190 #[.val (.int p0_0), .val (.int p0_1), .val (.ref b17), .val (.int (p0_0 &&& (31 : Int32))), .val (.int i152), .val (.ref wTOO_LARGE), .unset] [])) (fun t k => ?_) ?_
              · show Steps p.tables e below (T154.setTop (mkF m 132 #[.val (.int p0_0), .val (.int p0_1), .val (.ref b17), .val (.int (p0_0 &&& (31 : Int32))), .val (.int i152), .unset, .unset] [(.ref wTOO_LARGE)])) t
                refine XS.astore X154.here hx rfl (hb hby at_132) rfl rfl (l' := #[.val (.int p0_0), .val (.int p0_1), .val (.ref b17), .val (.int (p0_0 &&& (31 : Int32))), .val (.int i152), .val (.ref wTOO_LARGE), .unset]) rfl ?_
                show Steps p.tables e below (T154.setTop (mkF m 134 #[.val (.int p0_0), .val (.int p0_1), .val (.ref b17), .val (.int (p0_0 &&& (31 : Int32))), .val (.int i152), .val (.ref wTOO_LARGE), .unset] [])) t
                refine XS.iload X154.here hx rfl (hb hby at_134) rfl ?_
                show Steps p.tables e below (T154.setTop (mkF m 136 #[.val (.int p0_0), .val (.int p0_1), .val (.ref b17), .val (.int (p0_0 &&& (31 : Int32))), .val (.int i152), .val (.ref wTOO_LARGE), .unset] [(.int i152)])) t
                refine XS.sipush X154.here hx rfl (hb hby at_136) ?_
                show Steps p.tables e below (T154.setTop (mkF m 139 #[.val (.int p0_0), .val (.int p0_1), .val (.ref b17), .val (.int (p0_0 &&& (31 : Int32))), .val (.int i152), .val (.ref wTOO_LARGE), .unset] [(.int (404 : Int32)), (.int i152)])) t
                refine XS.icmpYes X154.here hx rfl (pc0 := 139) (pc' := 150) rfl (hb hby at_139) rfl (feq hc156).2 (by decide) (by decide) ?_
                show Steps p.tables e below (T154.setTop (mkF m 150 #[.val (.int p0_0), .val (.int p0_1), .val (.ref b17), .val (.int (p0_0 &&& (31 : Int32))), .val (.int i152), .val (.ref wTOO_LARGE), .unset] [])) t
                refine XS.iload X154.here hx rfl (hb hby at_150) rfl ?_
                show Steps p.tables e below (T154.setTop (mkF m 152 #[.val (.int p0_0), .val (.int p0_1), .val (.ref b17), .val (.int (p0_0 &&& (31 : Int32))), .val (.int i152), .val (.ref wTOO_LARGE), .unset] [(.int i152)])) t
                refine XS.sipush X154.here hx rfl (hb hby at_152) ?_
                show Steps p.tables e below (T154.setTop (mkF m 155 #[.val (.int p0_0), .val (.int p0_1), .val (.ref b17), .val (.int (p0_0 &&& (31 : Int32))), .val (.int i152), .val (.ref wTOO_LARGE), .unset] [(.int (405 : Int32)), (.int i152)])) t
                refine XS.icmpYes X154.here hx rfl (pc0 := 155) (pc' := 166) rfl (hb hby at_155) rfl (feq hc161).2 (by decide) (by decide) ?_
                show Steps p.tables e below (T154.setTop (mkF m 166 #[.val (.int p0_0), .val (.int p0_1), .val (.ref b17), .val (.int (p0_0 &&& (31 : Int32))), .val (.int i152), .val (.ref wTOO_LARGE), .unset] [])) t
                refine XS.iload X154.here hx rfl (hb hby at_166) rfl ?_
                show Steps p.tables e below (T154.setTop (mkF m 168 #[.val (.int p0_0), .val (.int p0_1), .val (.ref b17), .val (.int (p0_0 &&& (31 : Int32))), .val (.int i152), .val (.ref wTOO_LARGE), .unset] [(.int i152)])) t
                refine XS.sipush X154.here hx rfl (hb hby at_168) ?_
                show Steps p.tables e below (T154.setTop (mkF m 171 #[.val (.int p0_0), .val (.int p0_1), .val (.ref b17), .val (.int (p0_0 &&& (31 : Int32))), .val (.int i152), .val (.ref wTOO_LARGE), .unset] [(.int (413 : Int32)), (.int i152)])) t
                refine XS.icmpNo X154.here hx rfl (hb hby at_171) rfl (feq hc166).1 ?_
                show Steps p.tables e below (T154.setTop (mkF m 174 #[.val (.int p0_0), .val (.int p0_1), .val (.ref b17), .val (.int (p0_0 &&& (31 : Int32))), .val (.int i152), .val (.ref wTOO_LARGE), .unset] [])) t
                refine XS.iload X154.here hx rfl (hb hby at_174) rfl ?_
                show Steps p.tables e below (T154.setTop (mkF m 176 #[.val (.int p0_0), .val (.int p0_1), .val (.ref b17), .val (.int (p0_0 &&& (31 : Int32))), .val (.int i152), .val (.ref wTOO_LARGE), .unset] [(.int i152)])) t
                refine XS.sipush X154.here hx rfl (hb hby at_176) ?_
                show Steps p.tables e below (T154.setTop (mkF m 179 #[.val (.int p0_0), .val (.int p0_1), .val (.ref b17), .val (.int (p0_0 &&& (31 : Int32))), .val (.int i152), .val (.ref wTOO_LARGE), .unset] [(.int (414 : Int32)), (.int i152)])) t
                refine XS.icmpNo X154.here hx rfl (hb hby at_179) rfl (feq hc171).1 ?_
                show Steps p.tables e below (T154.setTop (mkF m 182 #[.val (.int p0_0), .val (.int p0_1), .val (.ref b17), .val (.int (p0_0 &&& (31 : Int32))), .val (.int i152), .val (.ref wTOO_LARGE), .unset] [])) t
                refine XS.iload X154.here hx rfl (hb hby at_182) rfl ?_
                show Steps p.tables e below (T154.setTop (mkF m 184 #[.val (.int p0_0), .val (.int p0_1), .val (.ref b17), .val (.int (p0_0 &&& (31 : Int32))), .val (.int i152), .val (.ref wTOO_LARGE), .unset] [(.int i152)])) t
                refine XS.sipush X154.here hx rfl (hb hby at_184) ?_
                show Steps p.tables e below (T154.setTop (mkF m 187 #[.val (.int p0_0), .val (.int p0_1), .val (.ref b17), .val (.int (p0_0 &&& (31 : Int32))), .val (.int i152), .val (.ref wTOO_LARGE), .unset] [(.int (431 : Int32)), (.int i152)])) t
                refine XS.icmpNo X154.here hx rfl (hb hby at_187) rfl (teq hc173).2 ?_
                show Steps p.tables e below (T154.setTop (mkF m 190 #[.val (.int p0_0), .val (.int p0_1), .val (.ref b17), .val (.int (p0_0 &&& (31 : Int32))), .val (.int i152), .val (.ref wTOO_LARGE), .unset] [])) t
                exact k
              obtain ⟨T174, X174, e174, st174⟩ := getS2 X154 hx hZ hown (host := "") (Or.inl (hw _ (List.mem_of_getElem? (i := 23) rfl))) Via.refl e154 (EN.2.2.2.2.2.2.2.2.2.1.ext O148.2) (g := (mkF m 190 #[.val (.int p0_0), .val (.int p0_1), .val (.ref b17), .val (.int (p0_0 &&& (31 : Int32))), .val (.int i152), .val (.ref wTOO_LARGE), .unset] [])) rfl (hb hby at_190)
              refine own_by (T' := T174) (g' := (mkF m 193 #[.val (.int p0_0), .val (.int p0_1), .val (.ref b17), .val (.int (p0_0 &&& (31 : Int32))), .val (.int i152), .val (.ref wTOO_LARGE), .unset] [(.ref wTOO_LARGE)])) st174 ?_
              refine own_by (T' := T174) (g' := (mkF m 269 #[.val (.int p0_0), .val (.int p0_1), .val (.ref b17), .val (.int (p0_0 &&& (31 : Int32))), .val (.int i152), .val (.ref wTOO_LARGE), .val (.ref wTOO_LARGE)] [(.int (1 : Int32))])) (fun t k => ?_) ?_
              · show Steps p.tables e below (T174.setTop (mkF m 193 #[.val (.int p0_0), .val (.int p0_1), .val (.ref b17), .val (.int (p0_0 &&& (31 : Int32))), .val (.int i152), .val (.ref wTOO_LARGE), .unset] [(.ref wTOO_LARGE)])) t
                refine XS.astore X174.here hx rfl (hb hby at_193) rfl rfl (l' := #[.val (.int p0_0), .val (.int p0_1), .val (.ref b17), .val (.int (p0_0 &&& (31 : Int32))), .val (.int i152), .val (.ref wTOO_LARGE), .val (.ref wTOO_LARGE)]) rfl ?_
                show Steps p.tables e below (T174.setTop (mkF m 195 #[.val (.int p0_0), .val (.int p0_1), .val (.ref b17), .val (.int (p0_0 &&& (31 : Int32))), .val (.int i152), .val (.ref wTOO_LARGE), .val (.ref wTOO_LARGE)] [])) t
                refine XS.goto X174.here hx rfl (pc0 := 195) (pc' := 219) rfl (hb hby at_195) (by decide) (by decide) ?_
                show Steps p.tables e below (T174.setTop (mkF m 219 #[.val (.int p0_0), .val (.int p0_1), .val (.ref b17), .val (.int (p0_0 &&& (31 : Int32))), .val (.int i152), .val (.ref wTOO_LARGE), .val (.ref wTOO_LARGE)] [])) t
                refine XS.aload X174.here hx rfl (hb hby at_219) rfl rfl ?_
                show Steps p.tables e below (T174.setTop (mkF m 221 #[.val (.int p0_0), .val (.int p0_1), .val (.ref b17), .val (.int (p0_0 &&& (31 : Int32))), .val (.int i152), .val (.ref wTOO_LARGE), .val (.ref wTOO_LARGE)] [(.ref wTOO_LARGE)])) t
                refine XS.aload X174.here hx rfl (hb hby at_221) rfl rfl ?_
                show Steps p.tables e below (T174.setTop (mkF m 223 #[.val (.int p0_0), .val (.int p0_1), .val (.ref b17), .val (.int (p0_0 &&& (31 : Int32))), .val (.int i152), .val (.ref wTOO_LARGE), .val (.ref wTOO_LARGE)] [(.ref wTOO_LARGE), (.ref wTOO_LARGE)])) t
                refine Jvm.RoadKit.acmp (g := (mkF m 223 #[.val (.int p0_0), .val (.int p0_1), .val (.ref b17), .val (.int (p0_0 &&& (31 : Int32))), .val (.int i152), .val (.ref wTOO_LARGE), .val (.ref wTOO_LARGE)] [(.ref wTOO_LARGE), (.ref wTOO_LARGE)])) X174 hx rfl rfl rfl (pc0 := 223) (pc' := 228) (same := true) rfl (hb hby at_223) rfl (decide_eq_true rfl) (by decide) (by decide) ?_
                show Steps p.tables e below (T174.setTop (mkF m 228 #[.val (.int p0_0), .val (.int p0_1), .val (.ref b17), .val (.int (p0_0 &&& (31 : Int32))), .val (.int i152), .val (.ref wTOO_LARGE), .val (.ref wTOO_LARGE)] [])) t
                refine XS.iload X174.here hx rfl (hb hby at_228) rfl ?_
                show Steps p.tables e below (T174.setTop (mkF m 230 #[.val (.int p0_0), .val (.int p0_1), .val (.ref b17), .val (.int (p0_0 &&& (31 : Int32))), .val (.int i152), .val (.ref wTOO_LARGE), .val (.ref wTOO_LARGE)] [(.int i152)])) t
                refine XS.sipush X174.here hx rfl (hb hby at_230) ?_
                show Steps p.tables e below (T174.setTop (mkF m 233 #[.val (.int p0_0), .val (.int p0_1), .val (.ref b17), .val (.int (p0_0 &&& (31 : Int32))), .val (.int i152), .val (.ref wTOO_LARGE), .val (.ref wTOO_LARGE)] [(.int (404 : Int32)), (.int i152)])) t
                refine XS.icmpNo X174.here hx rfl (hb hby at_233) rfl (feq hc156).1 ?_
                show Steps p.tables e below (T174.setTop (mkF m 236 #[.val (.int p0_0), .val (.int p0_1), .val (.ref b17), .val (.int (p0_0 &&& (31 : Int32))), .val (.int i152), .val (.ref wTOO_LARGE), .val (.ref wTOO_LARGE)] [])) t
                refine XS.iload X174.here hx rfl (hb hby at_236) rfl ?_
                show Steps p.tables e below (T174.setTop (mkF m 238 #[.val (.int p0_0), .val (.int p0_1), .val (.ref b17), .val (.int (p0_0 &&& (31 : Int32))), .val (.int i152), .val (.ref wTOO_LARGE), .val (.ref wTOO_LARGE)] [(.int i152)])) t
                refine XS.sipush X174.here hx rfl (hb hby at_238) ?_
                show Steps p.tables e below (T174.setTop (mkF m 241 #[.val (.int p0_0), .val (.int p0_1), .val (.ref b17), .val (.int (p0_0 &&& (31 : Int32))), .val (.int i152), .val (.ref wTOO_LARGE), .val (.ref wTOO_LARGE)] [(.int (405 : Int32)), (.int i152)])) t
                refine XS.icmpNo X174.here hx rfl (hb hby at_241) rfl (feq hc161).1 ?_
                show Steps p.tables e below (T174.setTop (mkF m 244 #[.val (.int p0_0), .val (.int p0_1), .val (.ref b17), .val (.int (p0_0 &&& (31 : Int32))), .val (.int i152), .val (.ref wTOO_LARGE), .val (.ref wTOO_LARGE)] [])) t
                refine XS.iload X174.here hx rfl (hb hby at_244) rfl ?_
                show Steps p.tables e below (T174.setTop (mkF m 246 #[.val (.int p0_0), .val (.int p0_1), .val (.ref b17), .val (.int (p0_0 &&& (31 : Int32))), .val (.int i152), .val (.ref wTOO_LARGE), .val (.ref wTOO_LARGE)] [(.int i152)])) t
                refine XS.sipush X174.here hx rfl (hb hby at_246) ?_
                show Steps p.tables e below (T174.setTop (mkF m 249 #[.val (.int p0_0), .val (.int p0_1), .val (.ref b17), .val (.int (p0_0 &&& (31 : Int32))), .val (.int i152), .val (.ref wTOO_LARGE), .val (.ref wTOO_LARGE)] [(.int (413 : Int32)), (.int i152)])) t
                refine XS.icmpYes X174.here hx rfl (pc0 := 249) (pc' := 268) rfl (hb hby at_249) rfl (feq hc166).2 (by decide) (by decide) ?_
                show Steps p.tables e below (T174.setTop (mkF m 268 #[.val (.int p0_0), .val (.int p0_1), .val (.ref b17), .val (.int (p0_0 &&& (31 : Int32))), .val (.int i152), .val (.ref wTOO_LARGE), .val (.ref wTOO_LARGE)] [])) t
                refine XS.iconst X174.here hx rfl (hb hby at_268) ?_
                show Steps p.tables e below (T174.setTop (mkF m 269 #[.val (.int p0_0), .val (.int p0_1), .val (.ref b17), .val (.int (p0_0 &&& (31 : Int32))), .val (.int i152), .val (.ref wTOO_LARGE), .val (.ref wTOO_LARGE)] [(.int (1 : Int32))])) t
                exact k
              rw [show own_F0_125_1 p0_0 p0_1 i152 = (1 : Int32) from ((if_neg hc156).trans ((if_neg hc161).trans ((if_neg hc166).trans ((if_neg hc171).trans ((if_pos hc173).trans rfl)))))]
              exact own_retN X174 hx (t := .boolean) Bd.returns (by simp) (hb hby at_269) hlk (by decide) (by decide) ⟨rfl, N155⟩
            · skip
              by_cases hc175 : i152 < (500 : Int32)
              · skip
                obtain rfl : v154 = some (.ref wBAD_REQUEST) := hv154.trans (congrArg some ((if_neg hc156).trans ((if_neg hc161).trans ((if_neg hc166).trans ((if_neg hc171).trans ((if_neg hc173).trans ((if_pos hc175).trans rfl)))))))
                refine own_by (T' := T154) (g' := (mkF m 132 #[.val (.int p0_0), .val (.int p0_1), .val (.ref b17), .val (.int (p0_0 &&& (31 : Int32))), .val (.int i152), .unset, .unset] [(.ref wBAD_REQUEST)])) st154 ?_
                refine own_by (T' := T154) (g' := (mkF m 214 #[.val (.int p0_0), .val (.int p0_1), .val (.ref b17), .val (.int (p0_0 &&& (31 : Int32))), .val (.int i152), .val (.ref wBAD_REQUEST), .unset] [])) (fun t k => ?_) ?_
                · show Steps p.tables e below (T154.setTop (mkF m 132 #[.val (.int p0_0), .val (.int p0_1), .val (.ref b17), .val (.int (p0_0 &&& (31 : Int32))), .val (.int i152), .unset, .unset] [(.ref wBAD_REQUEST)])) t
                  refine XS.astore X154.here hx rfl (hb hby at_132) rfl rfl (l' := #[.val (.int p0_0), .val (.int p0_1), .val (.ref b17), .val (.int (p0_0 &&& (31 : Int32))), .val (.int i152), .val (.ref wBAD_REQUEST), .unset]) rfl ?_
                  show Steps p.tables e below (T154.setTop (mkF m 134 #[.val (.int p0_0), .val (.int p0_1), .val (.ref b17), .val (.int (p0_0 &&& (31 : Int32))), .val (.int i152), .val (.ref wBAD_REQUEST), .unset] [])) t
                  refine XS.iload X154.here hx rfl (hb hby at_134) rfl ?_
                  show Steps p.tables e below (T154.setTop (mkF m 136 #[.val (.int p0_0), .val (.int p0_1), .val (.ref b17), .val (.int (p0_0 &&& (31 : Int32))), .val (.int i152), .val (.ref wBAD_REQUEST), .unset] [(.int i152)])) t
                  refine XS.sipush X154.here hx rfl (hb hby at_136) ?_
                  show Steps p.tables e below (T154.setTop (mkF m 139 #[.val (.int p0_0), .val (.int p0_1), .val (.ref b17), .val (.int (p0_0 &&& (31 : Int32))), .val (.int i152), .val (.ref wBAD_REQUEST), .unset] [(.int (404 : Int32)), (.int i152)])) t
                  refine XS.icmpYes X154.here hx rfl (pc0 := 139) (pc' := 150) rfl (hb hby at_139) rfl (feq hc156).2 (by decide) (by decide) ?_
                  show Steps p.tables e below (T154.setTop (mkF m 150 #[.val (.int p0_0), .val (.int p0_1), .val (.ref b17), .val (.int (p0_0 &&& (31 : Int32))), .val (.int i152), .val (.ref wBAD_REQUEST), .unset] [])) t
                  refine XS.iload X154.here hx rfl (hb hby at_150) rfl ?_
                  show Steps p.tables e below (T154.setTop (mkF m 152 #[.val (.int p0_0), .val (.int p0_1), .val (.ref b17), .val (.int (p0_0 &&& (31 : Int32))), .val (.int i152), .val (.ref wBAD_REQUEST), .unset] [(.int i152)])) t
                  refine XS.sipush X154.here hx rfl (hb hby at_152) ?_
                  show Steps p.tables e below (T154.setTop (mkF m 155 #[.val (.int p0_0), .val (.int p0_1), .val (.ref b17), .val (.int (p0_0 &&& (31 : Int32))), .val (.int i152), .val (.ref wBAD_REQUEST), .unset] [(.int (405 : Int32)), (.int i152)])) t
                  refine XS.icmpYes X154.here hx rfl (pc0 := 155) (pc' := 166) rfl (hb hby at_155) rfl (feq hc161).2 (by decide) (by decide) ?_
                  show Steps p.tables e below (T154.setTop (mkF m 166 #[.val (.int p0_0), .val (.int p0_1), .val (.ref b17), .val (.int (p0_0 &&& (31 : Int32))), .val (.int i152), .val (.ref wBAD_REQUEST), .unset] [])) t
                  refine XS.iload X154.here hx rfl (hb hby at_166) rfl ?_
                  show Steps p.tables e below (T154.setTop (mkF m 168 #[.val (.int p0_0), .val (.int p0_1), .val (.ref b17), .val (.int (p0_0 &&& (31 : Int32))), .val (.int i152), .val (.ref wBAD_REQUEST), .unset] [(.int i152)])) t
                  refine XS.sipush X154.here hx rfl (hb hby at_168) ?_
                  show Steps p.tables e below (T154.setTop (mkF m 171 #[.val (.int p0_0), .val (.int p0_1), .val (.ref b17), .val (.int (p0_0 &&& (31 : Int32))), .val (.int i152), .val (.ref wBAD_REQUEST), .unset] [(.int (413 : Int32)), (.int i152)])) t
                  refine XS.icmpNo X154.here hx rfl (hb hby at_171) rfl (feq hc166).1 ?_
                  show Steps p.tables e below (T154.setTop (mkF m 174 #[.val (.int p0_0), .val (.int p0_1), .val (.ref b17), .val (.int (p0_0 &&& (31 : Int32))), .val (.int i152), .val (.ref wBAD_REQUEST), .unset] [])) t
                  refine XS.iload X154.here hx rfl (hb hby at_174) rfl ?_
                  show Steps p.tables e below (T154.setTop (mkF m 176 #[.val (.int p0_0), .val (.int p0_1), .val (.ref b17), .val (.int (p0_0 &&& (31 : Int32))), .val (.int i152), .val (.ref wBAD_REQUEST), .unset] [(.int i152)])) t
                  refine XS.sipush X154.here hx rfl (hb hby at_176) ?_
                  show Steps p.tables e below (T154.setTop (mkF m 179 #[.val (.int p0_0), .val (.int p0_1), .val (.ref b17), .val (.int (p0_0 &&& (31 : Int32))), .val (.int i152), .val (.ref wBAD_REQUEST), .unset] [(.int (414 : Int32)), (.int i152)])) t
                  refine XS.icmpNo X154.here hx rfl (hb hby at_179) rfl (feq hc171).1 ?_
                  show Steps p.tables e below (T154.setTop (mkF m 182 #[.val (.int p0_0), .val (.int p0_1), .val (.ref b17), .val (.int (p0_0 &&& (31 : Int32))), .val (.int i152), .val (.ref wBAD_REQUEST), .unset] [])) t
                  refine XS.iload X154.here hx rfl (hb hby at_182) rfl ?_
                  show Steps p.tables e below (T154.setTop (mkF m 184 #[.val (.int p0_0), .val (.int p0_1), .val (.ref b17), .val (.int (p0_0 &&& (31 : Int32))), .val (.int i152), .val (.ref wBAD_REQUEST), .unset] [(.int i152)])) t
                  refine XS.sipush X154.here hx rfl (hb hby at_184) ?_
                  show Steps p.tables e below (T154.setTop (mkF m 187 #[.val (.int p0_0), .val (.int p0_1), .val (.ref b17), .val (.int (p0_0 &&& (31 : Int32))), .val (.int i152), .val (.ref wBAD_REQUEST), .unset] [(.int (431 : Int32)), (.int i152)])) t
                  refine XS.icmpYes X154.here hx rfl (pc0 := 187) (pc' := 198) rfl (hb hby at_187) rfl (feq hc173).2 (by decide) (by decide) ?_
                  show Steps p.tables e below (T154.setTop (mkF m 198 #[.val (.int p0_0), .val (.int p0_1), .val (.ref b17), .val (.int (p0_0 &&& (31 : Int32))), .val (.int i152), .val (.ref wBAD_REQUEST), .unset] [])) t
                  refine XS.iload X154.here hx rfl (hb hby at_198) rfl ?_
                  show Steps p.tables e below (T154.setTop (mkF m 200 #[.val (.int p0_0), .val (.int p0_1), .val (.ref b17), .val (.int (p0_0 &&& (31 : Int32))), .val (.int i152), .val (.ref wBAD_REQUEST), .unset] [(.int i152)])) t
                  refine XS.sipush X154.here hx rfl (hb hby at_200) ?_
                  show Steps p.tables e below (T154.setTop (mkF m 203 #[.val (.int p0_0), .val (.int p0_1), .val (.ref b17), .val (.int (p0_0 &&& (31 : Int32))), .val (.int i152), .val (.ref wBAD_REQUEST), .unset] [(.int (500 : Int32)), (.int i152)])) t
                  refine XS.icmpYes X154.here hx rfl (pc0 := 203) (pc' := 214) rfl (hb hby at_203) rfl (tlt hc175).1 (by decide) (by decide) ?_
                  show Steps p.tables e below (T154.setTop (mkF m 214 #[.val (.int p0_0), .val (.int p0_1), .val (.ref b17), .val (.int (p0_0 &&& (31 : Int32))), .val (.int i152), .val (.ref wBAD_REQUEST), .unset] [])) t
                  exact k
                obtain ⟨T176, X176, e176, st176⟩ := getS2 X154 hx hZ hown (host := "") (Or.inl (hw _ (List.mem_of_getElem? (i := 17) rfl))) Via.refl e154 (EN.2.2.2.1.ext O148.2) (g := (mkF m 214 #[.val (.int p0_0), .val (.int p0_1), .val (.ref b17), .val (.int (p0_0 &&& (31 : Int32))), .val (.int i152), .val (.ref wBAD_REQUEST), .unset] [])) rfl (hb hby at_214)
                refine own_by (T' := T176) (g' := (mkF m 217 #[.val (.int p0_0), .val (.int p0_1), .val (.ref b17), .val (.int (p0_0 &&& (31 : Int32))), .val (.int i152), .val (.ref wBAD_REQUEST), .unset] [(.ref wBAD_REQUEST)])) st176 ?_
                refine own_by (T' := T176) (g' := (mkF m 269 #[.val (.int p0_0), .val (.int p0_1), .val (.ref b17), .val (.int (p0_0 &&& (31 : Int32))), .val (.int i152), .val (.ref wBAD_REQUEST), .val (.ref wBAD_REQUEST)] [(.int (1 : Int32))])) (fun t k => ?_) ?_
                · show Steps p.tables e below (T176.setTop (mkF m 217 #[.val (.int p0_0), .val (.int p0_1), .val (.ref b17), .val (.int (p0_0 &&& (31 : Int32))), .val (.int i152), .val (.ref wBAD_REQUEST), .unset] [(.ref wBAD_REQUEST)])) t
                  refine XS.astore X176.here hx rfl (hb hby at_217) rfl rfl (l' := #[.val (.int p0_0), .val (.int p0_1), .val (.ref b17), .val (.int (p0_0 &&& (31 : Int32))), .val (.int i152), .val (.ref wBAD_REQUEST), .val (.ref wBAD_REQUEST)]) rfl ?_
                  show Steps p.tables e below (T176.setTop (mkF m 219 #[.val (.int p0_0), .val (.int p0_1), .val (.ref b17), .val (.int (p0_0 &&& (31 : Int32))), .val (.int i152), .val (.ref wBAD_REQUEST), .val (.ref wBAD_REQUEST)] [])) t
                  refine XS.aload X176.here hx rfl (hb hby at_219) rfl rfl ?_
                  show Steps p.tables e below (T176.setTop (mkF m 221 #[.val (.int p0_0), .val (.int p0_1), .val (.ref b17), .val (.int (p0_0 &&& (31 : Int32))), .val (.int i152), .val (.ref wBAD_REQUEST), .val (.ref wBAD_REQUEST)] [(.ref wBAD_REQUEST)])) t
                  refine XS.aload X176.here hx rfl (hb hby at_221) rfl rfl ?_
                  show Steps p.tables e below (T176.setTop (mkF m 223 #[.val (.int p0_0), .val (.int p0_1), .val (.ref b17), .val (.int (p0_0 &&& (31 : Int32))), .val (.int i152), .val (.ref wBAD_REQUEST), .val (.ref wBAD_REQUEST)] [(.ref wBAD_REQUEST), (.ref wBAD_REQUEST)])) t
                  refine Jvm.RoadKit.acmp (g := (mkF m 223 #[.val (.int p0_0), .val (.int p0_1), .val (.ref b17), .val (.int (p0_0 &&& (31 : Int32))), .val (.int i152), .val (.ref wBAD_REQUEST), .val (.ref wBAD_REQUEST)] [(.ref wBAD_REQUEST), (.ref wBAD_REQUEST)])) X176 hx rfl rfl rfl (pc0 := 223) (pc' := 228) (same := true) rfl (hb hby at_223) rfl (decide_eq_true rfl) (by decide) (by decide) ?_
                  show Steps p.tables e below (T176.setTop (mkF m 228 #[.val (.int p0_0), .val (.int p0_1), .val (.ref b17), .val (.int (p0_0 &&& (31 : Int32))), .val (.int i152), .val (.ref wBAD_REQUEST), .val (.ref wBAD_REQUEST)] [])) t
                  refine XS.iload X176.here hx rfl (hb hby at_228) rfl ?_
                  show Steps p.tables e below (T176.setTop (mkF m 230 #[.val (.int p0_0), .val (.int p0_1), .val (.ref b17), .val (.int (p0_0 &&& (31 : Int32))), .val (.int i152), .val (.ref wBAD_REQUEST), .val (.ref wBAD_REQUEST)] [(.int i152)])) t
                  refine XS.sipush X176.here hx rfl (hb hby at_230) ?_
                  show Steps p.tables e below (T176.setTop (mkF m 233 #[.val (.int p0_0), .val (.int p0_1), .val (.ref b17), .val (.int (p0_0 &&& (31 : Int32))), .val (.int i152), .val (.ref wBAD_REQUEST), .val (.ref wBAD_REQUEST)] [(.int (404 : Int32)), (.int i152)])) t
                  refine XS.icmpNo X176.here hx rfl (hb hby at_233) rfl (feq hc156).1 ?_
                  show Steps p.tables e below (T176.setTop (mkF m 236 #[.val (.int p0_0), .val (.int p0_1), .val (.ref b17), .val (.int (p0_0 &&& (31 : Int32))), .val (.int i152), .val (.ref wBAD_REQUEST), .val (.ref wBAD_REQUEST)] [])) t
                  refine XS.iload X176.here hx rfl (hb hby at_236) rfl ?_
                  show Steps p.tables e below (T176.setTop (mkF m 238 #[.val (.int p0_0), .val (.int p0_1), .val (.ref b17), .val (.int (p0_0 &&& (31 : Int32))), .val (.int i152), .val (.ref wBAD_REQUEST), .val (.ref wBAD_REQUEST)] [(.int i152)])) t
                  refine XS.sipush X176.here hx rfl (hb hby at_238) ?_
                  show Steps p.tables e below (T176.setTop (mkF m 241 #[.val (.int p0_0), .val (.int p0_1), .val (.ref b17), .val (.int (p0_0 &&& (31 : Int32))), .val (.int i152), .val (.ref wBAD_REQUEST), .val (.ref wBAD_REQUEST)] [(.int (405 : Int32)), (.int i152)])) t
                  refine XS.icmpNo X176.here hx rfl (hb hby at_241) rfl (feq hc161).1 ?_
                  show Steps p.tables e below (T176.setTop (mkF m 244 #[.val (.int p0_0), .val (.int p0_1), .val (.ref b17), .val (.int (p0_0 &&& (31 : Int32))), .val (.int i152), .val (.ref wBAD_REQUEST), .val (.ref wBAD_REQUEST)] [])) t
                  refine XS.iload X176.here hx rfl (hb hby at_244) rfl ?_
                  show Steps p.tables e below (T176.setTop (mkF m 246 #[.val (.int p0_0), .val (.int p0_1), .val (.ref b17), .val (.int (p0_0 &&& (31 : Int32))), .val (.int i152), .val (.ref wBAD_REQUEST), .val (.ref wBAD_REQUEST)] [(.int i152)])) t
                  refine XS.sipush X176.here hx rfl (hb hby at_246) ?_
                  show Steps p.tables e below (T176.setTop (mkF m 249 #[.val (.int p0_0), .val (.int p0_1), .val (.ref b17), .val (.int (p0_0 &&& (31 : Int32))), .val (.int i152), .val (.ref wBAD_REQUEST), .val (.ref wBAD_REQUEST)] [(.int (413 : Int32)), (.int i152)])) t
                  refine XS.icmpYes X176.here hx rfl (pc0 := 249) (pc' := 268) rfl (hb hby at_249) rfl (feq hc166).2 (by decide) (by decide) ?_
                  show Steps p.tables e below (T176.setTop (mkF m 268 #[.val (.int p0_0), .val (.int p0_1), .val (.ref b17), .val (.int (p0_0 &&& (31 : Int32))), .val (.int i152), .val (.ref wBAD_REQUEST), .val (.ref wBAD_REQUEST)] [])) t
                  refine XS.iconst X176.here hx rfl (hb hby at_268) ?_
                  show Steps p.tables e below (T176.setTop (mkF m 269 #[.val (.int p0_0), .val (.int p0_1), .val (.ref b17), .val (.int (p0_0 &&& (31 : Int32))), .val (.int i152), .val (.ref wBAD_REQUEST), .val (.ref wBAD_REQUEST)] [(.int (1 : Int32))])) t
                  exact k
                rw [show own_F0_125_1 p0_0 p0_1 i152 = (1 : Int32) from ((if_neg hc156).trans ((if_neg hc161).trans ((if_neg hc166).trans ((if_neg hc171).trans ((if_neg hc173).trans ((if_pos hc175).trans rfl))))))]
                exact own_retN X176 hx (t := .boolean) Bd.returns (by simp) (hb hby at_269) hlk (by decide) (by decide) ⟨rfl, N155⟩
              · skip
                obtain rfl : v154 = some (.ref wINTERNAL_ERROR) := hv154.trans (congrArg some ((if_neg hc156).trans ((if_neg hc161).trans ((if_neg hc166).trans ((if_neg hc171).trans ((if_neg hc173).trans ((if_neg hc175).trans rfl)))))))
                refine own_by (T' := T154) (g' := (mkF m 132 #[.val (.int p0_0), .val (.int p0_1), .val (.ref b17), .val (.int (p0_0 &&& (31 : Int32))), .val (.int i152), .unset, .unset] [(.ref wINTERNAL_ERROR)])) st154 ?_
                refine own_by (T' := T154) (g' := (mkF m 206 #[.val (.int p0_0), .val (.int p0_1), .val (.ref b17), .val (.int (p0_0 &&& (31 : Int32))), .val (.int i152), .val (.ref wINTERNAL_ERROR), .unset] [])) (fun t k => ?_) ?_
                · show Steps p.tables e below (T154.setTop (mkF m 132 #[.val (.int p0_0), .val (.int p0_1), .val (.ref b17), .val (.int (p0_0 &&& (31 : Int32))), .val (.int i152), .unset, .unset] [(.ref wINTERNAL_ERROR)])) t
                  refine XS.astore X154.here hx rfl (hb hby at_132) rfl rfl (l' := #[.val (.int p0_0), .val (.int p0_1), .val (.ref b17), .val (.int (p0_0 &&& (31 : Int32))), .val (.int i152), .val (.ref wINTERNAL_ERROR), .unset]) rfl ?_
                  show Steps p.tables e below (T154.setTop (mkF m 134 #[.val (.int p0_0), .val (.int p0_1), .val (.ref b17), .val (.int (p0_0 &&& (31 : Int32))), .val (.int i152), .val (.ref wINTERNAL_ERROR), .unset] [])) t
                  refine XS.iload X154.here hx rfl (hb hby at_134) rfl ?_
                  show Steps p.tables e below (T154.setTop (mkF m 136 #[.val (.int p0_0), .val (.int p0_1), .val (.ref b17), .val (.int (p0_0 &&& (31 : Int32))), .val (.int i152), .val (.ref wINTERNAL_ERROR), .unset] [(.int i152)])) t
                  refine XS.sipush X154.here hx rfl (hb hby at_136) ?_
                  show Steps p.tables e below (T154.setTop (mkF m 139 #[.val (.int p0_0), .val (.int p0_1), .val (.ref b17), .val (.int (p0_0 &&& (31 : Int32))), .val (.int i152), .val (.ref wINTERNAL_ERROR), .unset] [(.int (404 : Int32)), (.int i152)])) t
                  refine XS.icmpYes X154.here hx rfl (pc0 := 139) (pc' := 150) rfl (hb hby at_139) rfl (feq hc156).2 (by decide) (by decide) ?_
                  show Steps p.tables e below (T154.setTop (mkF m 150 #[.val (.int p0_0), .val (.int p0_1), .val (.ref b17), .val (.int (p0_0 &&& (31 : Int32))), .val (.int i152), .val (.ref wINTERNAL_ERROR), .unset] [])) t
                  refine XS.iload X154.here hx rfl (hb hby at_150) rfl ?_
                  show Steps p.tables e below (T154.setTop (mkF m 152 #[.val (.int p0_0), .val (.int p0_1), .val (.ref b17), .val (.int (p0_0 &&& (31 : Int32))), .val (.int i152), .val (.ref wINTERNAL_ERROR), .unset] [(.int i152)])) t
                  refine XS.sipush X154.here hx rfl (hb hby at_152) ?_
                  show Steps p.tables e below (T154.setTop (mkF m 155 #[.val (.int p0_0), .val (.int p0_1), .val (.ref b17), .val (.int (p0_0 &&& (31 : Int32))), .val (.int i152), .val (.ref wINTERNAL_ERROR), .unset] [(.int (405 : Int32)), (.int i152)])) t
                  refine XS.icmpYes X154.here hx rfl (pc0 := 155) (pc' := 166) rfl (hb hby at_155) rfl (feq hc161).2 (by decide) (by decide) ?_
                  show Steps p.tables e below (T154.setTop (mkF m 166 #[.val (.int p0_0), .val (.int p0_1), .val (.ref b17), .val (.int (p0_0 &&& (31 : Int32))), .val (.int i152), .val (.ref wINTERNAL_ERROR), .unset] [])) t
                  refine XS.iload X154.here hx rfl (hb hby at_166) rfl ?_
                  show Steps p.tables e below (T154.setTop (mkF m 168 #[.val (.int p0_0), .val (.int p0_1), .val (.ref b17), .val (.int (p0_0 &&& (31 : Int32))), .val (.int i152), .val (.ref wINTERNAL_ERROR), .unset] [(.int i152)])) t
                  refine XS.sipush X154.here hx rfl (hb hby at_168) ?_
                  show Steps p.tables e below (T154.setTop (mkF m 171 #[.val (.int p0_0), .val (.int p0_1), .val (.ref b17), .val (.int (p0_0 &&& (31 : Int32))), .val (.int i152), .val (.ref wINTERNAL_ERROR), .unset] [(.int (413 : Int32)), (.int i152)])) t
                  refine XS.icmpNo X154.here hx rfl (hb hby at_171) rfl (feq hc166).1 ?_
                  show Steps p.tables e below (T154.setTop (mkF m 174 #[.val (.int p0_0), .val (.int p0_1), .val (.ref b17), .val (.int (p0_0 &&& (31 : Int32))), .val (.int i152), .val (.ref wINTERNAL_ERROR), .unset] [])) t
                  refine XS.iload X154.here hx rfl (hb hby at_174) rfl ?_
                  show Steps p.tables e below (T154.setTop (mkF m 176 #[.val (.int p0_0), .val (.int p0_1), .val (.ref b17), .val (.int (p0_0 &&& (31 : Int32))), .val (.int i152), .val (.ref wINTERNAL_ERROR), .unset] [(.int i152)])) t
                  refine XS.sipush X154.here hx rfl (hb hby at_176) ?_
                  show Steps p.tables e below (T154.setTop (mkF m 179 #[.val (.int p0_0), .val (.int p0_1), .val (.ref b17), .val (.int (p0_0 &&& (31 : Int32))), .val (.int i152), .val (.ref wINTERNAL_ERROR), .unset] [(.int (414 : Int32)), (.int i152)])) t
                  refine XS.icmpNo X154.here hx rfl (hb hby at_179) rfl (feq hc171).1 ?_
                  show Steps p.tables e below (T154.setTop (mkF m 182 #[.val (.int p0_0), .val (.int p0_1), .val (.ref b17), .val (.int (p0_0 &&& (31 : Int32))), .val (.int i152), .val (.ref wINTERNAL_ERROR), .unset] [])) t
                  refine XS.iload X154.here hx rfl (hb hby at_182) rfl ?_
                  show Steps p.tables e below (T154.setTop (mkF m 184 #[.val (.int p0_0), .val (.int p0_1), .val (.ref b17), .val (.int (p0_0 &&& (31 : Int32))), .val (.int i152), .val (.ref wINTERNAL_ERROR), .unset] [(.int i152)])) t
                  refine XS.sipush X154.here hx rfl (hb hby at_184) ?_
                  show Steps p.tables e below (T154.setTop (mkF m 187 #[.val (.int p0_0), .val (.int p0_1), .val (.ref b17), .val (.int (p0_0 &&& (31 : Int32))), .val (.int i152), .val (.ref wINTERNAL_ERROR), .unset] [(.int (431 : Int32)), (.int i152)])) t
                  refine XS.icmpYes X154.here hx rfl (pc0 := 187) (pc' := 198) rfl (hb hby at_187) rfl (feq hc173).2 (by decide) (by decide) ?_
                  show Steps p.tables e below (T154.setTop (mkF m 198 #[.val (.int p0_0), .val (.int p0_1), .val (.ref b17), .val (.int (p0_0 &&& (31 : Int32))), .val (.int i152), .val (.ref wINTERNAL_ERROR), .unset] [])) t
                  refine XS.iload X154.here hx rfl (hb hby at_198) rfl ?_
                  show Steps p.tables e below (T154.setTop (mkF m 200 #[.val (.int p0_0), .val (.int p0_1), .val (.ref b17), .val (.int (p0_0 &&& (31 : Int32))), .val (.int i152), .val (.ref wINTERNAL_ERROR), .unset] [(.int i152)])) t
                  refine XS.sipush X154.here hx rfl (hb hby at_200) ?_
                  show Steps p.tables e below (T154.setTop (mkF m 203 #[.val (.int p0_0), .val (.int p0_1), .val (.ref b17), .val (.int (p0_0 &&& (31 : Int32))), .val (.int i152), .val (.ref wINTERNAL_ERROR), .unset] [(.int (500 : Int32)), (.int i152)])) t
                  refine XS.icmpNo X154.here hx rfl (hb hby at_203) rfl (flt hc175).1 ?_
                  show Steps p.tables e below (T154.setTop (mkF m 206 #[.val (.int p0_0), .val (.int p0_1), .val (.ref b17), .val (.int (p0_0 &&& (31 : Int32))), .val (.int i152), .val (.ref wINTERNAL_ERROR), .unset] [])) t
                  exact k
                obtain ⟨T177, X177, e177, st177⟩ := getS2 X154 hx hZ hown (host := "") (Or.inl (hw _ (List.mem_of_getElem? (i := 20) rfl))) Via.refl e154 (EN.2.2.2.2.2.2.1.ext O148.2) (g := (mkF m 206 #[.val (.int p0_0), .val (.int p0_1), .val (.ref b17), .val (.int (p0_0 &&& (31 : Int32))), .val (.int i152), .val (.ref wINTERNAL_ERROR), .unset] [])) rfl (hb hby at_206)
                refine own_by (T' := T177) (g' := (mkF m 209 #[.val (.int p0_0), .val (.int p0_1), .val (.ref b17), .val (.int (p0_0 &&& (31 : Int32))), .val (.int i152), .val (.ref wINTERNAL_ERROR), .unset] [(.ref wINTERNAL_ERROR)])) st177 ?_
                refine own_by (T' := T177) (g' := (mkF m 269 #[.val (.int p0_0), .val (.int p0_1), .val (.ref b17), .val (.int (p0_0 &&& (31 : Int32))), .val (.int i152), .val (.ref wINTERNAL_ERROR), .val (.ref wINTERNAL_ERROR)] [(.int (1 : Int32))])) (fun t k => ?_) ?_
                · show Steps p.tables e below (T177.setTop (mkF m 209 #[.val (.int p0_0), .val (.int p0_1), .val (.ref b17), .val (.int (p0_0 &&& (31 : Int32))), .val (.int i152), .val (.ref wINTERNAL_ERROR), .unset] [(.ref wINTERNAL_ERROR)])) t
                  refine XS.astore X177.here hx rfl (hb hby at_209) rfl rfl (l' := #[.val (.int p0_0), .val (.int p0_1), .val (.ref b17), .val (.int (p0_0 &&& (31 : Int32))), .val (.int i152), .val (.ref wINTERNAL_ERROR), .val (.ref wINTERNAL_ERROR)]) rfl ?_
                  show Steps p.tables e below (T177.setTop (mkF m 211 #[.val (.int p0_0), .val (.int p0_1), .val (.ref b17), .val (.int (p0_0 &&& (31 : Int32))), .val (.int i152), .val (.ref wINTERNAL_ERROR), .val (.ref wINTERNAL_ERROR)] [])) t
                  refine XS.goto X177.here hx rfl (pc0 := 211) (pc' := 219) rfl (hb hby at_211) (by decide) (by decide) ?_
                  show Steps p.tables e below (T177.setTop (mkF m 219 #[.val (.int p0_0), .val (.int p0_1), .val (.ref b17), .val (.int (p0_0 &&& (31 : Int32))), .val (.int i152), .val (.ref wINTERNAL_ERROR), .val (.ref wINTERNAL_ERROR)] [])) t
                  refine XS.aload X177.here hx rfl (hb hby at_219) rfl rfl ?_
                  show Steps p.tables e below (T177.setTop (mkF m 221 #[.val (.int p0_0), .val (.int p0_1), .val (.ref b17), .val (.int (p0_0 &&& (31 : Int32))), .val (.int i152), .val (.ref wINTERNAL_ERROR), .val (.ref wINTERNAL_ERROR)] [(.ref wINTERNAL_ERROR)])) t
                  refine XS.aload X177.here hx rfl (hb hby at_221) rfl rfl ?_
                  show Steps p.tables e below (T177.setTop (mkF m 223 #[.val (.int p0_0), .val (.int p0_1), .val (.ref b17), .val (.int (p0_0 &&& (31 : Int32))), .val (.int i152), .val (.ref wINTERNAL_ERROR), .val (.ref wINTERNAL_ERROR)] [(.ref wINTERNAL_ERROR), (.ref wINTERNAL_ERROR)])) t
                  refine Jvm.RoadKit.acmp (g := (mkF m 223 #[.val (.int p0_0), .val (.int p0_1), .val (.ref b17), .val (.int (p0_0 &&& (31 : Int32))), .val (.int i152), .val (.ref wINTERNAL_ERROR), .val (.ref wINTERNAL_ERROR)] [(.ref wINTERNAL_ERROR), (.ref wINTERNAL_ERROR)])) X177 hx rfl rfl rfl (pc0 := 223) (pc' := 228) (same := true) rfl (hb hby at_223) rfl (decide_eq_true rfl) (by decide) (by decide) ?_
                  show Steps p.tables e below (T177.setTop (mkF m 228 #[.val (.int p0_0), .val (.int p0_1), .val (.ref b17), .val (.int (p0_0 &&& (31 : Int32))), .val (.int i152), .val (.ref wINTERNAL_ERROR), .val (.ref wINTERNAL_ERROR)] [])) t
                  refine XS.iload X177.here hx rfl (hb hby at_228) rfl ?_
                  show Steps p.tables e below (T177.setTop (mkF m 230 #[.val (.int p0_0), .val (.int p0_1), .val (.ref b17), .val (.int (p0_0 &&& (31 : Int32))), .val (.int i152), .val (.ref wINTERNAL_ERROR), .val (.ref wINTERNAL_ERROR)] [(.int i152)])) t
                  refine XS.sipush X177.here hx rfl (hb hby at_230) ?_
                  show Steps p.tables e below (T177.setTop (mkF m 233 #[.val (.int p0_0), .val (.int p0_1), .val (.ref b17), .val (.int (p0_0 &&& (31 : Int32))), .val (.int i152), .val (.ref wINTERNAL_ERROR), .val (.ref wINTERNAL_ERROR)] [(.int (404 : Int32)), (.int i152)])) t
                  refine XS.icmpNo X177.here hx rfl (hb hby at_233) rfl (feq hc156).1 ?_
                  show Steps p.tables e below (T177.setTop (mkF m 236 #[.val (.int p0_0), .val (.int p0_1), .val (.ref b17), .val (.int (p0_0 &&& (31 : Int32))), .val (.int i152), .val (.ref wINTERNAL_ERROR), .val (.ref wINTERNAL_ERROR)] [])) t
                  refine XS.iload X177.here hx rfl (hb hby at_236) rfl ?_
                  show Steps p.tables e below (T177.setTop (mkF m 238 #[.val (.int p0_0), .val (.int p0_1), .val (.ref b17), .val (.int (p0_0 &&& (31 : Int32))), .val (.int i152), .val (.ref wINTERNAL_ERROR), .val (.ref wINTERNAL_ERROR)] [(.int i152)])) t
                  refine XS.sipush X177.here hx rfl (hb hby at_238) ?_
                  show Steps p.tables e below (T177.setTop (mkF m 241 #[.val (.int p0_0), .val (.int p0_1), .val (.ref b17), .val (.int (p0_0 &&& (31 : Int32))), .val (.int i152), .val (.ref wINTERNAL_ERROR), .val (.ref wINTERNAL_ERROR)] [(.int (405 : Int32)), (.int i152)])) t
                  refine XS.icmpNo X177.here hx rfl (hb hby at_241) rfl (feq hc161).1 ?_
                  show Steps p.tables e below (T177.setTop (mkF m 244 #[.val (.int p0_0), .val (.int p0_1), .val (.ref b17), .val (.int (p0_0 &&& (31 : Int32))), .val (.int i152), .val (.ref wINTERNAL_ERROR), .val (.ref wINTERNAL_ERROR)] [])) t
                  refine XS.iload X177.here hx rfl (hb hby at_244) rfl ?_
                  show Steps p.tables e below (T177.setTop (mkF m 246 #[.val (.int p0_0), .val (.int p0_1), .val (.ref b17), .val (.int (p0_0 &&& (31 : Int32))), .val (.int i152), .val (.ref wINTERNAL_ERROR), .val (.ref wINTERNAL_ERROR)] [(.int i152)])) t
                  refine XS.sipush X177.here hx rfl (hb hby at_246) ?_
                  show Steps p.tables e below (T177.setTop (mkF m 249 #[.val (.int p0_0), .val (.int p0_1), .val (.ref b17), .val (.int (p0_0 &&& (31 : Int32))), .val (.int i152), .val (.ref wINTERNAL_ERROR), .val (.ref wINTERNAL_ERROR)] [(.int (413 : Int32)), (.int i152)])) t
                  refine XS.icmpYes X177.here hx rfl (pc0 := 249) (pc' := 268) rfl (hb hby at_249) rfl (feq hc166).2 (by decide) (by decide) ?_
                  show Steps p.tables e below (T177.setTop (mkF m 268 #[.val (.int p0_0), .val (.int p0_1), .val (.ref b17), .val (.int (p0_0 &&& (31 : Int32))), .val (.int i152), .val (.ref wINTERNAL_ERROR), .val (.ref wINTERNAL_ERROR)] [])) t
                  refine XS.iconst X177.here hx rfl (hb hby at_268) ?_
                  show Steps p.tables e below (T177.setTop (mkF m 269 #[.val (.int p0_0), .val (.int p0_1), .val (.ref b17), .val (.int (p0_0 &&& (31 : Int32))), .val (.int i152), .val (.ref wINTERNAL_ERROR), .val (.ref wINTERNAL_ERROR)] [(.int (1 : Int32))])) t
                  exact k
                rw [show own_F0_125_1 p0_0 p0_1 i152 = (1 : Int32) from ((if_neg hc156).trans ((if_neg hc161).trans ((if_neg hc166).trans ((if_neg hc171).trans ((if_neg hc173).trans ((if_neg hc175).trans rfl))))))]
                exact own_retN X177 hx (t := .boolean) Bd.returns (by simp) (hb hby at_269) hlk (by decide) (by decide) ⟨rfl, N155⟩
  by_cases hc150 : (p0_0 &&& (31 : Int32)) < (16 : Int32)
  · skip
    refine own_by (T' := T143) (g' := (mkF m 120 #[.val (.int p0_0), .val (.int p0_1), .val (.ref b17), .val (.int (p0_0 &&& (31 : Int32))), .unset, .unset, .unset] [(.int (p0_0 &&& (31 : Int32))), (.ref b17)])) (fun t k => ?_) ?_
    · show Steps p.tables e below (T143.setTop (mkF m 115 #[.val (.int p0_0), .val (.int p0_1), .val (.ref b17), .val (.int (p0_0 &&& (31 : Int32))), .unset, .unset, .unset] [(.int (16 : Int32)), (.int (p0_0 &&& (31 : Int32)))])) t
      refine XS.icmpNo X143.here hx rfl (hb hby at_115) rfl (tlt hc150).2.1 ?_
      show Steps p.tables e below (T143.setTop (mkF m 118 #[.val (.int p0_0), .val (.int p0_1), .val (.ref b17), .val (.int (p0_0 &&& (31 : Int32))), .unset, .unset, .unset] [])) t
      refine XS.aloadN X143.here hx rfl (hb hby at_118) rfl rfl ?_
      show Steps p.tables e below (T143.setTop (mkF m 119 #[.val (.int p0_0), .val (.int p0_1), .val (.ref b17), .val (.int (p0_0 &&& (31 : Int32))), .unset, .unset, .unset] [(.ref b17)])) t
      refine XS.iloadN X143.here hx rfl (hb hby at_119) rfl ?_
      show Steps p.tables e below (T143.setTop (mkF m 120 #[.val (.int p0_0), .val (.int p0_1), .val (.ref b17), .val (.int (p0_0 &&& (31 : Int32))), .unset, .unset, .unset] [(.int (p0_0 &&& (31 : Int32))), (.ref b17)])) t
      exact k
    obtain ⟨cl178, Ar178, q178, S178, N178, H178, G178⟩ := f144
    have hin178 := inb_of S178 (j := (p0_0 &&& (31 : Int32))) (own_idx p0_0 hc150)
    refine own_by (T' := T143) (g' := (mkF m 121 #[.val (.int p0_0), .val (.int p0_1), .val (.ref b17), .val (.int (p0_0 &&& (31 : Int32))), .unset, .unset, .unset] [(.int (own_T0_120.getD ((p0_0 &&& (31 : Int32))).toNatClampNeg (0 : Int32)))])) (fun t k => X143.iaload hx (j := (p0_0 &&& (31 : Int32))) (v := (.int (own_T0_120.getD ((p0_0 &&& (31 : Int32))).toNatClampNeg (0 : Int32)))) (by rw [e143]; exact Ar178.1) (State.isArrayOf_alike hZ.alike Ar178.2.1) Ar178.2.2 hin178 (H178.at hin178 (own_tab own_T0_120 (0 : Int32) _)) (g := (mkF m 120 #[.val (.int p0_0), .val (.int p0_1), .val (.ref b17), .val (.int (p0_0 &&& (31 : Int32))), .unset, .unset, .unset] [(.int (p0_0 &&& (31 : Int32))), (.ref b17)])) rfl rfl (hb hby at_120) t k) ?_
    refine own_by (T' := T143) (g' := (mkF m 125 #[.val (.int p0_0), .val (.int p0_1), .val (.ref b17), .val (.int (p0_0 &&& (31 : Int32))), .unset, .unset, .unset] [(.int (own_T0_120.getD ((p0_0 &&& (31 : Int32))).toNatClampNeg (0 : Int32)))])) (fun t k => ?_) ?_
    · show Steps p.tables e below (T143.setTop (mkF m 121 #[.val (.int p0_0), .val (.int p0_1), .val (.ref b17), .val (.int (p0_0 &&& (31 : Int32))), .unset, .unset, .unset] [(.int (own_T0_120.getD ((p0_0 &&& (31 : Int32))).toNatClampNeg (0 : Int32)))])) t
      refine XS.goto X143.here hx rfl (pc0 := 121) (pc' := 125) rfl (hb hby at_121) (by decide) (by decide) ?_
      show Steps p.tables e below (T143.setTop (mkF m 125 #[.val (.int p0_0), .val (.int p0_1), .val (.ref b17), .val (.int (p0_0 &&& (31 : Int32))), .unset, .unset, .unset] [(.int (own_T0_120.getD ((p0_0 &&& (31 : Int32))).toNatClampNeg (0 : Int32)))])) t
      exact k
    rw [show own_F0 p0_0 p0_1 = (own_F0_125_1 p0_0 p0_1 (own_T0_120.getD ((p0_0 &&& (31 : Int32))).toNatClampNeg (0 : Int32))) from ((if_pos hc150).trans rfl)]
    exact J0_1 _ _ (own_T0_120.getD ((p0_0 &&& (31 : Int32))).toNatClampNeg (0 : Int32)) X143 e143 N147
  · skip
    refine own_by (T' := T143) (g' := (mkF m 125 #[.val (.int p0_0), .val (.int p0_1), .val (.ref b17), .val (.int (p0_0 &&& (31 : Int32))), .unset, .unset, .unset] [(.int p0_1)])) (fun t k => ?_) ?_
    · show Steps p.tables e below (T143.setTop (mkF m 115 #[.val (.int p0_0), .val (.int p0_1), .val (.ref b17), .val (.int (p0_0 &&& (31 : Int32))), .unset, .unset, .unset] [(.int (16 : Int32)), (.int (p0_0 &&& (31 : Int32)))])) t
      refine XS.icmpYes X143.here hx rfl (pc0 := 115) (pc' := 124) rfl (hb hby at_115) rfl (flt hc150).2.1 (by decide) (by decide) ?_
      show Steps p.tables e below (T143.setTop (mkF m 124 #[.val (.int p0_0), .val (.int p0_1), .val (.ref b17), .val (.int (p0_0 &&& (31 : Int32))), .unset, .unset, .unset] [])) t
      refine XS.iloadN X143.here hx rfl (hb hby at_124) rfl ?_
      show Steps p.tables e below (T143.setTop (mkF m 125 #[.val (.int p0_0), .val (.int p0_1), .val (.ref b17), .val (.int (p0_0 &&& (31 : Int32))), .unset, .unset, .unset] [(.int p0_1)])) t
      exact k
    rw [show own_F0 p0_0 p0_1 = (own_F0_125_1 p0_0 p0_1 p0_1) from ((if_neg hc150).trans rfl)]
    exact J0_1 _ _ p0_1 X143 e143 N147
theorem own_law (a b : Int32) : own_F0 a b = 1 := by
  have key : ∀ i, own_F0_125_1 a b i = 1 := by
    intro i
    unfold own_F0_125_1 own_F2
    by_cases h1 : i = 404
    · subst h1; decide
    · by_cases h2 : i = 405
      · subst h2; decide
      · by_cases h3 : i = 413
        · subst h3; decide
        · rw [if_neg h1, if_neg h2, if_neg h3]
          repeat' split
          all_goals rfl
  unfold own_F0
  split <;> exact key _

set_option maxRecDepth 65536 in
set_option maxHeartbeats 40000000 in
theorem own_comes {Post : Tables → Env → Array Value → State → Outcome → State → Prop} (hpost : ∀ tb e args s v u, (limb_1_1.after args s (.returned v) u = true ∧ limb_1_2.after args s (.returned v) u = true ∧ True) → FrameEnd s (.returned v) u (Jvm.fieldLocs frame_1_writes args s ++ Jvm.arrayLocs frame_1_arrays args s ++ Jvm.staticLocs frame_1_statics s) 16 128 → Post tb e args s (.returned v) u) :
    ArmFor flags0 classFile x code maxLocals ret World_1 tables_1 room_1 Calls_1 rest_1 Pre_1 Post := by
  intro l hfl _ _ p e ha hc hk s m args below hf hA hF happ hP
  obtain ⟨hcalls, hrest, hpre⟩ := hP
  obtain ⟨-, -, -, hnamed, -, -, -, hat⟩ := (Spec.applies_iff hf).mp happ
  obtain ⟨hg, hn⟩ := and_e (Cond.before_iff.mp (show (Jvm.Cond.and given_1 narrow_1).before args s = true from hpre))
  obtain ⟨hg1, hg2⟩ := and_e hg
  obtain ⟨hg3, hg4⟩ := and_e hg2
  obtain ⟨w0, w1, rfl⟩ : ∃ w0 w1 : Value, args = #[w0, w1] := by
    have hs : args.size = 2 := by simpa [Cond.value, given_1] using hg1
    obtain ⟨L⟩ := args
    match L, hs with
    | [w0, w1], _ => exact ⟨w0, w1, rfl⟩
  have hw := fun d (hd : d ∈ tables_1) => atoms_spec (ws := Jvm.Cond.code x code maxLocals ret :: tables_1) hat d (List.mem_cons_of_mem _ hd)
  have hfit : Fit s := fun {y c} hc i hi => by
    obtain ⟨ha, rfl⟩ := Array.getElem?_eq_some_iff.mp hc
    have q := List.all_eq_true.mp ((Array.all_eq_true_iff_forall_mem.mp hF) _ (Array.getElem_mem ha)) i (List.mem_range.mpr hi)
    simpa [Array.getElem?_eq_getElem hi] using q
  obtain ⟨i0, ei0⟩ := is_v hg3
  obtain rfl : w0 = (.int i0) := Option.some.inj ei0
  obtain ⟨i1, ei1⟩ := is_v hg4
  obtain rfl : w1 = (.int i1) := Option.some.inj ei1
  obtain ⟨hn1a, hn1b⟩ := and_e hn
  obtain ⟨hn2a, hn2b⟩ := and_e hn1b
  obtain ⟨hn3a, hn3b⟩ := and_e hn2b
  obtain ⟨hn4a, hn4b⟩ := and_e hn3b
  obtain ⟨hn5a, hn5b⟩ := and_e hn4b
  obtain ⟨hn6a, hn6b⟩ := and_e hn5b
  obtain ⟨hn7a, hn7b⟩ := and_e hn6b
  obtain ⟨hn8a, hn8b⟩ := and_e hn7b
  obtain ⟨hn9a, hn9b⟩ := and_e hn8b
  obtain ⟨wNOT_FOUND, ev_wNOT_FOUND⟩ := exa_v hn1a
  have S_wNOT_FOUND := Sta.start ev_wNOT_FOUND (Or.inr ⟨(hw _ (List.mem_of_getElem? (i := 3) rfl)), (hw _ (List.mem_of_getElem? (i := 6) rfl))⟩)
  have E_wNOT_FOUND := Exa.start ev_wNOT_FOUND hn1a
  obtain ⟨wBAD_REQUEST, ev_wBAD_REQUEST⟩ := exa_v hn3a
  have S_wBAD_REQUEST := Sta.start ev_wBAD_REQUEST (Or.inr ⟨(hw _ (List.mem_of_getElem? (i := 3) rfl)), (hw _ (List.mem_of_getElem? (i := 16) rfl))⟩)
  have E_wBAD_REQUEST := Exa.start ev_wBAD_REQUEST hn3a
  obtain ⟨wINTERNAL_ERROR, ev_wINTERNAL_ERROR⟩ := exa_v hn4a
  have S_wINTERNAL_ERROR := Sta.start ev_wINTERNAL_ERROR (Or.inr ⟨(hw _ (List.mem_of_getElem? (i := 3) rfl)), (hw _ (List.mem_of_getElem? (i := 19) rfl))⟩)
  have E_wINTERNAL_ERROR := Exa.start ev_wINTERNAL_ERROR hn4a
  obtain ⟨wTOO_LARGE, ev_wTOO_LARGE⟩ := exa_v hn5a
  have S_wTOO_LARGE := Sta.start ev_wTOO_LARGE (Or.inr ⟨(hw _ (List.mem_of_getElem? (i := 3) rfl)), (hw _ (List.mem_of_getElem? (i := 22) rfl))⟩)
  have E_wTOO_LARGE := Exa.start ev_wTOO_LARGE hn5a
  obtain ⟨wMETHOD_NOT_ALLOWED, ev_wMETHOD_NOT_ALLOWED⟩ := exa_v hn6a
  have S_wMETHOD_NOT_ALLOWED := Sta.start ev_wMETHOD_NOT_ALLOWED (Or.inr ⟨(hw _ (List.mem_of_getElem? (i := 3) rfl)), (hw _ (List.mem_of_getElem? (i := 25) rfl))⟩)
  have E_wMETHOD_NOT_ALLOWED := Exa.start ev_wMETHOD_NOT_ALLOWED hn6a
  have F_wNOT_FOUND_status := Fld.start ((fld_at ev_wNOT_FOUND).symm.trans (eqv_i (Term.int_eval (404)) hn2a))
  have F_wMETHOD_NOT_ALLOWED_status := Fld.start ((fld_at ev_wMETHOD_NOT_ALLOWED).symm.trans (eqv_i (Term.int_eval (405)) hn7a))
  have F_wTOO_LARGE_status := Fld.start ((fld_at ev_wTOO_LARGE).symm.trans (eqv_i (Term.int_eval (413)) hn8a))
  have F_wBAD_REQUEST_status := Fld.start ((fld_at ev_wBAD_REQUEST).symm.trans (eqv_i (Term.int_eval (400)) hn9a))
  have F_wINTERNAL_ERROR_status := Fld.start ((fld_at ev_wINTERNAL_ERROR).symm.trans (eqv_i (Term.int_eval (500)) hn9b))
  have EN : own_EN s wNOT_FOUND wBAD_REQUEST wINTERNAL_ERROR wTOO_LARGE wMETHOD_NOT_ALLOWED := ⟨S_wNOT_FOUND, E_wNOT_FOUND, F_wNOT_FOUND_status, S_wBAD_REQUEST, E_wBAD_REQUEST, F_wBAD_REQUEST_status, S_wINTERNAL_ERROR, E_wINTERNAL_ERROR, F_wINTERNAL_ERROR_status, S_wTOO_LARGE, E_wTOO_LARGE, F_wTOO_LARGE_status, S_wMETHOD_NOT_ALLOWED, E_wMETHOD_NOT_ALLOWED, F_wMETHOD_NOT_ALLOWED_status⟩
  obtain ⟨n, o, h1, h2, h3, _, L, rfl, ⟨rfl, N⟩, hq⟩ := own_rm0 l s _ hw tables_1 i0 i1 wNOT_FOUND wBAD_REQUEST wINTERNAL_ERROR wTOO_LARGE wMETHOD_NOT_ALLOWED s.heap s.heap.size (Nat.le_refl _) (Old.start s) EN p e ha hc hk s m _ below hf ((Spec.applies_iff_loose hf).mp happ).1 ⟨rfl, State.Warmed39.refl s, rfl⟩ trivial
  refine ⟨n, _, h1, h2, h3, hpost _ _ _ _ _ _ ⟨Cond.after_iff.mpr rfl, Cond.after_iff.mpr (eq_i res_at (Term.int_eval (1)) (congrArg Value.int (own_law i0 i1))), trivial⟩ ⟨hq.1, hq.2.1, (hq.2.2.sift fun y hy => Or.inr (N y hy)).mono (by decide) (by decide)⟩⟩
theorem main_1_1 : Claimed_1_1 := own_comes fun _ _ _ _ _ _ h hF => ⟨h.1, hF⟩
theorem main_1_2 : Claimed_1_2 := own_comes fun _ _ _ _ _ _ h hF => ⟨h.2.1, hF⟩
end Jvm.Pilot.@@N@@
namespace Jvm.Pilot.@@N@@
open Jvm Jvm.ClassFile Sem Op Lib Jvm.Free Jvm.Stand Jvm.Pilot.@@N@@.Jvm.D
/-! MADE BY PROGRAM (witnessworld.py) out of the Statement's table words and the real class files: 13 classes; the members and pool entries that the words name. The judged class is class 1, her method 1. -/
namespace start1
open Jvm.ClassFile
def u (s : String) : CpInfo := .utf8 (stringToUtf16 s)
/-- a pool by its gaps: so many unusable entries, then the entry; so many at the end -/
def gap : Nat → List CpInfo → List CpInfo
  | 0, r => r
  | n + 1, r => .unusable :: gap n r
def poolList (es : List (Nat × CpInfo)) (last : Nat) : List CpInfo := es.foldr (fun e r => gap e.1 (e.2 :: r)) (gap last [])
def pool (es : List (Nat × CpInfo)) (last : Nat) : Array CpInfo := ⟨poolList es last⟩
def fileOf (pool : Array CpInfo) (this : Nat) (attrs : Array Attribute := #[]) (ms : Array MethodInfo := #[]) (fl : Nat := 33) (sup : Nat := 0) (ifs : Array Nat := #[]) (fds : Array FieldInfo := #[]) : ClassFile where
  minorVersion := 0
  majorVersion := 65
  constantPool := pool
  accessFlags := fl
  thisClass := this
  superClass := sup
  interfaces := ifs
  fields := fds
  methods := ms
  attributes := attrs
def plain (name : String) (sup : Option ClassId) : Class where
  name := name
  kind := .ordinary
  loader := none
  accessFlags := 33
  super := sup
  interfaces := #[]
  cf := none
  fields := #[]
  methods := #[]
  instanceTypes := #[]
  staticTypes := #[]
  resolved := #[]
  callSites := []
  init := .initialized
  statics := none
  mirror := none

def pool0 : Array CpInfo := pool [(5, u "<init>"), (0, u "()V"), (1, .class_ 10), (1, u "java/lang/Object")] 113

def k0m0 : Method := { name := "<init>", desc := "()V", sig := { parameters := [], returnType := none }, accessFlags := 1, code := none }
/-- java/lang/Object -/
def k0 : Class := { plain "java/lang/Object" none with
  accessFlags := 33
  interfaces := #[]
  cf := some (fileOf pool0 8 #[] #[{ accessFlags := 1, nameIndex := 5, descriptorIndex := 6, attributes := #[] }] 33 0 #[] #[])
  fields := #[]
  methods := #[k0m0]
  instanceTypes := #[]
  staticTypes := #[]
  resolved := Array.replicate 124 none
  statics := none }

def pool1 : Array CpInfo := pool [(2, .class_ 4), (1, u "java/lang/Object"), (0, u "<init>"), (0, u "()V"), (0, .methodref 8 9), (0, .class_ 10), (0, .nameAndType 11 12), (0, u "com/example/vacant_errand/vacanterrand/ErrorCode"), (0, u "forStatus"), (0, u "(I)Lcom/example/vacant_errand/vacanterrand/ErrorCode;"), (0, .fieldref 8 14), (0, .nameAndType 15 16), (0, u "NOT_FOUND"), (0, u "Lcom/example/vacant_errand/vacanterrand/ErrorCode;"), (0, .fieldref 8 18), (0, .nameAndType 19 16), (0, u "METHOD_NOT_ALLOWED"), (0, .fieldref 8 21), (0, .nameAndType 22 16), (0, u "TOO_LARGE"), (0, .fieldref 8 24), (0, .nameAndType 25 16), (0, u "INTERNAL_ERROR"), (0, .fieldref 8 27), (0, .nameAndType 28 16), (0, u "BAD_REQUEST"), (0, .methodref 8 30), (0, .nameAndType 31 32), (0, u "status"), (0, u "()I"), (0, .class_ 34), (0, u "com/example/vacant_errand/vacanterrand/ErrorCodeForStatusPinLaw"), (2, u "law"), (0, u "(II)Z")] 5

def k1m0 : Method := { name := "<init>", desc := "()V", sig := { parameters := [], returnType := none }, accessFlags := 1, code := none }
def k1c1 : Code := { maxStack := 4, maxLocals := 7, code := code, exceptionTable := #[], attributes := #[] }
def k1m1 : Method := { name := "law", desc := "(II)Z", sig := { parameters := [.int, .int], returnType := some .boolean }, accessFlags := 9, code := some k1c1 }
/-- com/example/vacant_errand/vacanterrand/ErrorCodeForStatusPinLaw -/
def k1 : Class := { plain "com/example/vacant_errand/vacanterrand/ErrorCodeForStatusPinLaw" (some 0) with
  accessFlags := 49
  interfaces := #[]
  cf := some (fileOf pool1 33 #[] #[{ accessFlags := 1, nameIndex := 5, descriptorIndex := 6, attributes := #[] }, { accessFlags := 9, nameIndex := 37, descriptorIndex := 38, attributes := #[] }] 49 2 #[] #[])
  fields := #[]
  methods := #[k1m0, k1m1]
  instanceTypes := #[]
  staticTypes := #[]
  resolved := Array.replicate 44 none
  statics := none }

def pool2 : Array CpInfo := pool [(1, .class_ 2), (0, u "java/lang/constant/Constable"), (0, .class_ 4), (0, u "java/lang/Object")] 6

/-- java/lang/constant/Constable -/
def k2 : Class := { plain "java/lang/constant/Constable" (some 0) with
  accessFlags := 1537
  interfaces := #[]
  cf := some (fileOf pool2 1 #[] #[] 1537 3 #[] #[])
  fields := #[]
  methods := #[]
  instanceTypes := #[]
  staticTypes := #[]
  resolved := Array.replicate 11 none
  statics := none }

def pool3 : Array CpInfo := pool [(1, .class_ 2), (0, u "java/lang/Comparable"), (0, .class_ 4), (0, u "java/lang/Object")] 7

/-- java/lang/Comparable -/
def k3 : Class := { plain "java/lang/Comparable" (some 0) with
  accessFlags := 1537
  interfaces := #[]
  cf := some (fileOf pool3 1 #[] #[] 1537 3 #[] #[])
  fields := #[]
  methods := #[]
  instanceTypes := #[]
  staticTypes := #[]
  resolved := Array.replicate 12 none
  statics := none }

def pool4 : Array CpInfo := pool [(1, .class_ 2), (0, u "java/io/Serializable"), (0, .class_ 4), (0, u "java/lang/Object")] 2

/-- java/io/Serializable -/
def k4 : Class := { plain "java/io/Serializable" (some 0) with
  accessFlags := 1537
  interfaces := #[]
  cf := some (fileOf pool4 1 #[] #[] 1537 3 #[] #[])
  fields := #[]
  methods := #[]
  instanceTypes := #[]
  staticTypes := #[]
  resolved := Array.replicate 7 none
  statics := none }

def pool5 : Array CpInfo := pool [(2, .class_ 4), (1, u "java/lang/Enum"), (0, u "name"), (0, u "Ljava/lang/String;"), (2, u "ordinal"), (0, u "I"), (1, .class_ 14), (1, u "java/lang/Object"), (4, u "hash"), (86, .class_ 108), (1, u "java/lang/Enum$EnumDesc"), (2, .class_ 112), (0, u "java/lang/constant/Constable"), (0, .class_ 114), (0, u "java/lang/Comparable"), (0, .class_ 116), (0, u "java/io/Serializable")] 87

/-- java/lang/Enum -/
def k5 : Class := { plain "java/lang/Enum" (some 0) with
  accessFlags := 1057
  interfaces := #[2, 3, 4]
  cf := some (fileOf pool5 2 #[.nestMembers #[106]] #[] 1057 12 #[111, 113, 115] #[{ accessFlags := 18, nameIndex := 5, descriptorIndex := 6, attributes := #[] }, { accessFlags := 18, nameIndex := 9, descriptorIndex := 10, attributes := #[] }, { accessFlags := 2, nameIndex := 19, descriptorIndex := 10, attributes := #[] }])
  fields := #[{ name := "name", type := (.object "java/lang/String"), accessFlags := 18, slot := 0, constantValue := 0 }, { name := "ordinal", type := .int, accessFlags := 18, slot := 1, constantValue := 0 }, { name := "hash", type := .int, accessFlags := 2, slot := 2, constantValue := 0 }]
  methods := #[]
  instanceTypes := #[(.object "java/lang/String"), .int, .int]
  staticTypes := #[]
  resolved := Array.replicate 204 none
  statics := none }

def pool6 : Array CpInfo := pool [(14, .class_ 16), (1, u "com/example/vacant_errand/vacanterrand/WireNamed"), (13, .class_ 32), (1, u "com/example/vacant_errand/vacanterrand/WireNamed$Constants"), (40, .class_ 74), (0, u "java/lang/Object"), (13, .class_ 89), (0, u "com/example/vacant_errand/vacanterrand/WireNamed$Constants$1")] 16

/-- com/example/vacant_errand/vacanterrand/WireNamed -/
def k6 : Class := { plain "com/example/vacant_errand/vacanterrand/WireNamed" (some 0) with
  accessFlags := 1536
  interfaces := #[]
  cf := some (fileOf pool6 14 #[.nestMembers #[30, 88]] #[] 1536 73 #[] #[])
  fields := #[]
  methods := #[]
  instanceTypes := #[]
  staticTypes := #[]
  resolved := Array.replicate 106 none
  statics := none }

def pool7 : Array CpInfo := pool [(1, .class_ 2), (0, u "com/example/vacant_errand/vacanterrand/ErrorCode"), (0, .fieldref 1 4), (0, .nameAndType 5 6), (0, u "BAD_REQUEST"), (0, u "Lcom/example/vacant_errand/vacanterrand/ErrorCode;"), (0, .fieldref 1 8), (0, .nameAndType 9 6), (0, u "NOT_FOUND"), (0, .fieldref 1 11), (0, .nameAndType 12 6), (0, u "METHOD_NOT_ALLOWED"), (2, u "LEASE_LOST"), (2, u "KEY_CONFLICT"), (2, u "CANCELLED"), (2, u "RUNNING"), (0, .fieldref 1 26), (0, .nameAndType 27 6), (0, u "TOO_LARGE"), (0, .fieldref 1 29), (0, .nameAndType 30 6), (0, u "INTERNAL_ERROR"), (2, u "$VALUES"), (0, u "[Lcom/example/vacant_errand/vacanterrand/ErrorCode;"), (6, .class_ 43), (1, u "java/lang/Enum"), (11, .class_ 57), (1, u "com/example/vacant_errand/vacanterrand/WireNamed"), (4, u "wireName"), (0, u "Ljava/lang/String;"), (0, .fieldref 1 65), (0, .nameAndType 66 67), (0, u "status"), (0, u "I"), (23, u "()I"), (0, u "forStatus"), (0, u "(I)Lcom/example/vacant_errand/vacanterrand/ErrorCode;")] 6

def k7c0 : Code := { maxStack := 1, maxLocals := 1, code := prog_1_method_5_code, exceptionTable := #[], attributes := #[] }
def k7m0 : Method := { name := "status", desc := "()I", sig := { parameters := [], returnType := some .int }, accessFlags := 0, code := some k7c0 }
def k7c1 : Code := { maxStack := 2, maxLocals := 1, code := prog_1_method_6_code, exceptionTable := #[], attributes := #[] }
def k7m1 : Method := { name := "forStatus", desc := "(I)Lcom/example/vacant_errand/vacanterrand/ErrorCode;", sig := { parameters := [.int], returnType := some (.object "com/example/vacant_errand/vacanterrand/ErrorCode") }, accessFlags := 8, code := some k7c1 }
/-- com/example/vacant_errand/vacanterrand/ErrorCode -/
def k7 : Class := { plain "com/example/vacant_errand/vacanterrand/ErrorCode" (some 5) with
  accessFlags := 16432
  interfaces := #[6]
  cf := some (fileOf pool7 1 #[] #[{ accessFlags := 0, nameIndex := 66, descriptorIndex := 91, attributes := #[] }, { accessFlags := 8, nameIndex := 92, descriptorIndex := 93, attributes := #[] }] 16432 41 #[55] #[{ accessFlags := 16409, nameIndex := 5, descriptorIndex := 6, attributes := #[] }, { accessFlags := 16409, nameIndex := 9, descriptorIndex := 6, attributes := #[] }, { accessFlags := 16409, nameIndex := 12, descriptorIndex := 6, attributes := #[] }, { accessFlags := 16409, nameIndex := 15, descriptorIndex := 6, attributes := #[] }, { accessFlags := 16409, nameIndex := 18, descriptorIndex := 6, attributes := #[] }, { accessFlags := 16409, nameIndex := 21, descriptorIndex := 6, attributes := #[] }, { accessFlags := 16409, nameIndex := 24, descriptorIndex := 6, attributes := #[] }, { accessFlags := 16409, nameIndex := 27, descriptorIndex := 6, attributes := #[] }, { accessFlags := 16409, nameIndex := 30, descriptorIndex := 6, attributes := #[] }, { accessFlags := 18, nameIndex := 66, descriptorIndex := 67, attributes := #[] }, { accessFlags := 18, nameIndex := 62, descriptorIndex := 63, attributes := #[] }, { accessFlags := 4122, nameIndex := 33, descriptorIndex := 34, attributes := #[] }])
  fields := #[{ name := "BAD_REQUEST", type := (.object "com/example/vacant_errand/vacanterrand/ErrorCode"), accessFlags := 16409, slot := 0, constantValue := 0 }, { name := "NOT_FOUND", type := (.object "com/example/vacant_errand/vacanterrand/ErrorCode"), accessFlags := 16409, slot := 1, constantValue := 0 }, { name := "METHOD_NOT_ALLOWED", type := (.object "com/example/vacant_errand/vacanterrand/ErrorCode"), accessFlags := 16409, slot := 2, constantValue := 0 }, { name := "LEASE_LOST", type := (.object "com/example/vacant_errand/vacanterrand/ErrorCode"), accessFlags := 16409, slot := 3, constantValue := 0 }, { name := "KEY_CONFLICT", type := (.object "com/example/vacant_errand/vacanterrand/ErrorCode"), accessFlags := 16409, slot := 4, constantValue := 0 }, { name := "CANCELLED", type := (.object "com/example/vacant_errand/vacanterrand/ErrorCode"), accessFlags := 16409, slot := 5, constantValue := 0 }, { name := "RUNNING", type := (.object "com/example/vacant_errand/vacanterrand/ErrorCode"), accessFlags := 16409, slot := 6, constantValue := 0 }, { name := "TOO_LARGE", type := (.object "com/example/vacant_errand/vacanterrand/ErrorCode"), accessFlags := 16409, slot := 7, constantValue := 0 }, { name := "INTERNAL_ERROR", type := (.object "com/example/vacant_errand/vacanterrand/ErrorCode"), accessFlags := 16409, slot := 8, constantValue := 0 }, { name := "status", type := .int, accessFlags := 18, slot := 3, constantValue := 0 }, { name := "wireName", type := (.object "java/lang/String"), accessFlags := 18, slot := 4, constantValue := 0 }, { name := "$VALUES", type := (.array (.object "com/example/vacant_errand/vacanterrand/ErrorCode")), accessFlags := 4122, slot := 9, constantValue := 0 }]
  methods := #[k7m0, k7m1]
  instanceTypes := #[(.object "java/lang/String"), .int, .int, .int, (.object "java/lang/String")]
  staticTypes := #[(.object "com/example/vacant_errand/vacanterrand/ErrorCode"), (.object "com/example/vacant_errand/vacanterrand/ErrorCode"), (.object "com/example/vacant_errand/vacanterrand/ErrorCode"), (.object "com/example/vacant_errand/vacanterrand/ErrorCode"), (.object "com/example/vacant_errand/vacanterrand/ErrorCode"), (.object "com/example/vacant_errand/vacanterrand/ErrorCode"), (.object "com/example/vacant_errand/vacanterrand/ErrorCode"), (.object "com/example/vacant_errand/vacanterrand/ErrorCode"), (.object "com/example/vacant_errand/vacanterrand/ErrorCode"), (.array (.object "com/example/vacant_errand/vacanterrand/ErrorCode"))]
  resolved := Array.replicate 100 none
  statics := some 0 }

def pool8 : Array CpInfo := pool [(1, u "java/lang/Cloneable"), (0, .class_ 1), (0, u "java/lang/Object"), (0, .class_ 3)] 3

/-- java/lang/Cloneable -/
def k8 : Class := { plain "java/lang/Cloneable" (some 0) with
  accessFlags := 1537
  interfaces := #[]
  cf := some (fileOf pool8 2 #[] #[] 1537 4 #[] #[])
  fields := #[]
  methods := #[]
  instanceTypes := #[]
  staticTypes := #[]
  resolved := Array.replicate 8 none
  statics := none }

/-- the primitive byte -/
def k9 : Class := { plain "byte" none with kind := .primitive 'B', accessFlags := 0x411 }
/-- [B -/
def k10 : Class := { plain "[B" (some 0) with kind := .array 9 .byte, interfaces := #[8, 4], accessFlags := 1041 }

/-- the primitive int -/
def k11 : Class := { plain "int" none with kind := .primitive 'I', accessFlags := 0x411 }
/-- [I -/
def k12 : Class := { plain "[I" (some 0) with kind := .array 11 .int, interfaces := #[8, 4], accessFlags := 1041 }

def heap : Heap := #[{ cls := 7, slots := #[.ref 2, .ref 1, .ref 5, .null, .null, .null, .null, .ref 4, .ref 3, .null], vm := .statics 7 },
  { cls := 7, slots := #[.null, .int 0, .int 0, .int 404, .null], vm := .none },
  { cls := 7, slots := #[.null, .int 0, .int 0, .int 400, .null], vm := .none },
  { cls := 7, slots := #[.null, .int 0, .int 0, .int 500, .null], vm := .none },
  { cls := 7, slots := #[.null, .int 0, .int 0, .int 413, .null], vm := .none },
  { cls := 7, slots := #[.null, .int 0, .int 0, .int 405, .null], vm := .none }]
def classes : Array Class := #[k0, k1, k2, k3, k4, k5, k6, k7, k8, k9, k10, k11, k12]
def interned : List (Array UInt16 × Addr) := []
def slotsUsed : Nat := 35
def theMethod : MethodId := ⟨1, 1⟩
def args0 : Array Value := #[.int 5, .int 6]
def aboutOver (below : List Frame) : State where
  vm := { classes := classes, interned := interned.toArray }
  heap := heap
  slotsUsed := slotsUsed
  threads := #[{ frames := .invoking theMethod args0 :: below }]
def below0 : List Frame := [.native { method := ⟨0, 0⟩, args := #[] }]
def about1 : State := aboutOver below0
def p0 : Program := .bare "" "" ""
def e0 : Env := launch0.env 0 0 0
theorem w_frames : about1.frames = Frame.invoking theMethod args0 :: below0 := rfl
set_option maxRecDepth 65536 in
theorem w_args : argsFit about1.vm theMethod args0 = true := by decide +kernel
set_option maxRecDepth 65536 in
theorem w_heap : heapFits about1 = true := by decide +kernel
set_option maxRecDepth 65536 in
theorem w_runnable : about1.curStatus? = some .runnable := by decide +kernel
set_option maxRecDepth 65536 in
theorem w_alone : about1.alone = true := by decide +kernel
set_option maxRecDepth 65536 in
theorem w_named : about1.methodNamed? x = some theMethod := by decide +kernel
set_option maxRecDepth 65536 in
theorem w_hears : about1.hears theMethod below0 = true := by decide +kernel
set_option maxRecDepth 65536 in
theorem w_ripe : about1.ripe theMethod args0 below0 = true := by decide +kernel
theorem w_running : about1.status = .running := rfl
set_option maxRecDepth 65536 in
theorem w_room : about1.hasRoom e0.platform room_1 = true :=
  launch0.hasRoom_least _ room_1 (by decide +kernel) (by decide +kernel) (by decide +kernel) (by decide +kernel) (by decide +kernel) (by decide +kernel)
theorem allAtoms_all (ts : List Jvm.Cond) (a : Array Jvm.Value) (st : Jvm.State) : (allAtoms ts).before a st = ts.all (fun c => c.before a st) := by
  induction ts with
  | nil => rfl
  | cons c t ih =>
    show (Jvm.Cond.and c (allAtoms t)).before a st = _
    rw [Jvm.Cond.before_and, ih, List.all_cons]
def words1 : List Jvm.Cond := Jvm.Cond.code x code maxLocals ret :: tables_1
/-- a 'code' word, met by the world's own term for the bytes: nothing is compared byte by byte -/
theorem code_word {y : MethodName} {bytes : ByteArray} {mx : Nat} {rt : Option FieldType} {a : Array Value} {s : State} {m : MethodId} {meth : Method} {c : Code} (h1 : s.methodNamed? y = some m) (h2 : s.vm.method? m = some meth) (h3 : meth.code = some c) (h4 : c.code = bytes)
    (h5 : (c.maxLocals == mx && c.exceptionTable.isEmpty && decide (c.maxStack ≤ mostOperands) && decide (meth.sig.returnType = rt) && !meth.locks && decide (parseMethodDescriptor y.desc = some meth.sig)) = true) : (Jvm.Cond.code y bytes mx rt).before a s = true := by
  simp only [Bool.and_eq_true, beq_iff_eq, Bool.not_eq_true', decide_eq_true_eq] at h5
  obtain ⟨⟨⟨⟨⟨g1, g2⟩, g3⟩, g4⟩, g5⟩, g6⟩ := h5
  simp [Cond.before, Cond.holds, Cond.value, h1, h2, h3, h4, g1, g2, g3, g4, g5, g6]
def isCode : Jvm.Cond → Bool
  | .code _ _ _ _ => true
  | _ => false
theorem all_split {L : List Jvm.Cond} {P : Jvm.Cond → Bool} (h1 : L.all (fun c => isCode c || P c) = true) (h2 : ∀ c ∈ L.filter isCode, P c = true) : L.all P = true := by
  refine List.all_eq_true.mpr fun c hc => ?_
  have h := List.all_eq_true.mp h1 c hc
  rcases Bool.eq_false_or_eq_true (isCode c) with hi | hi
  · exact h2 c (List.mem_filter.mpr ⟨hc, hi⟩)
  · simpa [hi] using h
set_option maxRecDepth 65536 in
theorem w_c0 : (Jvm.Cond.code x code maxLocals ret).before args0 about1 = true := code_word (m := ⟨1, 1⟩) (meth := k1m1) (c := k1c1) (by decide +kernel) rfl rfl rfl (by decide +kernel)
set_option maxRecDepth 65536 in
theorem w_c1 : (Jvm.Cond.code ({ cls := "com/example/vacant_errand/vacanterrand/ErrorCode", name := "forStatus", desc := "(I)Lcom/example/vacant_errand/vacanterrand/ErrorCode;" } : Jvm.MethodName) prog_1_method_6_code (1 : Nat) (Option.some (Jvm.ClassFile.FieldType.object "com/example/vacant_errand/vacanterrand/ErrorCode"))).before args0 about1 = true := code_word (m := ⟨7, 1⟩) (meth := k7m1) (c := k7c1) (by decide +kernel) rfl rfl rfl (by decide +kernel)
set_option maxRecDepth 65536 in
theorem w_c2 : (Jvm.Cond.code ({ cls := "com/example/vacant_errand/vacanterrand/ErrorCode", name := "status", desc := "()I" } : Jvm.MethodName) prog_1_method_5_code (1 : Nat) (Option.some Jvm.ClassFile.FieldType.int)).before args0 about1 = true := code_word (m := ⟨7, 0⟩) (meth := k7m0) (c := k7c0) (by decide +kernel) rfl rfl rfl (by decide +kernel)
def codes1 : List Jvm.Cond := [Jvm.Cond.code x code maxLocals ret, Jvm.Cond.code ({ cls := "com/example/vacant_errand/vacanterrand/ErrorCode", name := "forStatus", desc := "(I)Lcom/example/vacant_errand/vacanterrand/ErrorCode;" } : Jvm.MethodName) prog_1_method_6_code (1 : Nat) (Option.some (Jvm.ClassFile.FieldType.object "com/example/vacant_errand/vacanterrand/ErrorCode")), Jvm.Cond.code ({ cls := "com/example/vacant_errand/vacanterrand/ErrorCode", name := "status", desc := "()I" } : Jvm.MethodName) prog_1_method_5_code (1 : Nat) (Option.some Jvm.ClassFile.FieldType.int)]
set_option maxRecDepth 65536 in
theorem codes_eq : words1.filter isCode = codes1 := rfl
theorem w_codes : ∀ c ∈ words1.filter isCode, c.before args0 about1 = true := by
  rw [codes_eq]
  intro c hc
  simp only [codes1, List.mem_cons, List.not_mem_nil, or_false] at hc
  rcases hc with rfl | rfl | rfl
  · exact w_c0
  · exact w_c1
  · exact w_c2
set_option maxRecDepth 65536 in
theorem w_t1 : (words1.take 24).all (fun c => isCode c || c.before args0 about1) = true := by decide +kernel
set_option maxRecDepth 65536 in
theorem w_t2 : (words1.drop 24).all (fun c => isCode c || c.before args0 about1) = true := by decide +kernel
theorem w_tables : (allAtoms (Jvm.Cond.code x code maxLocals ret :: tables_1)).before args0 about1 = true := by
  rw [allAtoms_all]
  show words1.all (fun c => c.before args0 about1) = true
  refine all_split ?_ w_codes
  rw [← List.take_append_drop 24 words1, List.all_append, w_t1, w_t2]
  rfl
set_option maxRecDepth 65536 in
theorem w_case : (Jvm.Cond.and given_1 narrow_1).before args0 about1 = true := by decide +kernel
theorem w_applies : (headSpec (Jvm.Cond.code x code maxLocals ret :: tables_1) room_1).applies x e0.platform about1 = true :=
  (Spec.applies_iff w_frames).mpr ⟨w_running, w_runnable, w_alone, w_named, w_hears, w_ripe, w_room, w_tables⟩
theorem atStart : AtStart classFile x code maxLocals ret World_1 tables_1 room_1 Calls_1 rest_1 Pre_1 launch0 p0 e0 about1 theMethod args0 below0 :=
  ⟨lists_1, trivial, launch0.admits_env _ _ _, launch0.least_env, fairChoices_fair.cas, fairChoices_fair.clock, w_frames, w_args, w_heap, w_applies, trivial, trivial, w_case⟩
end start1
theorem witness_1 : WitnessClaimed_1 := ⟨start1.p0, start1.e0, start1.about1, start1.theMethod, start1.args0, start1.below0, start1.atStart⟩
end Jvm.Pilot.@@N@@
