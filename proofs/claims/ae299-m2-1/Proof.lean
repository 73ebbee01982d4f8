import JvmDerived
import JvmDerived.Pilot.@@N@@Statement
import JvmDerived.Pilot.@@N@@Code
set_option linter.unusedVariables false
set_option linter.unusedSimpArgs false
namespace Jvm.Pilot.@@N@@
open Jvm Jvm.ClassFile Sem Op Lib Jvm.Free Jvm.Stand Jvm.LawKit Jvm.RoadKit Bundle Jvm.Pilot.@@N@@.Jvm.D
/-- from the frame g at T the run reaches a state of which P holds -/
def own_Go (p : Program) (e : Env) (below : List Frame) (P : State → Outcome → Prop) (T : State) (g : JFrame) : Prop := ∃ t o, Steps p.tables e below (T.setTop g) t ∧ P t o
/-- the run has left the method: what it returned, the heap and the places written are as Q says -/
def own_P (s : State) (below : List Frame) (R : Room) (Q : Option Value → Heap → List Loc → Prop) (t : State) (o : Outcome) : Prop := t.status = .running ∧ Ended t below o ∧ ∃ v L, o = .returned v ∧ Q v t.heap L ∧ FrameEnd s o t L R.cells R.slots
section OwnKit
variable {p : Program} {l : Launch} {e : Env} {R : Room} {s : State} {m : MethodId} {args : Array Value} {below : List Frame} {meth : Method} {c : Code} {T T' : State} {locs : List Loc} {cells slots : Nat} {P : State → Outcome → Prop} {g g' : JFrame}
theorem own_by (k : ∀ t, Steps p.tables e below (T'.setTop g') t → Steps p.tables e below (T.setTop g) t) (h : own_Go p e below P T' g') : own_Go p e below P T g := by
  obtain ⟨t, o, st, q⟩ := h
  exact ⟨t, o, k t st, q⟩
theorem own_via (k : Steps p.tables e below (T.setTop g) (T'.setTop g')) (h : own_Go p e below P T' g') : own_Go p e below P T g := own_by (fun _ st => k.trans st) h
theorem own_in (q : g = g') (h : own_Go p e below P T g') : own_Go p e below P T g := q ▸ h
theorem own_out {v : Option Value} {Q : Option Value → Heap → List Loc → Prop} (X : Stand p l e R s m args below meth c T locs cells slots) (hv : meth.sig.returnType = none → v = none) (hlk : meth.locks = false) (hc : cells ≤ R.cells) (hs : slots ≤ R.slots) (q : Q v T.heap locs)
    (k : ∀ fs, (∀ (f : JFrame) (acts : List Action), f.method = m → f.locked = none → f.entered = [] → (doReturn e (T.setTop f) acts v).1 = T.setFrames fs) → Steps p.tables e below (T.setTop g) (T.setFrames fs)) : own_Go p e below (own_P s below R Q) T g := by
  obtain ⟨fs, hr, hrun, hended, hW, hsame⟩ := X.leave (v := v) hv hlk
  exact ⟨_, _, k fs hr, hrun, hended, _, _, rfl, q, ⟨_, rfl⟩, hW, hsame.mono hc hs⟩
theorem own_some {t : FieldType} {w : Value} (h : meth.sig.returnType = some t) : meth.sig.returnType = none → some w = none := fun q => by rw [h] at q; cases q
theorem own_retN {pc : Nat} {Ls : Array Slot} {z : Int32} {t : FieldType} {rest : List Value} {Q : Option Value → Heap → List Loc → Prop} (X : Stand p l e R s m args below meth c T locs cells slots) (hx : p.tables.exec = Jvm.exec) (hret : meth.sig.returnType = some t) (ht : t = .boolean ∨ t = .byte ∨ t = .char ∨ t = .short)
    (hd : decode c.code pc = .ok (.ireturn, 1)) (hlk : meth.locks = false) (hc : cells ≤ R.cells) (hs : slots ≤ R.slots) (q : Q (some (.int (nar t z))) T.heap locs) : own_Go p e below (own_P s below R Q) T (mkF m pc Ls (.int z :: rest)) :=
  own_out X (own_some hret) hlk hc hs q fun _ hr => retN X hx hret ht hd hr
theorem own_retI {pc : Nat} {Ls : Array Slot} {z : Int32} {rest : List Value} {Q : Option Value → Heap → List Loc → Prop} (X : Stand p l e R s m args below meth c T locs cells slots) (hx : p.tables.exec = Jvm.exec) (hret : meth.sig.returnType = some .int)
    (hd : decode c.code pc = .ok (.ireturn, 1)) (hlk : meth.locks = false) (hc : cells ≤ R.cells) (hs : slots ≤ R.slots) (q : Q (some (.int z)) T.heap locs) : own_Go p e below (own_P s below R Q) T (mkF m pc Ls (.int z :: rest)) :=
  own_out X (own_some hret) hlk hc hs q fun _ hr => retOut X hx hret rfl (Or.inl ⟨rfl, Or.inl rfl, _, rfl⟩) hd hr
theorem own_retJ {pc : Nat} {Ls : Array Slot} {z : Int64} {rest : List Value} {Q : Option Value → Heap → List Loc → Prop} (X : Stand p l e R s m args below meth c T locs cells slots) (hx : p.tables.exec = Jvm.exec) (hret : meth.sig.returnType = some .long)
    (hd : decode c.code pc = .ok (.lreturn, 1)) (hlk : meth.locks = false) (hc : cells ≤ R.cells) (hs : slots ≤ R.slots) (q : Q (some (.long z)) T.heap locs) : own_Go p e below (own_P s below R Q) T (mkF m pc Ls (.long z :: rest)) :=
  own_out X (own_some hret) hlk hc hs q fun _ hr => retOut X hx hret rfl (Or.inr (Or.inl ⟨rfl, rfl, _, rfl⟩)) hd hr
theorem own_retR {pc : Nat} {Ls : Array Slot} {w : Value} {t : FieldType} {rest : List Value} {Q : Option Value → Heap → List Loc → Prop} (X : Stand p l e R s m args below meth c T locs cells slots) (hx : p.tables.exec = Jvm.exec) (hret : meth.sig.returnType = some t) (ht : t.isReference = true) (hw : w.isRef = true) (hn : narrow t w = w)
    (hd : decode c.code pc = .ok (.areturn, 1)) (hlk : meth.locks = false) (hc : cells ≤ R.cells) (hs : slots ≤ R.slots) (q : Q (some w) T.heap locs) : own_Go p e below (own_P s below R Q) T (mkF m pc Ls (w :: rest)) :=
  own_out X (own_some hret) hlk hc hs q fun _ hr => retOut X hx hret hn (Or.inr (Or.inr (Or.inr (Or.inr ⟨rfl, ht, hw⟩)))) hd hr
theorem own_ret0 {pc : Nat} {Ls : Array Slot} {Q : Option Value → Heap → List Loc → Prop} (X : Stand p l e R s m args below meth c T locs cells slots) (hx : p.tables.exec = Jvm.exec) (hret : meth.sig.returnType = none)
    (hd : decode c.code pc = .ok (.return_, 1)) (hlk : meth.locks = false) (hc : cells ≤ R.cells) (hs : slots ≤ R.slots) (q : Q none T.heap locs) : own_Go p e below (own_P s below R Q) T (mkF m pc Ls []) :=
  own_out X (fun _ => rfl) hlk hc hs q fun _ hr => X.returnOut hx hret hd hr
theorem own_hide {n0 : Nat} (X : Stand p l e R s m args below meth c T locs cells slots) (N : Fr n0 locs) : ∃ L, Stand p l e R s m args below meth c T L cells slots ∧ Fr n0 L := ⟨locs, X, N⟩
theorem own_fitsR {C : String} {v : Value} (h : v.isRef = true) : fits (.object C) v = true := by
  cases v <;> first | rfl | (simp [Value.isRef] at h)
theorem own_tab (xs : List Int32) (d : Int32) (k : Nat) : (xs.map Value.int).getD k (.int d) = .int (xs.getD k d) := by
  simp only [List.getD_eq_getElem?_getD, List.getElem?_map]
  cases xs[k]? <;> rfl
end OwnKit
def own_EN1 (Z : State) (wMISSING_ACTION : Addr) : Prop := Sta Z Z.heap "com/example/buzon/buzon/engine/ApiError" "MISSING_ACTION" "Lcom/example/buzon/buzon/engine/ApiError;" (.ref wMISSING_ACTION) ∧ Exa Z Z.heap wMISSING_ACTION "com/example/buzon/buzon/engine/ApiError" ∧ Fld Z Z.heap wMISSING_ACTION "java/lang/Enum" "ordinal" "I" (.int (0 : Int32)) ∧ Fld Z Z.heap wMISSING_ACTION "com/example/buzon/buzon/engine/ApiError" "httpStatus" "I" (.int (400 : Int32))
def own_EN2 (Z : State) (wINVALID_ACTION : Addr) : Prop := Sta Z Z.heap "com/example/buzon/buzon/engine/ApiError" "INVALID_ACTION" "Lcom/example/buzon/buzon/engine/ApiError;" (.ref wINVALID_ACTION) ∧ Exa Z Z.heap wINVALID_ACTION "com/example/buzon/buzon/engine/ApiError" ∧ Fld Z Z.heap wINVALID_ACTION "java/lang/Enum" "ordinal" "I" (.int (1 : Int32)) ∧ Fld Z Z.heap wINVALID_ACTION "com/example/buzon/buzon/engine/ApiError" "httpStatus" "I" (.int (400 : Int32))
def own_EN3 (Z : State) (wMALFORMED_QUERY_STRING : Addr) : Prop := Sta Z Z.heap "com/example/buzon/buzon/engine/ApiError" "MALFORMED_QUERY_STRING" "Lcom/example/buzon/buzon/engine/ApiError;" (.ref wMALFORMED_QUERY_STRING) ∧ Exa Z Z.heap wMALFORMED_QUERY_STRING "com/example/buzon/buzon/engine/ApiError" ∧ Fld Z Z.heap wMALFORMED_QUERY_STRING "java/lang/Enum" "ordinal" "I" (.int (2 : Int32)) ∧ Fld Z Z.heap wMALFORMED_QUERY_STRING "com/example/buzon/buzon/engine/ApiError" "httpStatus" "I" (.int (400 : Int32))
def own_EN4 (Z : State) (wINVALID_ADDRESS : Addr) : Prop := Sta Z Z.heap "com/example/buzon/buzon/engine/ApiError" "INVALID_ADDRESS" "Lcom/example/buzon/buzon/engine/ApiError;" (.ref wINVALID_ADDRESS) ∧ Exa Z Z.heap wINVALID_ADDRESS "com/example/buzon/buzon/engine/ApiError" ∧ Fld Z Z.heap wINVALID_ADDRESS "java/lang/Enum" "ordinal" "I" (.int (3 : Int32)) ∧ Fld Z Z.heap wINVALID_ADDRESS "com/example/buzon/buzon/engine/ApiError" "httpStatus" "I" (.int (400 : Int32))
def own_EN5 (Z : State) (wMISSING_PARAMETER : Addr) : Prop := Sta Z Z.heap "com/example/buzon/buzon/engine/ApiError" "MISSING_PARAMETER" "Lcom/example/buzon/buzon/engine/ApiError;" (.ref wMISSING_PARAMETER) ∧ Exa Z Z.heap wMISSING_PARAMETER "com/example/buzon/buzon/engine/ApiError" ∧ Fld Z Z.heap wMISSING_PARAMETER "java/lang/Enum" "ordinal" "I" (.int (4 : Int32)) ∧ Fld Z Z.heap wMISSING_PARAMETER "com/example/buzon/buzon/engine/ApiError" "httpStatus" "I" (.int (400 : Int32))
def own_EN6 (Z : State) (wINVALID_PARAMETER_VALUE : Addr) : Prop := Sta Z Z.heap "com/example/buzon/buzon/engine/ApiError" "INVALID_PARAMETER_VALUE" "Lcom/example/buzon/buzon/engine/ApiError;" (.ref wINVALID_PARAMETER_VALUE) ∧ Exa Z Z.heap wINVALID_PARAMETER_VALUE "com/example/buzon/buzon/engine/ApiError" ∧ Fld Z Z.heap wINVALID_PARAMETER_VALUE "java/lang/Enum" "ordinal" "I" (.int (5 : Int32)) ∧ Fld Z Z.heap wINVALID_PARAMETER_VALUE "com/example/buzon/buzon/engine/ApiError" "httpStatus" "I" (.int (400 : Int32))
def own_EN7 (Z : State) (wINVALID_ATTRIBUTE_VALUE : Addr) : Prop := Sta Z Z.heap "com/example/buzon/buzon/engine/ApiError" "INVALID_ATTRIBUTE_VALUE" "Lcom/example/buzon/buzon/engine/ApiError;" (.ref wINVALID_ATTRIBUTE_VALUE) ∧ Exa Z Z.heap wINVALID_ATTRIBUTE_VALUE "com/example/buzon/buzon/engine/ApiError" ∧ Fld Z Z.heap wINVALID_ATTRIBUTE_VALUE "java/lang/Enum" "ordinal" "I" (.int (6 : Int32)) ∧ Fld Z Z.heap wINVALID_ATTRIBUTE_VALUE "com/example/buzon/buzon/engine/ApiError" "httpStatus" "I" (.int (400 : Int32))
def own_EN8 (Z : State) (wINVALID_ATTRIBUTE_NAME : Addr) : Prop := Sta Z Z.heap "com/example/buzon/buzon/engine/ApiError" "INVALID_ATTRIBUTE_NAME" "Lcom/example/buzon/buzon/engine/ApiError;" (.ref wINVALID_ATTRIBUTE_NAME) ∧ Exa Z Z.heap wINVALID_ATTRIBUTE_NAME "com/example/buzon/buzon/engine/ApiError" ∧ Fld Z Z.heap wINVALID_ATTRIBUTE_NAME "java/lang/Enum" "ordinal" "I" (.int (7 : Int32)) ∧ Fld Z Z.heap wINVALID_ATTRIBUTE_NAME "com/example/buzon/buzon/engine/ApiError" "httpStatus" "I" (.int (400 : Int32))
def own_EN9 (Z : State) (wQUEUE_ALREADY_EXISTS : Addr) : Prop := Sta Z Z.heap "com/example/buzon/buzon/engine/ApiError" "QUEUE_ALREADY_EXISTS" "Lcom/example/buzon/buzon/engine/ApiError;" (.ref wQUEUE_ALREADY_EXISTS) ∧ Exa Z Z.heap wQUEUE_ALREADY_EXISTS "com/example/buzon/buzon/engine/ApiError" ∧ Fld Z Z.heap wQUEUE_ALREADY_EXISTS "java/lang/Enum" "ordinal" "I" (.int (8 : Int32)) ∧ Fld Z Z.heap wQUEUE_ALREADY_EXISTS "com/example/buzon/buzon/engine/ApiError" "httpStatus" "I" (.int (400 : Int32))
def own_EN10 (Z : State) (wINVALID_MESSAGE_CONTENTS : Addr) : Prop := Sta Z Z.heap "com/example/buzon/buzon/engine/ApiError" "INVALID_MESSAGE_CONTENTS" "Lcom/example/buzon/buzon/engine/ApiError;" (.ref wINVALID_MESSAGE_CONTENTS) ∧ Exa Z Z.heap wINVALID_MESSAGE_CONTENTS "com/example/buzon/buzon/engine/ApiError" ∧ Fld Z Z.heap wINVALID_MESSAGE_CONTENTS "java/lang/Enum" "ordinal" "I" (.int (9 : Int32)) ∧ Fld Z Z.heap wINVALID_MESSAGE_CONTENTS "com/example/buzon/buzon/engine/ApiError" "httpStatus" "I" (.int (400 : Int32))
def own_EN11 (Z : State) (wNON_EXISTENT_QUEUE : Addr) : Prop := Sta Z Z.heap "com/example/buzon/buzon/engine/ApiError" "NON_EXISTENT_QUEUE" "Lcom/example/buzon/buzon/engine/ApiError;" (.ref wNON_EXISTENT_QUEUE) ∧ Exa Z Z.heap wNON_EXISTENT_QUEUE "com/example/buzon/buzon/engine/ApiError" ∧ Fld Z Z.heap wNON_EXISTENT_QUEUE "java/lang/Enum" "ordinal" "I" (.int (10 : Int32)) ∧ Fld Z Z.heap wNON_EXISTENT_QUEUE "com/example/buzon/buzon/engine/ApiError" "httpStatus" "I" (.int (400 : Int32))
def own_EN12 (Z : State) (wRECEIPT_HANDLE_IS_INVALID : Addr) : Prop := Sta Z Z.heap "com/example/buzon/buzon/engine/ApiError" "RECEIPT_HANDLE_IS_INVALID" "Lcom/example/buzon/buzon/engine/ApiError;" (.ref wRECEIPT_HANDLE_IS_INVALID) ∧ Exa Z Z.heap wRECEIPT_HANDLE_IS_INVALID "com/example/buzon/buzon/engine/ApiError" ∧ Fld Z Z.heap wRECEIPT_HANDLE_IS_INVALID "java/lang/Enum" "ordinal" "I" (.int (11 : Int32)) ∧ Fld Z Z.heap wRECEIPT_HANDLE_IS_INVALID "com/example/buzon/buzon/engine/ApiError" "httpStatus" "I" (.int (400 : Int32))
def own_EN13 (Z : State) (wMESSAGE_NOT_INFLIGHT : Addr) : Prop := Sta Z Z.heap "com/example/buzon/buzon/engine/ApiError" "MESSAGE_NOT_INFLIGHT" "Lcom/example/buzon/buzon/engine/ApiError;" (.ref wMESSAGE_NOT_INFLIGHT) ∧ Exa Z Z.heap wMESSAGE_NOT_INFLIGHT "com/example/buzon/buzon/engine/ApiError" ∧ Fld Z Z.heap wMESSAGE_NOT_INFLIGHT "java/lang/Enum" "ordinal" "I" (.int (12 : Int32)) ∧ Fld Z Z.heap wMESSAGE_NOT_INFLIGHT "com/example/buzon/buzon/engine/ApiError" "httpStatus" "I" (.int (400 : Int32))
def own_EN14 (Z : State) (wEMPTY_BATCH_REQUEST : Addr) : Prop := Sta Z Z.heap "com/example/buzon/buzon/engine/ApiError" "EMPTY_BATCH_REQUEST" "Lcom/example/buzon/buzon/engine/ApiError;" (.ref wEMPTY_BATCH_REQUEST) ∧ Exa Z Z.heap wEMPTY_BATCH_REQUEST "com/example/buzon/buzon/engine/ApiError" ∧ Fld Z Z.heap wEMPTY_BATCH_REQUEST "java/lang/Enum" "ordinal" "I" (.int (13 : Int32)) ∧ Fld Z Z.heap wEMPTY_BATCH_REQUEST "com/example/buzon/buzon/engine/ApiError" "httpStatus" "I" (.int (400 : Int32))
def own_EN15 (Z : State) (wTOO_MANY_ENTRIES_IN_BATCH_REQUEST : Addr) : Prop := Sta Z Z.heap "com/example/buzon/buzon/engine/ApiError" "TOO_MANY_ENTRIES_IN_BATCH_REQUEST" "Lcom/example/buzon/buzon/engine/ApiError;" (.ref wTOO_MANY_ENTRIES_IN_BATCH_REQUEST) ∧ Exa Z Z.heap wTOO_MANY_ENTRIES_IN_BATCH_REQUEST "com/example/buzon/buzon/engine/ApiError" ∧ Fld Z Z.heap wTOO_MANY_ENTRIES_IN_BATCH_REQUEST "java/lang/Enum" "ordinal" "I" (.int (14 : Int32)) ∧ Fld Z Z.heap wTOO_MANY_ENTRIES_IN_BATCH_REQUEST "com/example/buzon/buzon/engine/ApiError" "httpStatus" "I" (.int (400 : Int32))
def own_EN16 (Z : State) (wBATCH_ENTRY_IDS_NOT_DISTINCT : Addr) : Prop := Sta Z Z.heap "com/example/buzon/buzon/engine/ApiError" "BATCH_ENTRY_IDS_NOT_DISTINCT" "Lcom/example/buzon/buzon/engine/ApiError;" (.ref wBATCH_ENTRY_IDS_NOT_DISTINCT) ∧ Exa Z Z.heap wBATCH_ENTRY_IDS_NOT_DISTINCT "com/example/buzon/buzon/engine/ApiError" ∧ Fld Z Z.heap wBATCH_ENTRY_IDS_NOT_DISTINCT "java/lang/Enum" "ordinal" "I" (.int (15 : Int32)) ∧ Fld Z Z.heap wBATCH_ENTRY_IDS_NOT_DISTINCT "com/example/buzon/buzon/engine/ApiError" "httpStatus" "I" (.int (400 : Int32))
def own_EN17 (Z : State) (wINVALID_BATCH_ENTRY_ID : Addr) : Prop := Sta Z Z.heap "com/example/buzon/buzon/engine/ApiError" "INVALID_BATCH_ENTRY_ID" "Lcom/example/buzon/buzon/engine/ApiError;" (.ref wINVALID_BATCH_ENTRY_ID) ∧ Exa Z Z.heap wINVALID_BATCH_ENTRY_ID "com/example/buzon/buzon/engine/ApiError" ∧ Fld Z Z.heap wINVALID_BATCH_ENTRY_ID "java/lang/Enum" "ordinal" "I" (.int (16 : Int32)) ∧ Fld Z Z.heap wINVALID_BATCH_ENTRY_ID "com/example/buzon/buzon/engine/ApiError" "httpStatus" "I" (.int (400 : Int32))
def own_EN18 (Z : State) (wBATCH_REQUEST_TOO_LONG : Addr) : Prop := Sta Z Z.heap "com/example/buzon/buzon/engine/ApiError" "BATCH_REQUEST_TOO_LONG" "Lcom/example/buzon/buzon/engine/ApiError;" (.ref wBATCH_REQUEST_TOO_LONG) ∧ Exa Z Z.heap wBATCH_REQUEST_TOO_LONG "com/example/buzon/buzon/engine/ApiError" ∧ Fld Z Z.heap wBATCH_REQUEST_TOO_LONG "java/lang/Enum" "ordinal" "I" (.int (17 : Int32)) ∧ Fld Z Z.heap wBATCH_REQUEST_TOO_LONG "com/example/buzon/buzon/engine/ApiError" "httpStatus" "I" (.int (400 : Int32))
def own_EN19 (Z : State) (wOVER_LIMIT : Addr) : Prop := Sta Z Z.heap "com/example/buzon/buzon/engine/ApiError" "OVER_LIMIT" "Lcom/example/buzon/buzon/engine/ApiError;" (.ref wOVER_LIMIT) ∧ Exa Z Z.heap wOVER_LIMIT "com/example/buzon/buzon/engine/ApiError" ∧ Fld Z Z.heap wOVER_LIMIT "java/lang/Enum" "ordinal" "I" (.int (18 : Int32)) ∧ Fld Z Z.heap wOVER_LIMIT "com/example/buzon/buzon/engine/ApiError" "httpStatus" "I" (.int (403 : Int32))
def own_EN20 (Z : State) (wRESOURCE_NOT_FOUND : Addr) : Prop := Sta Z Z.heap "com/example/buzon/buzon/engine/ApiError" "RESOURCE_NOT_FOUND" "Lcom/example/buzon/buzon/engine/ApiError;" (.ref wRESOURCE_NOT_FOUND) ∧ Exa Z Z.heap wRESOURCE_NOT_FOUND "com/example/buzon/buzon/engine/ApiError" ∧ Fld Z Z.heap wRESOURCE_NOT_FOUND "java/lang/Enum" "ordinal" "I" (.int (19 : Int32)) ∧ Fld Z Z.heap wRESOURCE_NOT_FOUND "com/example/buzon/buzon/engine/ApiError" "httpStatus" "I" (.int (400 : Int32))
def own_EN21 (Z : State) (wUNSUPPORTED_OPERATION : Addr) : Prop := Sta Z Z.heap "com/example/buzon/buzon/engine/ApiError" "UNSUPPORTED_OPERATION" "Lcom/example/buzon/buzon/engine/ApiError;" (.ref wUNSUPPORTED_OPERATION) ∧ Exa Z Z.heap wUNSUPPORTED_OPERATION "com/example/buzon/buzon/engine/ApiError" ∧ Fld Z Z.heap wUNSUPPORTED_OPERATION "java/lang/Enum" "ordinal" "I" (.int (20 : Int32)) ∧ Fld Z Z.heap wUNSUPPORTED_OPERATION "com/example/buzon/buzon/engine/ApiError" "httpStatus" "I" (.int (400 : Int32))
def own_EN22 (Z : State) (wMISSING_AUTHENTICATION_TOKEN : Addr) : Prop := Sta Z Z.heap "com/example/buzon/buzon/engine/ApiError" "MISSING_AUTHENTICATION_TOKEN" "Lcom/example/buzon/buzon/engine/ApiError;" (.ref wMISSING_AUTHENTICATION_TOKEN) ∧ Exa Z Z.heap wMISSING_AUTHENTICATION_TOKEN "com/example/buzon/buzon/engine/ApiError" ∧ Fld Z Z.heap wMISSING_AUTHENTICATION_TOKEN "java/lang/Enum" "ordinal" "I" (.int (21 : Int32)) ∧ Fld Z Z.heap wMISSING_AUTHENTICATION_TOKEN "com/example/buzon/buzon/engine/ApiError" "httpStatus" "I" (.int (403 : Int32))
def own_EN23 (Z : State) (wINCOMPLETE_SIGNATURE : Addr) : Prop := Sta Z Z.heap "com/example/buzon/buzon/engine/ApiError" "INCOMPLETE_SIGNATURE" "Lcom/example/buzon/buzon/engine/ApiError;" (.ref wINCOMPLETE_SIGNATURE) ∧ Exa Z Z.heap wINCOMPLETE_SIGNATURE "com/example/buzon/buzon/engine/ApiError" ∧ Fld Z Z.heap wINCOMPLETE_SIGNATURE "java/lang/Enum" "ordinal" "I" (.int (22 : Int32)) ∧ Fld Z Z.heap wINCOMPLETE_SIGNATURE "com/example/buzon/buzon/engine/ApiError" "httpStatus" "I" (.int (400 : Int32))
def own_EN24 (Z : State) (wINVALID_CLIENT_TOKEN_ID : Addr) : Prop := Sta Z Z.heap "com/example/buzon/buzon/engine/ApiError" "INVALID_CLIENT_TOKEN_ID" "Lcom/example/buzon/buzon/engine/ApiError;" (.ref wINVALID_CLIENT_TOKEN_ID) ∧ Exa Z Z.heap wINVALID_CLIENT_TOKEN_ID "com/example/buzon/buzon/engine/ApiError" ∧ Fld Z Z.heap wINVALID_CLIENT_TOKEN_ID "java/lang/Enum" "ordinal" "I" (.int (23 : Int32)) ∧ Fld Z Z.heap wINVALID_CLIENT_TOKEN_ID "com/example/buzon/buzon/engine/ApiError" "httpStatus" "I" (.int (403 : Int32))
def own_EN25 (Z : State) (wREQUEST_EXPIRED : Addr) : Prop := Sta Z Z.heap "com/example/buzon/buzon/engine/ApiError" "REQUEST_EXPIRED" "Lcom/example/buzon/buzon/engine/ApiError;" (.ref wREQUEST_EXPIRED) ∧ Exa Z Z.heap wREQUEST_EXPIRED "com/example/buzon/buzon/engine/ApiError" ∧ Fld Z Z.heap wREQUEST_EXPIRED "java/lang/Enum" "ordinal" "I" (.int (24 : Int32)) ∧ Fld Z Z.heap wREQUEST_EXPIRED "com/example/buzon/buzon/engine/ApiError" "httpStatus" "I" (.int (400 : Int32))
def own_EN26 (Z : State) (wSIGNATURE_DOES_NOT_MATCH : Addr) : Prop := Sta Z Z.heap "com/example/buzon/buzon/engine/ApiError" "SIGNATURE_DOES_NOT_MATCH" "Lcom/example/buzon/buzon/engine/ApiError;" (.ref wSIGNATURE_DOES_NOT_MATCH) ∧ Exa Z Z.heap wSIGNATURE_DOES_NOT_MATCH "com/example/buzon/buzon/engine/ApiError" ∧ Fld Z Z.heap wSIGNATURE_DOES_NOT_MATCH "java/lang/Enum" "ordinal" "I" (.int (25 : Int32)) ∧ Fld Z Z.heap wSIGNATURE_DOES_NOT_MATCH "com/example/buzon/buzon/engine/ApiError" "httpStatus" "I" (.int (403 : Int32))
def own_EN27 (Z : State) (wSERVICE_UNAVAILABLE : Addr) : Prop := Sta Z Z.heap "com/example/buzon/buzon/engine/ApiError" "SERVICE_UNAVAILABLE" "Lcom/example/buzon/buzon/engine/ApiError;" (.ref wSERVICE_UNAVAILABLE) ∧ Exa Z Z.heap wSERVICE_UNAVAILABLE "com/example/buzon/buzon/engine/ApiError" ∧ Fld Z Z.heap wSERVICE_UNAVAILABLE "java/lang/Enum" "ordinal" "I" (.int (26 : Int32)) ∧ Fld Z Z.heap wSERVICE_UNAVAILABLE "com/example/buzon/buzon/engine/ApiError" "httpStatus" "I" (.int (503 : Int32))
def own_EN28 (Z : State) (wINTERNAL_FAILURE : Addr) : Prop := Sta Z Z.heap "com/example/buzon/buzon/engine/ApiError" "INTERNAL_FAILURE" "Lcom/example/buzon/buzon/engine/ApiError;" (.ref wINTERNAL_FAILURE) ∧ Exa Z Z.heap wINTERNAL_FAILURE "com/example/buzon/buzon/engine/ApiError" ∧ Fld Z Z.heap wINTERNAL_FAILURE "java/lang/Enum" "ordinal" "I" (.int (27 : Int32)) ∧ Fld Z Z.heap wINTERNAL_FAILURE "com/example/buzon/buzon/engine/ApiError" "httpStatus" "I" (.int (500 : Int32))
def own_EN (Z : State) (wMISSING_ACTION : Addr) (wINVALID_ACTION : Addr) (wMALFORMED_QUERY_STRING : Addr) (wINVALID_ADDRESS : Addr) (wMISSING_PARAMETER : Addr) (wINVALID_PARAMETER_VALUE : Addr) (wINVALID_ATTRIBUTE_VALUE : Addr) (wINVALID_ATTRIBUTE_NAME : Addr) (wQUEUE_ALREADY_EXISTS : Addr) (wINVALID_MESSAGE_CONTENTS : Addr) (wNON_EXISTENT_QUEUE : Addr) (wRECEIPT_HANDLE_IS_INVALID : Addr) (wMESSAGE_NOT_INFLIGHT : Addr) (wEMPTY_BATCH_REQUEST : Addr) (wTOO_MANY_ENTRIES_IN_BATCH_REQUEST : Addr) (wBATCH_ENTRY_IDS_NOT_DISTINCT : Addr) (wINVALID_BATCH_ENTRY_ID : Addr) (wBATCH_REQUEST_TOO_LONG : Addr) (wOVER_LIMIT : Addr) (wRESOURCE_NOT_FOUND : Addr) (wUNSUPPORTED_OPERATION : Addr) (wMISSING_AUTHENTICATION_TOKEN : Addr) (wINCOMPLETE_SIGNATURE : Addr) (wINVALID_CLIENT_TOKEN_ID : Addr) (wREQUEST_EXPIRED : Addr) (wSIGNATURE_DOES_NOT_MATCH : Addr) (wSERVICE_UNAVAILABLE : Addr) (wINTERNAL_FAILURE : Addr) : Prop := own_EN1 Z wMISSING_ACTION ∧ own_EN2 Z wINVALID_ACTION ∧ own_EN3 Z wMALFORMED_QUERY_STRING ∧ own_EN4 Z wINVALID_ADDRESS ∧ own_EN5 Z wMISSING_PARAMETER ∧ own_EN6 Z wINVALID_PARAMETER_VALUE ∧ own_EN7 Z wINVALID_ATTRIBUTE_VALUE ∧ own_EN8 Z wINVALID_ATTRIBUTE_NAME ∧ own_EN9 Z wQUEUE_ALREADY_EXISTS ∧ own_EN10 Z wINVALID_MESSAGE_CONTENTS ∧ own_EN11 Z wNON_EXISTENT_QUEUE ∧ own_EN12 Z wRECEIPT_HANDLE_IS_INVALID ∧ own_EN13 Z wMESSAGE_NOT_INFLIGHT ∧ own_EN14 Z wEMPTY_BATCH_REQUEST ∧ own_EN15 Z wTOO_MANY_ENTRIES_IN_BATCH_REQUEST ∧ own_EN16 Z wBATCH_ENTRY_IDS_NOT_DISTINCT ∧ own_EN17 Z wINVALID_BATCH_ENTRY_ID ∧ own_EN18 Z wBATCH_REQUEST_TOO_LONG ∧ own_EN19 Z wOVER_LIMIT ∧ own_EN20 Z wRESOURCE_NOT_FOUND ∧ own_EN21 Z wUNSUPPORTED_OPERATION ∧ own_EN22 Z wMISSING_AUTHENTICATION_TOKEN ∧ own_EN23 Z wINCOMPLETE_SIGNATURE ∧ own_EN24 Z wINVALID_CLIENT_TOKEN_ID ∧ own_EN25 Z wREQUEST_EXPIRED ∧ own_EN26 Z wSIGNATURE_DOES_NOT_MATCH ∧ own_EN27 Z wSERVICE_UNAVAILABLE ∧ own_EN28 Z wINTERNAL_FAILURE
theorem d1_0 : decode prog_1_method_7_code 0 = .ok (.aload_n 0, 1) := by decide +kernel
theorem d1_1 : decode prog_1_method_7_code 1 = .ok (.getfield 114, 3) := by decide +kernel
theorem d1_4 : decode prog_1_method_7_code 4 = .ok (.sipush 500, 3) := by decide +kernel
theorem d1_7 : decode prog_1_method_7_code 7 = .ok (.if_icmp .ge 7, 3) := by decide +kernel
theorem d1_10 : decode prog_1_method_7_code 10 = .ok (.iconst 1, 1) := by decide +kernel
theorem d1_11 : decode prog_1_method_7_code 11 = .ok (.goto 4, 3) := by decide +kernel
theorem d1_14 : decode prog_1_method_7_code 14 = .ok (.iconst 0, 1) := by decide +kernel
theorem d1_15 : decode prog_1_method_7_code 15 = .ok (.ireturn, 1) := by decide +kernel
theorem pn_com_example_buzon_buzon_engine_ApiError : plainName "com/example/buzon/buzon/engine/ApiError" = true := by first | (simp [plainName, overriddenIn]; done) | decide +kernel
def own_F1 (w_httpStatus_a1_0 : Int32) : Int32 := (if w_httpStatus_a1_0 < (500 : Int32) then (1 : Int32) else (0 : Int32))
theorem own_ef1 (m : MethodId) (x0 : Addr) : entryFrame m #[(.ref x0)] 1 = mkF m 0 #[.val (.ref x0)] [] := by first | (simp [entryFrame, mkF, argsToLocals, Value.category]; done) | rfl
def own_Q1 (r : Int32) (h0 : Heap) (n0 : Nat) (v : Option Value) (h : Heap) (L : List Loc) : Prop := v = some (.int r) ∧ Fr n0 L ∧ h = h0
set_option maxRecDepth 65536 in
set_option maxHeartbeats 40000000 in
theorem own_rm1 (l : Launch) (Z : State) (a0 : Array Value) (hw : ∀ d ∈ tables_1, d.before a0 Z = true) (ws : List Jvm.Cond) (a1_0 : Addr) (w_httpStatus_a1_0 : Int32) (h0 : Heap) (n0 : Nat) (Z0 : n0 ≤ h0.size) (F_httpStatus_a1_0 : Fld Z h0 a1_0 "com/example/buzon/buzon/engine/ApiError" "httpStatus" "I" (.int w_httpStatus_a1_0)) :
    MetFree l (⟨"com/example/buzon/buzon/engine/ApiError", "senderFault", "()Z"⟩ : MethodName) (head1 (Jvm.Cond.code (⟨"com/example/buzon/buzon/engine/ApiError", "senderFault", "()Z"⟩ : MethodName) prog_1_method_7_code 1 (some .boolean) :: ws) ({ frames := 0, cells := 0, slots := 0, locals := 0 } : Room)) (fun a U => a = #[(.ref a1_0)] ∧ Z.Warmed39 U.vm ∧ U.heap = h0) (fun _ _ _ _ _ => True) (fun _ U o U' => ∃ v L, o = .returned v ∧ own_Q1 (own_F1 w_httpStatus_a1_0) h0 n0 v U'.heap L ∧ FrameEnd U o U' L ({ frames := 0, cells := 0, slots := 0, locals := 0 } : Room).cells ({ frames := 0, cells := 0, slots := 0, locals := 0 } : Room).slots) := by
  refine MetFree.of_bodySF (plainFor_of_name pn_com_example_buzon_buzon_engine_ApiError) hisR ?_
  intro p e s m args below meth c s₁ Bd hml0 hP hK
  obtain ⟨rfl, hZ, hh⟩ := hP
  have hx := Bd.exec
  have hby := Bd.bytes
  have hlk : meth.locks = false := BodyLoose.notSynchronized Bd
  have hml : c.maxLocals = 1 := hml0
  have hown : s.vm.findClass "com/example/buzon/buzon/engine/ApiError" = some m.cls := findClass_of_methodNamed Bd.named
  have hnm := (name_of_methodNamed Bd.named Bd.method).1
  have X0 : Stand p l e ({ frames := 0, cells := 0, slots := 0, locals := 0 } : Room) s m #[(.ref a1_0)] below meth c s₁ [] 0 0 := Stand.of_body Bd
  have e0 : s₁.heap = h0 := by rw [← hh, Bd.state]; rfl
  have N0 := Fr.nil n0
  show own_Go p e below (own_P s below ({ frames := 0, cells := 0, slots := 0, locals := 0 } : Room) (own_Q1 (own_F1 w_httpStatus_a1_0) h0 n0)) s₁ (entryFrame m #[(.ref a1_0)] 1)
  refine own_in (own_ef1 m a1_0) ?_
  refine own_by (T' := s₁) (g' := (mkF m 1 #[.val (.ref a1_0)] [(.ref a1_0)])) (fun t k => ?_) ?_
  · show Steps p.tables e below (s₁.setTop (mkF m 0 #[.val (.ref a1_0)] [])) t
    refine XS.aloadN X0.here hx rfl (hb hby d1_0) rfl rfl ?_
    show Steps p.tables e below (s₁.setTop (mkF m 1 #[.val (.ref a1_0)] [(.ref a1_0)])) t
    exact k
  obtain ⟨T1, X1, e1, st1⟩ := getF X0 hx hZ hown (host := "") (Or.inl (hw _ (List.mem_of_getElem? (i := 66) rfl))) Via.refl e0 F_httpStatus_a1_0 (g := (mkF m 1 #[.val (.ref a1_0)] [(.ref a1_0)])) rfl rfl (hb hby d1_1)
  refine own_by (T' := T1) (g' := (mkF m 4 #[.val (.ref a1_0)] [(.int w_httpStatus_a1_0)])) st1 ?_
  refine own_by (T' := T1) (g' := (mkF m 7 #[.val (.ref a1_0)] [(.int (500 : Int32)), (.int w_httpStatus_a1_0)])) (fun t k => ?_) ?_
  · show Steps p.tables e below (T1.setTop (mkF m 4 #[.val (.ref a1_0)] [(.int w_httpStatus_a1_0)])) t
    refine XS.sipush X1.here hx rfl (hb hby d1_4) ?_
    show Steps p.tables e below (T1.setTop (mkF m 7 #[.val (.ref a1_0)] [(.int (500 : Int32)), (.int w_httpStatus_a1_0)])) t
    exact k
  by_cases hc2 : w_httpStatus_a1_0 < (500 : Int32)
  · skip
    refine own_by (T' := T1) (g' := (mkF m 15 #[.val (.ref a1_0)] [(.int (1 : Int32))])) (fun t k => ?_) ?_
    · show Steps p.tables e below (T1.setTop (mkF m 7 #[.val (.ref a1_0)] [(.int (500 : Int32)), (.int w_httpStatus_a1_0)])) t
      refine XS.icmpNo X1.here hx rfl (hb hby d1_7) rfl (tlt hc2).2.1 ?_
      show Steps p.tables e below (T1.setTop (mkF m 10 #[.val (.ref a1_0)] [])) t
      refine XS.iconst X1.here hx rfl (hb hby d1_10) ?_
      show Steps p.tables e below (T1.setTop (mkF m 11 #[.val (.ref a1_0)] [(.int (1 : Int32))])) t
      refine XS.goto X1.here hx rfl (pc0 := 11) (pc' := 15) rfl (hb hby d1_11) (by decide) (by decide) ?_
      show Steps p.tables e below (T1.setTop (mkF m 15 #[.val (.ref a1_0)] [(.int (1 : Int32))])) t
      exact k
    rw [show own_F1 w_httpStatus_a1_0 = (1 : Int32) from ((if_pos hc2).trans rfl)]
    exact own_retN X1 hx (t := .boolean) Bd.returns (by simp) (hb hby d1_15) hlk (by decide) (by decide) ⟨rfl, N0, e1⟩
  · skip
    refine own_by (T' := T1) (g' := (mkF m 15 #[.val (.ref a1_0)] [(.int (0 : Int32))])) (fun t k => ?_) ?_
    · show Steps p.tables e below (T1.setTop (mkF m 7 #[.val (.ref a1_0)] [(.int (500 : Int32)), (.int w_httpStatus_a1_0)])) t
      refine XS.icmpYes X1.here hx rfl (pc0 := 7) (pc' := 14) rfl (hb hby d1_7) rfl (flt hc2).2.1 (by decide) (by decide) ?_
      show Steps p.tables e below (T1.setTop (mkF m 14 #[.val (.ref a1_0)] [])) t
      refine XS.iconst X1.here hx rfl (hb hby d1_14) ?_
      show Steps p.tables e below (T1.setTop (mkF m 15 #[.val (.ref a1_0)] [(.int (0 : Int32))])) t
      exact k
    rw [show own_F1 w_httpStatus_a1_0 = (0 : Int32) from ((if_neg hc2).trans rfl)]
    exact own_retN X1 hx (t := .boolean) Bd.returns (by simp) (hb hby d1_15) hlk (by decide) (by decide) ⟨rfl, N0, e1⟩
theorem d2_0 : decode prog_1_method_6_code 0 = .ok (.aload_n 0, 1) := by decide +kernel
theorem d2_1 : decode prog_1_method_6_code 1 = .ok (.getfield 114, 3) := by decide +kernel
theorem d2_4 : decode prog_1_method_6_code 4 = .ok (.ireturn, 1) := by decide +kernel
def own_F2 (w_httpStatus_a2_0 : Int32) : Int32 := w_httpStatus_a2_0
theorem own_ef2 (m : MethodId) (x0 : Addr) : entryFrame m #[(.ref x0)] 1 = mkF m 0 #[.val (.ref x0)] [] := by first | (simp [entryFrame, mkF, argsToLocals, Value.category]; done) | rfl
def own_Q2 (r : Int32) (h0 : Heap) (n0 : Nat) (v : Option Value) (h : Heap) (L : List Loc) : Prop := v = some (.int r) ∧ Fr n0 L ∧ h = h0
set_option maxRecDepth 65536 in
set_option maxHeartbeats 40000000 in
theorem own_rm2 (l : Launch) (Z : State) (a0 : Array Value) (hw : ∀ d ∈ tables_1, d.before a0 Z = true) (ws : List Jvm.Cond) (a2_0 : Addr) (w_httpStatus_a2_0 : Int32) (h0 : Heap) (n0 : Nat) (Z0 : n0 ≤ h0.size) (F_httpStatus_a2_0 : Fld Z h0 a2_0 "com/example/buzon/buzon/engine/ApiError" "httpStatus" "I" (.int w_httpStatus_a2_0)) :
    MetFree l (⟨"com/example/buzon/buzon/engine/ApiError", "httpStatus", "()I"⟩ : MethodName) (head1 (Jvm.Cond.code (⟨"com/example/buzon/buzon/engine/ApiError", "httpStatus", "()I"⟩ : MethodName) prog_1_method_6_code 1 (some .int) :: ws) ({ frames := 0, cells := 0, slots := 0, locals := 0 } : Room)) (fun a U => a = #[(.ref a2_0)] ∧ Z.Warmed39 U.vm ∧ U.heap = h0) (fun _ _ _ _ _ => True) (fun _ U o U' => ∃ v L, o = .returned v ∧ own_Q2 (own_F2 w_httpStatus_a2_0) h0 n0 v U'.heap L ∧ FrameEnd U o U' L ({ frames := 0, cells := 0, slots := 0, locals := 0 } : Room).cells ({ frames := 0, cells := 0, slots := 0, locals := 0 } : Room).slots) := by
  refine MetFree.of_bodySF (plainFor_of_name pn_com_example_buzon_buzon_engine_ApiError) hisR ?_
  intro p e s m args below meth c s₁ Bd hml0 hP hK
  obtain ⟨rfl, hZ, hh⟩ := hP
  have hx := Bd.exec
  have hby := Bd.bytes
  have hlk : meth.locks = false := BodyLoose.notSynchronized Bd
  have hml : c.maxLocals = 1 := hml0
  have hown : s.vm.findClass "com/example/buzon/buzon/engine/ApiError" = some m.cls := findClass_of_methodNamed Bd.named
  have hnm := (name_of_methodNamed Bd.named Bd.method).1
  have X0 : Stand p l e ({ frames := 0, cells := 0, slots := 0, locals := 0 } : Room) s m #[(.ref a2_0)] below meth c s₁ [] 0 0 := Stand.of_body Bd
  have e0 : s₁.heap = h0 := by rw [← hh, Bd.state]; rfl
  have N0 := Fr.nil n0
  show own_Go p e below (own_P s below ({ frames := 0, cells := 0, slots := 0, locals := 0 } : Room) (own_Q2 (own_F2 w_httpStatus_a2_0) h0 n0)) s₁ (entryFrame m #[(.ref a2_0)] 1)
  refine own_in (own_ef2 m a2_0) ?_
  refine own_by (T' := s₁) (g' := (mkF m 1 #[.val (.ref a2_0)] [(.ref a2_0)])) (fun t k => ?_) ?_
  · show Steps p.tables e below (s₁.setTop (mkF m 0 #[.val (.ref a2_0)] [])) t
    refine XS.aloadN X0.here hx rfl (hb hby d2_0) rfl rfl ?_
    show Steps p.tables e below (s₁.setTop (mkF m 1 #[.val (.ref a2_0)] [(.ref a2_0)])) t
    exact k
  obtain ⟨T3, X3, e3, st3⟩ := getF X0 hx hZ hown (host := "") (Or.inl (hw _ (List.mem_of_getElem? (i := 66) rfl))) Via.refl e0 F_httpStatus_a2_0 (g := (mkF m 1 #[.val (.ref a2_0)] [(.ref a2_0)])) rfl rfl (hb hby d2_1)
  refine own_by (T' := T3) (g' := (mkF m 4 #[.val (.ref a2_0)] [(.int w_httpStatus_a2_0)])) st3 ?_
  rw [show own_F2 w_httpStatus_a2_0 = w_httpStatus_a2_0 from rfl]
  exact own_retI X3 hx Bd.returns (hb hby d2_4) hlk (by decide) (by decide) ⟨rfl, N0, e3⟩
theorem own_and_le (x m : Int32) (k : Nat) (hm : m.toBitVec.toNat = k) (hk : k < 2147483648) : 0 ≤ (x &&& m).toInt ∧ (x &&& m).toInt ≤ k := by
  have h1 : (x &&& m).toBitVec.toNat ≤ k := by
    rw [Int32.toBitVec_and, BitVec.toNat_and, hm]; exact Nat.and_le_right
  have h2 : (x &&& m).toInt = ((x &&& m).toBitVec.toNat : Int) := BitVec.toInt_eq_toNat_of_lt (by omega)
  omega
theorem own_idx (x : Int32) : ¬ ((x &&& (2147483647 : Int32)) % (28 : Int32)) < 0 ∧ ((x &&& (2147483647 : Int32)) % (28 : Int32)) < (28 : Int32) := by
  have h := (own_and_le x 2147483647 2147483647 (by decide) (by decide)).1
  generalize (x &&& (2147483647 : Int32)) = y at h ⊢
  rw [Int32.lt_iff_toInt_lt, Int32.lt_iff_toInt_lt, Int32.toInt_mod]
  have e14 : (28 : Int32).toInt = 28 := by decide
  have e0 : (0 : Int32).toInt = 0 := by decide
  rw [e14, e0, Int.tmod_eq_emod_of_nonneg h]
  omega
theorem own_nat (j : Int32) (hj : ¬ j < 0 ∧ j < (28 : Int32)) : j.toNatClampNeg < 28 := by
  obtain ⟨h1, h2⟩ := hj
  rw [Int32.lt_iff_toInt_lt, show (0 : Int32).toInt = 0 from by decide] at h1
  rw [Int32.lt_iff_toInt_lt, show (28 : Int32).toInt = 28 from by decide] at h2
  show j.toInt.toNat < 28
  omega

theorem pd___Z : parseMethodDescriptor "()Z" = some ⟨[], some .boolean⟩ := by decide +kernel
theorem pd___I : parseMethodDescriptor "()I" = some ⟨[], some .int⟩ := by decide +kernel
theorem pn_com_example_buzon_buzon_engine_ApiErrorSenderFaultPinLaw : plainName "com/example/buzon/buzon/engine/ApiErrorSenderFaultPinLaw" = true := by first | (simp [plainName, overriddenIn]; done) | decide +kernel
theorem own_pick (Z : State) (wMISSING_ACTION : Addr) (wINVALID_ACTION : Addr) (wMALFORMED_QUERY_STRING : Addr) (wINVALID_ADDRESS : Addr) (wMISSING_PARAMETER : Addr) (wINVALID_PARAMETER_VALUE : Addr) (wINVALID_ATTRIBUTE_VALUE : Addr) (wINVALID_ATTRIBUTE_NAME : Addr) (wQUEUE_ALREADY_EXISTS : Addr) (wINVALID_MESSAGE_CONTENTS : Addr) (wNON_EXISTENT_QUEUE : Addr) (wRECEIPT_HANDLE_IS_INVALID : Addr) (wMESSAGE_NOT_INFLIGHT : Addr) (wEMPTY_BATCH_REQUEST : Addr) (wTOO_MANY_ENTRIES_IN_BATCH_REQUEST : Addr) (wBATCH_ENTRY_IDS_NOT_DISTINCT : Addr) (wINVALID_BATCH_ENTRY_ID : Addr) (wBATCH_REQUEST_TOO_LONG : Addr) (wOVER_LIMIT : Addr) (wRESOURCE_NOT_FOUND : Addr) (wUNSUPPORTED_OPERATION : Addr) (wMISSING_AUTHENTICATION_TOKEN : Addr) (wINCOMPLETE_SIGNATURE : Addr) (wINVALID_CLIENT_TOKEN_ID : Addr) (wREQUEST_EXPIRED : Addr) (wSIGNATURE_DOES_NOT_MATCH : Addr) (wSERVICE_UNAVAILABLE : Addr) (wINTERNAL_FAILURE : Addr) (EN : own_EN Z wMISSING_ACTION wINVALID_ACTION wMALFORMED_QUERY_STRING wINVALID_ADDRESS wMISSING_PARAMETER wINVALID_PARAMETER_VALUE wINVALID_ATTRIBUTE_VALUE wINVALID_ATTRIBUTE_NAME wQUEUE_ALREADY_EXISTS wINVALID_MESSAGE_CONTENTS wNON_EXISTENT_QUEUE wRECEIPT_HANDLE_IS_INVALID wMESSAGE_NOT_INFLIGHT wEMPTY_BATCH_REQUEST wTOO_MANY_ENTRIES_IN_BATCH_REQUEST wBATCH_ENTRY_IDS_NOT_DISTINCT wINVALID_BATCH_ENTRY_ID wBATCH_REQUEST_TOO_LONG wOVER_LIMIT wRESOURCE_NOT_FOUND wUNSUPPORTED_OPERATION wMISSING_AUTHENTICATION_TOKEN wINCOMPLETE_SIGNATURE wINVALID_CLIENT_TOKEN_ID wREQUEST_EXPIRED wSIGNATURE_DOES_NOT_MATCH wSERVICE_UNAVAILABLE wINTERNAL_FAILURE) (j : Int32) (hj : ¬ j < 0 ∧ j < (28 : Int32)) : (([(.ref wMISSING_ACTION), (.ref wINVALID_ACTION), (.ref wMALFORMED_QUERY_STRING), (.ref wINVALID_ADDRESS), (.ref wMISSING_PARAMETER), (.ref wINVALID_PARAMETER_VALUE), (.ref wINVALID_ATTRIBUTE_VALUE), (.ref wINVALID_ATTRIBUTE_NAME), (.ref wQUEUE_ALREADY_EXISTS), (.ref wINVALID_MESSAGE_CONTENTS), (.ref wNON_EXISTENT_QUEUE), (.ref wRECEIPT_HANDLE_IS_INVALID), (.ref wMESSAGE_NOT_INFLIGHT), (.ref wEMPTY_BATCH_REQUEST), (.ref wTOO_MANY_ENTRIES_IN_BATCH_REQUEST), (.ref wBATCH_ENTRY_IDS_NOT_DISTINCT), (.ref wINVALID_BATCH_ENTRY_ID), (.ref wBATCH_REQUEST_TOO_LONG), (.ref wOVER_LIMIT), (.ref wRESOURCE_NOT_FOUND), (.ref wUNSUPPORTED_OPERATION), (.ref wMISSING_AUTHENTICATION_TOKEN), (.ref wINCOMPLETE_SIGNATURE), (.ref wINVALID_CLIENT_TOKEN_ID), (.ref wREQUEST_EXPIRED), (.ref wSIGNATURE_DOES_NOT_MATCH), (.ref wSERVICE_UNAVAILABLE), (.ref wINTERNAL_FAILURE)] : List Value).getD j.toNatClampNeg .null = .ref wSERVICE_UNAVAILABLE) ∨ (([(.ref wMISSING_ACTION), (.ref wINVALID_ACTION), (.ref wMALFORMED_QUERY_STRING), (.ref wINVALID_ADDRESS), (.ref wMISSING_PARAMETER), (.ref wINVALID_PARAMETER_VALUE), (.ref wINVALID_ATTRIBUTE_VALUE), (.ref wINVALID_ATTRIBUTE_NAME), (.ref wQUEUE_ALREADY_EXISTS), (.ref wINVALID_MESSAGE_CONTENTS), (.ref wNON_EXISTENT_QUEUE), (.ref wRECEIPT_HANDLE_IS_INVALID), (.ref wMESSAGE_NOT_INFLIGHT), (.ref wEMPTY_BATCH_REQUEST), (.ref wTOO_MANY_ENTRIES_IN_BATCH_REQUEST), (.ref wBATCH_ENTRY_IDS_NOT_DISTINCT), (.ref wINVALID_BATCH_ENTRY_ID), (.ref wBATCH_REQUEST_TOO_LONG), (.ref wOVER_LIMIT), (.ref wRESOURCE_NOT_FOUND), (.ref wUNSUPPORTED_OPERATION), (.ref wMISSING_AUTHENTICATION_TOKEN), (.ref wINCOMPLETE_SIGNATURE), (.ref wINVALID_CLIENT_TOKEN_ID), (.ref wREQUEST_EXPIRED), (.ref wSIGNATURE_DOES_NOT_MATCH), (.ref wSERVICE_UNAVAILABLE), (.ref wINTERNAL_FAILURE)] : List Value).getD j.toNatClampNeg .null = .ref wINTERNAL_FAILURE) ∨ ∃ (a : Addr) (hs : Int32), ([(.ref wMISSING_ACTION), (.ref wINVALID_ACTION), (.ref wMALFORMED_QUERY_STRING), (.ref wINVALID_ADDRESS), (.ref wMISSING_PARAMETER), (.ref wINVALID_PARAMETER_VALUE), (.ref wINVALID_ATTRIBUTE_VALUE), (.ref wINVALID_ATTRIBUTE_NAME), (.ref wQUEUE_ALREADY_EXISTS), (.ref wINVALID_MESSAGE_CONTENTS), (.ref wNON_EXISTENT_QUEUE), (.ref wRECEIPT_HANDLE_IS_INVALID), (.ref wMESSAGE_NOT_INFLIGHT), (.ref wEMPTY_BATCH_REQUEST), (.ref wTOO_MANY_ENTRIES_IN_BATCH_REQUEST), (.ref wBATCH_ENTRY_IDS_NOT_DISTINCT), (.ref wINVALID_BATCH_ENTRY_ID), (.ref wBATCH_REQUEST_TOO_LONG), (.ref wOVER_LIMIT), (.ref wRESOURCE_NOT_FOUND), (.ref wUNSUPPORTED_OPERATION), (.ref wMISSING_AUTHENTICATION_TOKEN), (.ref wINCOMPLETE_SIGNATURE), (.ref wINVALID_CLIENT_TOKEN_ID), (.ref wREQUEST_EXPIRED), (.ref wSIGNATURE_DOES_NOT_MATCH), (.ref wSERVICE_UNAVAILABLE), (.ref wINTERNAL_FAILURE)] : List Value).getD j.toNatClampNeg .null = .ref a ∧ Exa Z Z.heap a "com/example/buzon/buzon/engine/ApiError" ∧ Fld Z Z.heap a "com/example/buzon/buzon/engine/ApiError" "httpStatus" "I" (.int hs) ∧ a ≠ wSERVICE_UNAVAILABLE ∧ a ≠ wINTERNAL_FAILURE ∧ hs < (500 : Int32) := by
  have hn : j.toNatClampNeg < 28 := own_nat j hj
  generalize j.toNatClampNeg = n at hn ⊢
  match n, hn with
  | 0, _ => exact Or.inr (Or.inr ⟨wMISSING_ACTION, (400 : Int32), rfl, EN.1.2.1, EN.1.2.2.2, Fld.ne EN.1.2.2.2 EN.2.2.2.2.2.2.2.2.2.2.2.2.2.2.2.2.2.2.2.2.2.2.2.2.2.2.1.2.2.2 (fun q => absurd (Value.int.inj q) (by decide)), Fld.ne EN.1.2.2.2 EN.2.2.2.2.2.2.2.2.2.2.2.2.2.2.2.2.2.2.2.2.2.2.2.2.2.2.2.2.2.2 (fun q => absurd (Value.int.inj q) (by decide)), by decide⟩)
  | 1, _ => exact Or.inr (Or.inr ⟨wINVALID_ACTION, (400 : Int32), rfl, EN.2.1.2.1, EN.2.1.2.2.2, Fld.ne EN.2.1.2.2.2 EN.2.2.2.2.2.2.2.2.2.2.2.2.2.2.2.2.2.2.2.2.2.2.2.2.2.2.1.2.2.2 (fun q => absurd (Value.int.inj q) (by decide)), Fld.ne EN.2.1.2.2.2 EN.2.2.2.2.2.2.2.2.2.2.2.2.2.2.2.2.2.2.2.2.2.2.2.2.2.2.2.2.2.2 (fun q => absurd (Value.int.inj q) (by decide)), by decide⟩)
  | 2, _ => exact Or.inr (Or.inr ⟨wMALFORMED_QUERY_STRING, (400 : Int32), rfl, EN.2.2.1.2.1, EN.2.2.1.2.2.2, Fld.ne EN.2.2.1.2.2.2 EN.2.2.2.2.2.2.2.2.2.2.2.2.2.2.2.2.2.2.2.2.2.2.2.2.2.2.1.2.2.2 (fun q => absurd (Value.int.inj q) (by decide)), Fld.ne EN.2.2.1.2.2.2 EN.2.2.2.2.2.2.2.2.2.2.2.2.2.2.2.2.2.2.2.2.2.2.2.2.2.2.2.2.2.2 (fun q => absurd (Value.int.inj q) (by decide)), by decide⟩)
  | 3, _ => exact Or.inr (Or.inr ⟨wINVALID_ADDRESS, (400 : Int32), rfl, EN.2.2.2.1.2.1, EN.2.2.2.1.2.2.2, Fld.ne EN.2.2.2.1.2.2.2 EN.2.2.2.2.2.2.2.2.2.2.2.2.2.2.2.2.2.2.2.2.2.2.2.2.2.2.1.2.2.2 (fun q => absurd (Value.int.inj q) (by decide)), Fld.ne EN.2.2.2.1.2.2.2 EN.2.2.2.2.2.2.2.2.2.2.2.2.2.2.2.2.2.2.2.2.2.2.2.2.2.2.2.2.2.2 (fun q => absurd (Value.int.inj q) (by decide)), by decide⟩)
  | 4, _ => exact Or.inr (Or.inr ⟨wMISSING_PARAMETER, (400 : Int32), rfl, EN.2.2.2.2.1.2.1, EN.2.2.2.2.1.2.2.2, Fld.ne EN.2.2.2.2.1.2.2.2 EN.2.2.2.2.2.2.2.2.2.2.2.2.2.2.2.2.2.2.2.2.2.2.2.2.2.2.1.2.2.2 (fun q => absurd (Value.int.inj q) (by decide)), Fld.ne EN.2.2.2.2.1.2.2.2 EN.2.2.2.2.2.2.2.2.2.2.2.2.2.2.2.2.2.2.2.2.2.2.2.2.2.2.2.2.2.2 (fun q => absurd (Value.int.inj q) (by decide)), by decide⟩)
  | 5, _ => exact Or.inr (Or.inr ⟨wINVALID_PARAMETER_VALUE, (400 : Int32), rfl, EN.2.2.2.2.2.1.2.1, EN.2.2.2.2.2.1.2.2.2, Fld.ne EN.2.2.2.2.2.1.2.2.2 EN.2.2.2.2.2.2.2.2.2.2.2.2.2.2.2.2.2.2.2.2.2.2.2.2.2.2.1.2.2.2 (fun q => absurd (Value.int.inj q) (by decide)), Fld.ne EN.2.2.2.2.2.1.2.2.2 EN.2.2.2.2.2.2.2.2.2.2.2.2.2.2.2.2.2.2.2.2.2.2.2.2.2.2.2.2.2.2 (fun q => absurd (Value.int.inj q) (by decide)), by decide⟩)
  | 6, _ => exact Or.inr (Or.inr ⟨wINVALID_ATTRIBUTE_VALUE, (400 : Int32), rfl, EN.2.2.2.2.2.2.1.2.1, EN.2.2.2.2.2.2.1.2.2.2, Fld.ne EN.2.2.2.2.2.2.1.2.2.2 EN.2.2.2.2.2.2.2.2.2.2.2.2.2.2.2.2.2.2.2.2.2.2.2.2.2.2.1.2.2.2 (fun q => absurd (Value.int.inj q) (by decide)), Fld.ne EN.2.2.2.2.2.2.1.2.2.2 EN.2.2.2.2.2.2.2.2.2.2.2.2.2.2.2.2.2.2.2.2.2.2.2.2.2.2.2.2.2.2 (fun q => absurd (Value.int.inj q) (by decide)), by decide⟩)
  | 7, _ => exact Or.inr (Or.inr ⟨wINVALID_ATTRIBUTE_NAME, (400 : Int32), rfl, EN.2.2.2.2.2.2.2.1.2.1, EN.2.2.2.2.2.2.2.1.2.2.2, Fld.ne EN.2.2.2.2.2.2.2.1.2.2.2 EN.2.2.2.2.2.2.2.2.2.2.2.2.2.2.2.2.2.2.2.2.2.2.2.2.2.2.1.2.2.2 (fun q => absurd (Value.int.inj q) (by decide)), Fld.ne EN.2.2.2.2.2.2.2.1.2.2.2 EN.2.2.2.2.2.2.2.2.2.2.2.2.2.2.2.2.2.2.2.2.2.2.2.2.2.2.2.2.2.2 (fun q => absurd (Value.int.inj q) (by decide)), by decide⟩)
  | 8, _ => exact Or.inr (Or.inr ⟨wQUEUE_ALREADY_EXISTS, (400 : Int32), rfl, EN.2.2.2.2.2.2.2.2.1.2.1, EN.2.2.2.2.2.2.2.2.1.2.2.2, Fld.ne EN.2.2.2.2.2.2.2.2.1.2.2.2 EN.2.2.2.2.2.2.2.2.2.2.2.2.2.2.2.2.2.2.2.2.2.2.2.2.2.2.1.2.2.2 (fun q => absurd (Value.int.inj q) (by decide)), Fld.ne EN.2.2.2.2.2.2.2.2.1.2.2.2 EN.2.2.2.2.2.2.2.2.2.2.2.2.2.2.2.2.2.2.2.2.2.2.2.2.2.2.2.2.2.2 (fun q => absurd (Value.int.inj q) (by decide)), by decide⟩)
  | 9, _ => exact Or.inr (Or.inr ⟨wINVALID_MESSAGE_CONTENTS, (400 : Int32), rfl, EN.2.2.2.2.2.2.2.2.2.1.2.1, EN.2.2.2.2.2.2.2.2.2.1.2.2.2, Fld.ne EN.2.2.2.2.2.2.2.2.2.1.2.2.2 EN.2.2.2.2.2.2.2.2.2.2.2.2.2.2.2.2.2.2.2.2.2.2.2.2.2.2.1.2.2.2 (fun q => absurd (Value.int.inj q) (by decide)), Fld.ne EN.2.2.2.2.2.2.2.2.2.1.2.2.2 EN.2.2.2.2.2.2.2.2.2.2.2.2.2.2.2.2.2.2.2.2.2.2.2.2.2.2.2.2.2.2 (fun q => absurd (Value.int.inj q) (by decide)), by decide⟩)
  | 10, _ => exact Or.inr (Or.inr ⟨wNON_EXISTENT_QUEUE, (400 : Int32), rfl, EN.2.2.2.2.2.2.2.2.2.2.1.2.1, EN.2.2.2.2.2.2.2.2.2.2.1.2.2.2, Fld.ne EN.2.2.2.2.2.2.2.2.2.2.1.2.2.2 EN.2.2.2.2.2.2.2.2.2.2.2.2.2.2.2.2.2.2.2.2.2.2.2.2.2.2.1.2.2.2 (fun q => absurd (Value.int.inj q) (by decide)), Fld.ne EN.2.2.2.2.2.2.2.2.2.2.1.2.2.2 EN.2.2.2.2.2.2.2.2.2.2.2.2.2.2.2.2.2.2.2.2.2.2.2.2.2.2.2.2.2.2 (fun q => absurd (Value.int.inj q) (by decide)), by decide⟩)
  | 11, _ => exact Or.inr (Or.inr ⟨wRECEIPT_HANDLE_IS_INVALID, (400 : Int32), rfl, EN.2.2.2.2.2.2.2.2.2.2.2.1.2.1, EN.2.2.2.2.2.2.2.2.2.2.2.1.2.2.2, Fld.ne EN.2.2.2.2.2.2.2.2.2.2.2.1.2.2.2 EN.2.2.2.2.2.2.2.2.2.2.2.2.2.2.2.2.2.2.2.2.2.2.2.2.2.2.1.2.2.2 (fun q => absurd (Value.int.inj q) (by decide)), Fld.ne EN.2.2.2.2.2.2.2.2.2.2.2.1.2.2.2 EN.2.2.2.2.2.2.2.2.2.2.2.2.2.2.2.2.2.2.2.2.2.2.2.2.2.2.2.2.2.2 (fun q => absurd (Value.int.inj q) (by decide)), by decide⟩)
  | 12, _ => exact Or.inr (Or.inr ⟨wMESSAGE_NOT_INFLIGHT, (400 : Int32), rfl, EN.2.2.2.2.2.2.2.2.2.2.2.2.1.2.1, EN.2.2.2.2.2.2.2.2.2.2.2.2.1.2.2.2, Fld.ne EN.2.2.2.2.2.2.2.2.2.2.2.2.1.2.2.2 EN.2.2.2.2.2.2.2.2.2.2.2.2.2.2.2.2.2.2.2.2.2.2.2.2.2.2.1.2.2.2 (fun q => absurd (Value.int.inj q) (by decide)), Fld.ne EN.2.2.2.2.2.2.2.2.2.2.2.2.1.2.2.2 EN.2.2.2.2.2.2.2.2.2.2.2.2.2.2.2.2.2.2.2.2.2.2.2.2.2.2.2.2.2.2 (fun q => absurd (Value.int.inj q) (by decide)), by decide⟩)
  | 13, _ => exact Or.inr (Or.inr ⟨wEMPTY_BATCH_REQUEST, (400 : Int32), rfl, EN.2.2.2.2.2.2.2.2.2.2.2.2.2.1.2.1, EN.2.2.2.2.2.2.2.2.2.2.2.2.2.1.2.2.2, Fld.ne EN.2.2.2.2.2.2.2.2.2.2.2.2.2.1.2.2.2 EN.2.2.2.2.2.2.2.2.2.2.2.2.2.2.2.2.2.2.2.2.2.2.2.2.2.2.1.2.2.2 (fun q => absurd (Value.int.inj q) (by decide)), Fld.ne EN.2.2.2.2.2.2.2.2.2.2.2.2.2.1.2.2.2 EN.2.2.2.2.2.2.2.2.2.2.2.2.2.2.2.2.2.2.2.2.2.2.2.2.2.2.2.2.2.2 (fun q => absurd (Value.int.inj q) (by decide)), by decide⟩)
  | 14, _ => exact Or.inr (Or.inr ⟨wTOO_MANY_ENTRIES_IN_BATCH_REQUEST, (400 : Int32), rfl, EN.2.2.2.2.2.2.2.2.2.2.2.2.2.2.1.2.1, EN.2.2.2.2.2.2.2.2.2.2.2.2.2.2.1.2.2.2, Fld.ne EN.2.2.2.2.2.2.2.2.2.2.2.2.2.2.1.2.2.2 EN.2.2.2.2.2.2.2.2.2.2.2.2.2.2.2.2.2.2.2.2.2.2.2.2.2.2.1.2.2.2 (fun q => absurd (Value.int.inj q) (by decide)), Fld.ne EN.2.2.2.2.2.2.2.2.2.2.2.2.2.2.1.2.2.2 EN.2.2.2.2.2.2.2.2.2.2.2.2.2.2.2.2.2.2.2.2.2.2.2.2.2.2.2.2.2.2 (fun q => absurd (Value.int.inj q) (by decide)), by decide⟩)
  | 15, _ => exact Or.inr (Or.inr ⟨wBATCH_ENTRY_IDS_NOT_DISTINCT, (400 : Int32), rfl, EN.2.2.2.2.2.2.2.2.2.2.2.2.2.2.2.1.2.1, EN.2.2.2.2.2.2.2.2.2.2.2.2.2.2.2.1.2.2.2, Fld.ne EN.2.2.2.2.2.2.2.2.2.2.2.2.2.2.2.1.2.2.2 EN.2.2.2.2.2.2.2.2.2.2.2.2.2.2.2.2.2.2.2.2.2.2.2.2.2.2.1.2.2.2 (fun q => absurd (Value.int.inj q) (by decide)), Fld.ne EN.2.2.2.2.2.2.2.2.2.2.2.2.2.2.2.1.2.2.2 EN.2.2.2.2.2.2.2.2.2.2.2.2.2.2.2.2.2.2.2.2.2.2.2.2.2.2.2.2.2.2 (fun q => absurd (Value.int.inj q) (by decide)), by decide⟩)
  | 16, _ => exact Or.inr (Or.inr ⟨wINVALID_BATCH_ENTRY_ID, (400 : Int32), rfl, EN.2.2.2.2.2.2.2.2.2.2.2.2.2.2.2.2.1.2.1, EN.2.2.2.2.2.2.2.2.2.2.2.2.2.2.2.2.1.2.2.2, Fld.ne EN.2.2.2.2.2.2.2.2.2.2.2.2.2.2.2.2.1.2.2.2 EN.2.2.2.2.2.2.2.2.2.2.2.2.2.2.2.2.2.2.2.2.2.2.2.2.2.2.1.2.2.2 (fun q => absurd (Value.int.inj q) (by decide)), Fld.ne EN.2.2.2.2.2.2.2.2.2.2.2.2.2.2.2.2.1.2.2.2 EN.2.2.2.2.2.2.2.2.2.2.2.2.2.2.2.2.2.2.2.2.2.2.2.2.2.2.2.2.2.2 (fun q => absurd (Value.int.inj q) (by decide)), by decide⟩)
  | 17, _ => exact Or.inr (Or.inr ⟨wBATCH_REQUEST_TOO_LONG, (400 : Int32), rfl, EN.2.2.2.2.2.2.2.2.2.2.2.2.2.2.2.2.2.1.2.1, EN.2.2.2.2.2.2.2.2.2.2.2.2.2.2.2.2.2.1.2.2.2, Fld.ne EN.2.2.2.2.2.2.2.2.2.2.2.2.2.2.2.2.2.1.2.2.2 EN.2.2.2.2.2.2.2.2.2.2.2.2.2.2.2.2.2.2.2.2.2.2.2.2.2.2.1.2.2.2 (fun q => absurd (Value.int.inj q) (by decide)), Fld.ne EN.2.2.2.2.2.2.2.2.2.2.2.2.2.2.2.2.2.1.2.2.2 EN.2.2.2.2.2.2.2.2.2.2.2.2.2.2.2.2.2.2.2.2.2.2.2.2.2.2.2.2.2.2 (fun q => absurd (Value.int.inj q) (by decide)), by decide⟩)
  | 18, _ => exact Or.inr (Or.inr ⟨wOVER_LIMIT, (403 : Int32), rfl, EN.2.2.2.2.2.2.2.2.2.2.2.2.2.2.2.2.2.2.1.2.1, EN.2.2.2.2.2.2.2.2.2.2.2.2.2.2.2.2.2.2.1.2.2.2, Fld.ne EN.2.2.2.2.2.2.2.2.2.2.2.2.2.2.2.2.2.2.1.2.2.2 EN.2.2.2.2.2.2.2.2.2.2.2.2.2.2.2.2.2.2.2.2.2.2.2.2.2.2.1.2.2.2 (fun q => absurd (Value.int.inj q) (by decide)), Fld.ne EN.2.2.2.2.2.2.2.2.2.2.2.2.2.2.2.2.2.2.1.2.2.2 EN.2.2.2.2.2.2.2.2.2.2.2.2.2.2.2.2.2.2.2.2.2.2.2.2.2.2.2.2.2.2 (fun q => absurd (Value.int.inj q) (by decide)), by decide⟩)
  | 19, _ => exact Or.inr (Or.inr ⟨wRESOURCE_NOT_FOUND, (400 : Int32), rfl, EN.2.2.2.2.2.2.2.2.2.2.2.2.2.2.2.2.2.2.2.1.2.1, EN.2.2.2.2.2.2.2.2.2.2.2.2.2.2.2.2.2.2.2.1.2.2.2, Fld.ne EN.2.2.2.2.2.2.2.2.2.2.2.2.2.2.2.2.2.2.2.1.2.2.2 EN.2.2.2.2.2.2.2.2.2.2.2.2.2.2.2.2.2.2.2.2.2.2.2.2.2.2.1.2.2.2 (fun q => absurd (Value.int.inj q) (by decide)), Fld.ne EN.2.2.2.2.2.2.2.2.2.2.2.2.2.2.2.2.2.2.2.1.2.2.2 EN.2.2.2.2.2.2.2.2.2.2.2.2.2.2.2.2.2.2.2.2.2.2.2.2.2.2.2.2.2.2 (fun q => absurd (Value.int.inj q) (by decide)), by decide⟩)
  | 20, _ => exact Or.inr (Or.inr ⟨wUNSUPPORTED_OPERATION, (400 : Int32), rfl, EN.2.2.2.2.2.2.2.2.2.2.2.2.2.2.2.2.2.2.2.2.1.2.1, EN.2.2.2.2.2.2.2.2.2.2.2.2.2.2.2.2.2.2.2.2.1.2.2.2, Fld.ne EN.2.2.2.2.2.2.2.2.2.2.2.2.2.2.2.2.2.2.2.2.1.2.2.2 EN.2.2.2.2.2.2.2.2.2.2.2.2.2.2.2.2.2.2.2.2.2.2.2.2.2.2.1.2.2.2 (fun q => absurd (Value.int.inj q) (by decide)), Fld.ne EN.2.2.2.2.2.2.2.2.2.2.2.2.2.2.2.2.2.2.2.2.1.2.2.2 EN.2.2.2.2.2.2.2.2.2.2.2.2.2.2.2.2.2.2.2.2.2.2.2.2.2.2.2.2.2.2 (fun q => absurd (Value.int.inj q) (by decide)), by decide⟩)
  | 21, _ => exact Or.inr (Or.inr ⟨wMISSING_AUTHENTICATION_TOKEN, (403 : Int32), rfl, EN.2.2.2.2.2.2.2.2.2.2.2.2.2.2.2.2.2.2.2.2.2.1.2.1, EN.2.2.2.2.2.2.2.2.2.2.2.2.2.2.2.2.2.2.2.2.2.1.2.2.2, Fld.ne EN.2.2.2.2.2.2.2.2.2.2.2.2.2.2.2.2.2.2.2.2.2.1.2.2.2 EN.2.2.2.2.2.2.2.2.2.2.2.2.2.2.2.2.2.2.2.2.2.2.2.2.2.2.1.2.2.2 (fun q => absurd (Value.int.inj q) (by decide)), Fld.ne EN.2.2.2.2.2.2.2.2.2.2.2.2.2.2.2.2.2.2.2.2.2.1.2.2.2 EN.2.2.2.2.2.2.2.2.2.2.2.2.2.2.2.2.2.2.2.2.2.2.2.2.2.2.2.2.2.2 (fun q => absurd (Value.int.inj q) (by decide)), by decide⟩)
  | 22, _ => exact Or.inr (Or.inr ⟨wINCOMPLETE_SIGNATURE, (400 : Int32), rfl, EN.2.2.2.2.2.2.2.2.2.2.2.2.2.2.2.2.2.2.2.2.2.2.1.2.1, EN.2.2.2.2.2.2.2.2.2.2.2.2.2.2.2.2.2.2.2.2.2.2.1.2.2.2, Fld.ne EN.2.2.2.2.2.2.2.2.2.2.2.2.2.2.2.2.2.2.2.2.2.2.1.2.2.2 EN.2.2.2.2.2.2.2.2.2.2.2.2.2.2.2.2.2.2.2.2.2.2.2.2.2.2.1.2.2.2 (fun q => absurd (Value.int.inj q) (by decide)), Fld.ne EN.2.2.2.2.2.2.2.2.2.2.2.2.2.2.2.2.2.2.2.2.2.2.1.2.2.2 EN.2.2.2.2.2.2.2.2.2.2.2.2.2.2.2.2.2.2.2.2.2.2.2.2.2.2.2.2.2.2 (fun q => absurd (Value.int.inj q) (by decide)), by decide⟩)
  | 23, _ => exact Or.inr (Or.inr ⟨wINVALID_CLIENT_TOKEN_ID, (403 : Int32), rfl, EN.2.2.2.2.2.2.2.2.2.2.2.2.2.2.2.2.2.2.2.2.2.2.2.1.2.1, EN.2.2.2.2.2.2.2.2.2.2.2.2.2.2.2.2.2.2.2.2.2.2.2.1.2.2.2, Fld.ne EN.2.2.2.2.2.2.2.2.2.2.2.2.2.2.2.2.2.2.2.2.2.2.2.1.2.2.2 EN.2.2.2.2.2.2.2.2.2.2.2.2.2.2.2.2.2.2.2.2.2.2.2.2.2.2.1.2.2.2 (fun q => absurd (Value.int.inj q) (by decide)), Fld.ne EN.2.2.2.2.2.2.2.2.2.2.2.2.2.2.2.2.2.2.2.2.2.2.2.1.2.2.2 EN.2.2.2.2.2.2.2.2.2.2.2.2.2.2.2.2.2.2.2.2.2.2.2.2.2.2.2.2.2.2 (fun q => absurd (Value.int.inj q) (by decide)), by decide⟩)
  | 24, _ => exact Or.inr (Or.inr ⟨wREQUEST_EXPIRED, (400 : Int32), rfl, EN.2.2.2.2.2.2.2.2.2.2.2.2.2.2.2.2.2.2.2.2.2.2.2.2.1.2.1, EN.2.2.2.2.2.2.2.2.2.2.2.2.2.2.2.2.2.2.2.2.2.2.2.2.1.2.2.2, Fld.ne EN.2.2.2.2.2.2.2.2.2.2.2.2.2.2.2.2.2.2.2.2.2.2.2.2.1.2.2.2 EN.2.2.2.2.2.2.2.2.2.2.2.2.2.2.2.2.2.2.2.2.2.2.2.2.2.2.1.2.2.2 (fun q => absurd (Value.int.inj q) (by decide)), Fld.ne EN.2.2.2.2.2.2.2.2.2.2.2.2.2.2.2.2.2.2.2.2.2.2.2.2.1.2.2.2 EN.2.2.2.2.2.2.2.2.2.2.2.2.2.2.2.2.2.2.2.2.2.2.2.2.2.2.2.2.2.2 (fun q => absurd (Value.int.inj q) (by decide)), by decide⟩)
  | 25, _ => exact Or.inr (Or.inr ⟨wSIGNATURE_DOES_NOT_MATCH, (403 : Int32), rfl, EN.2.2.2.2.2.2.2.2.2.2.2.2.2.2.2.2.2.2.2.2.2.2.2.2.2.1.2.1, EN.2.2.2.2.2.2.2.2.2.2.2.2.2.2.2.2.2.2.2.2.2.2.2.2.2.1.2.2.2, Fld.ne EN.2.2.2.2.2.2.2.2.2.2.2.2.2.2.2.2.2.2.2.2.2.2.2.2.2.1.2.2.2 EN.2.2.2.2.2.2.2.2.2.2.2.2.2.2.2.2.2.2.2.2.2.2.2.2.2.2.1.2.2.2 (fun q => absurd (Value.int.inj q) (by decide)), Fld.ne EN.2.2.2.2.2.2.2.2.2.2.2.2.2.2.2.2.2.2.2.2.2.2.2.2.2.1.2.2.2 EN.2.2.2.2.2.2.2.2.2.2.2.2.2.2.2.2.2.2.2.2.2.2.2.2.2.2.2.2.2.2 (fun q => absurd (Value.int.inj q) (by decide)), by decide⟩)
  | 26, _ => exact Or.inl rfl
  | 27, _ => exact Or.inr (Or.inl rfl)
  | n + 28, h => exact absurd h (by omega)
theorem own_ef0 (m : MethodId) (x0 : Int32) : entryFrame m #[(.int x0)] maxLocals = mkF m 0 #[.val (.int x0), .unset, .unset, .unset, .unset, .unset, .unset] [] := by first | (simp [entryFrame, mkF, argsToLocals, Value.category, maxLocals]; done) | rfl
def own_Q0 (r : Int32) (h0 : Heap) (n0 : Nat) (v : Option Value) (h : Heap) (L : List Loc) : Prop := v = some (.int r) ∧ Fr n0 L
set_option maxRecDepth 65536 in
set_option maxHeartbeats 40000000 in
theorem own_rm0 (l : Launch) (Z : State) (a0 : Array Value) (hw : ∀ d ∈ tables_1, d.before a0 Z = true) (ws : List Jvm.Cond) (p0_0 : Int32) (wMISSING_ACTION : Addr) (wINVALID_ACTION : Addr) (wMALFORMED_QUERY_STRING : Addr) (wINVALID_ADDRESS : Addr) (wMISSING_PARAMETER : Addr) (wINVALID_PARAMETER_VALUE : Addr) (wINVALID_ATTRIBUTE_VALUE : Addr) (wINVALID_ATTRIBUTE_NAME : Addr) (wQUEUE_ALREADY_EXISTS : Addr) (wINVALID_MESSAGE_CONTENTS : Addr) (wNON_EXISTENT_QUEUE : Addr) (wRECEIPT_HANDLE_IS_INVALID : Addr) (wMESSAGE_NOT_INFLIGHT : Addr) (wEMPTY_BATCH_REQUEST : Addr) (wTOO_MANY_ENTRIES_IN_BATCH_REQUEST : Addr) (wBATCH_ENTRY_IDS_NOT_DISTINCT : Addr) (wINVALID_BATCH_ENTRY_ID : Addr) (wBATCH_REQUEST_TOO_LONG : Addr) (wOVER_LIMIT : Addr) (wRESOURCE_NOT_FOUND : Addr) (wUNSUPPORTED_OPERATION : Addr) (wMISSING_AUTHENTICATION_TOKEN : Addr) (wINCOMPLETE_SIGNATURE : Addr) (wINVALID_CLIENT_TOKEN_ID : Addr) (wREQUEST_EXPIRED : Addr) (wSIGNATURE_DOES_NOT_MATCH : Addr) (wSERVICE_UNAVAILABLE : Addr) (wINTERNAL_FAILURE : Addr) (h0 : Heap) (n0 : Nat) (Z0 : n0 ≤ h0.size) (O0 : Old Z n0 h0) (EN : own_EN Z wMISSING_ACTION wINVALID_ACTION wMALFORMED_QUERY_STRING wINVALID_ADDRESS wMISSING_PARAMETER wINVALID_PARAMETER_VALUE wINVALID_ATTRIBUTE_VALUE wINVALID_ATTRIBUTE_NAME wQUEUE_ALREADY_EXISTS wINVALID_MESSAGE_CONTENTS wNON_EXISTENT_QUEUE wRECEIPT_HANDLE_IS_INVALID wMESSAGE_NOT_INFLIGHT wEMPTY_BATCH_REQUEST wTOO_MANY_ENTRIES_IN_BATCH_REQUEST wBATCH_ENTRY_IDS_NOT_DISTINCT wINVALID_BATCH_ENTRY_ID wBATCH_REQUEST_TOO_LONG wOVER_LIMIT wRESOURCE_NOT_FOUND wUNSUPPORTED_OPERATION wMISSING_AUTHENTICATION_TOKEN wINCOMPLETE_SIGNATURE wINVALID_CLIENT_TOKEN_ID wREQUEST_EXPIRED wSIGNATURE_DOES_NOT_MATCH wSERVICE_UNAVAILABLE wINTERNAL_FAILURE) :
    MetFree l x (head1 (Jvm.Cond.code x code maxLocals ret :: ws) room_1) (fun a U => a = #[(.int p0_0)] ∧ Z.Warmed39 U.vm ∧ U.heap = h0) (fun _ _ _ _ _ => True) (fun _ U o U' => ∃ v L, o = .returned v ∧ own_Q0 (1 : Int32) h0 n0 v U'.heap L ∧ FrameEnd U o U' L room_1.cells room_1.slots) := by
  refine MetFree.of_bodySF (plainFor_of_name pn_com_example_buzon_buzon_engine_ApiErrorSenderFaultPinLaw) hisR ?_
  intro p e s m args below meth c s₁ Bd hml0 hP hK
  obtain ⟨rfl, hZ, hh⟩ := hP
  have hx := Bd.exec
  have hby := Bd.bytes
  have hlk : meth.locks = false := BodyLoose.notSynchronized Bd
  have hml : c.maxLocals = 7 := hml0
  have hown : s.vm.findClass "com/example/buzon/buzon/engine/ApiErrorSenderFaultPinLaw" = some m.cls := findClass_of_methodNamed Bd.named
  have hnm := (name_of_methodNamed Bd.named Bd.method).1
  have X0 : Stand p l e room_1 s m #[(.int p0_0)] below meth c s₁ [] 0 0 := Stand.of_body Bd
  have e0 : s₁.heap = h0 := by rw [← hh, Bd.state]; rfl
  have N0 := Fr.nil n0
  show own_Go p e below (own_P s below room_1 (own_Q0 (1 : Int32) h0 n0)) s₁ (entryFrame m #[(.int p0_0)] maxLocals)
  refine own_in (own_ef0 m p0_0) ?_
  refine own_by (T' := s₁) (g' := (mkF m 2 #[.val (.int p0_0), .unset, .unset, .unset, .unset, .unset, .unset] [(.int (28 : Int32))])) (fun t k => ?_) ?_
  · show Steps p.tables e below (s₁.setTop (mkF m 0 #[.val (.int p0_0), .unset, .unset, .unset, .unset, .unset, .unset] [])) t
    refine XS.bipush X0.here hx rfl (hb hby at_0) ?_
    show Steps p.tables e below (s₁.setTop (mkF m 2 #[.val (.int p0_0), .unset, .unset, .unset, .unset, .unset, .unset] [(.int (28 : Int32))])) t
    exact k
  obtain ⟨T4, h4, k4, X4, e4, E4, A4, O4v, st4⟩ := newR X0 hx hZ hown (hw _ (List.mem_of_getElem? (i := 0) rfl)) (hw _ (List.mem_of_getElem? (i := 1) rfl)) e0 (g := (mkF m 2 #[.val (.int p0_0), .unset, .unset, .unset, .unset, .unset, .unset] [(.int (28 : Int32))])) rfl (hb hby at_2) rfl (by decide) (cap := 28) (by decide) (by decide) (by decide) (by decide)
  obtain ⟨b4, g4⟩ : ∃ z, z = h0.size := ⟨_, rfl⟩
  rw [← g4] at A4 st4
  have gn_b4 : n0 ≤ b4 := Nat.le_trans Z0 (Nat.le_of_eq g4.symm)
  have sz_b4 : h0.size ≤ b4 := Nat.le_trans (Keep.refl h0 []).1 (Nat.le_of_eq g4.symm)
  have K5 : Keep h0 h4 [] := (Keep.refl h0 []).ext E4
  have O6 := O0.ext E4
  have Z7 := Nat.le_trans Z0 E4.1
  have f8 : Arv Z h4 b4 k4 (.object "com/example/buzon/buzon/engine/ApiError") (28 : Int32) [.null, .null, .null, .null, .null, .null, .null, .null, .null, .null, .null, .null, .null, .null, .null, .null, .null, .null, .null, .null, .null, .null, .null, .null, .null, .null, .null, .null] .null := (Arv.new A4 (by decide)).pad (pad_rep [] .null 28)
  refine own_by (T' := T4) (g' := (mkF m 5 #[.val (.int p0_0), .unset, .unset, .unset, .unset, .unset, .unset] [(.ref b4)])) st4 ?_
  refine own_by (T' := T4) (g' := (mkF m 7 #[.val (.int p0_0), .unset, .unset, .unset, .unset, .unset, .unset] [(.int (0 : Int32)), (.ref b4), (.ref b4)])) (fun t k => ?_) ?_
  · show Steps p.tables e below (T4.setTop (mkF m 5 #[.val (.int p0_0), .unset, .unset, .unset, .unset, .unset, .unset] [(.ref b4)])) t
    refine XS.dup X4.here hx rfl (hb hby at_5) rfl rfl ?_
    show Steps p.tables e below (T4.setTop (mkF m 6 #[.val (.int p0_0), .unset, .unset, .unset, .unset, .unset, .unset] [(.ref b4), (.ref b4)])) t
    refine XS.iconst X4.here hx rfl (hb hby at_6) ?_
    show Steps p.tables e below (T4.setTop (mkF m 7 #[.val (.int p0_0), .unset, .unset, .unset, .unset, .unset, .unset] [(.int (0 : Int32)), (.ref b4), (.ref b4)])) t
    exact k
  obtain ⟨T9, X9, e9, st9⟩ := getS2 X4 hx hZ hown (host := "") (Or.inl (hw _ (List.mem_of_getElem? (i := 2) rfl))) Via.refl e4 (EN.1.1.ext O6.2) (g := (mkF m 7 #[.val (.int p0_0), .unset, .unset, .unset, .unset, .unset, .unset] [(.int (0 : Int32)), (.ref b4), (.ref b4)])) rfl (hb hby at_7)
  refine own_by (T' := T9) (g' := (mkF m 10 #[.val (.int p0_0), .unset, .unset, .unset, .unset, .unset, .unset] [(.ref wMISSING_ACTION), (.int (0 : Int32)), (.ref b4), (.ref b4)])) st9 ?_
  obtain ⟨cl10, Ar10, q10, S10, N10, H10, G10⟩ := f8
  obtain ⟨T11, h11, X11, e11, W11, st11⟩ := stR X9 hx hZ e9 Ar10 (j := (0 : Int32)) (inb_of S10 ⟨by decide, by decide⟩) rfl (Sto.ofV Ar10 q10 O4v (Ins.self (EN.1.2.1.ext O6.2))) (g := (mkF m 10 #[.val (.int p0_0), .unset, .unset, .unset, .unset, .unset, .unset] [(.ref wMISSING_ACTION), (.int (0 : Int32)), (.ref b4), (.ref b4)])) rfl rfl (hb hby at_10)
  have f12 : Arv Z h11 b4 k4 (.object "com/example/buzon/buzon/engine/ApiError") (28 : Int32) [(.ref wMISSING_ACTION), .null, .null, .null, .null, .null, .null, .null, .null, .null, .null, .null, .null, .null, .null, .null, .null, .null, .null, .null, .null, .null, .null, .null, .null, .null, .null, .null] .null := Arv.set Ar10 q10 S10 N10 H10 G10 rfl W11 0 rfl (Nat.le_of_ble_eq_true rfl)
  have K14 : Keep h0 h11 [] := K5.wr W11 (Or.inr sz_b4)
  have N15 := Fr.snoc X11 N0 gn_b4
  obtain ⟨Lh11, X11, N15⟩ := own_hide X11 N15
  have O16 := O6.wr W11 gn_b4
  have Z17 := (Nat.le_trans Z7 (Keep.of_wr W11).1)
  refine own_by (T' := T11) (g' := (mkF m 11 #[.val (.int p0_0), .unset, .unset, .unset, .unset, .unset, .unset] [(.ref b4)])) st11 ?_
  refine own_by (T' := T11) (g' := (mkF m 13 #[.val (.int p0_0), .unset, .unset, .unset, .unset, .unset, .unset] [(.int (1 : Int32)), (.ref b4), (.ref b4)])) (fun t k => ?_) ?_
  · show Steps p.tables e below (T11.setTop (mkF m 11 #[.val (.int p0_0), .unset, .unset, .unset, .unset, .unset, .unset] [(.ref b4)])) t
    refine XS.dup X11.here hx rfl (hb hby at_11) rfl rfl ?_
    show Steps p.tables e below (T11.setTop (mkF m 12 #[.val (.int p0_0), .unset, .unset, .unset, .unset, .unset, .unset] [(.ref b4), (.ref b4)])) t
    refine XS.iconst X11.here hx rfl (hb hby at_12) ?_
    show Steps p.tables e below (T11.setTop (mkF m 13 #[.val (.int p0_0), .unset, .unset, .unset, .unset, .unset, .unset] [(.int (1 : Int32)), (.ref b4), (.ref b4)])) t
    exact k
  obtain ⟨T18, X18, e18, st18⟩ := getS2 X11 hx hZ hown (host := "") (Or.inl (hw _ (List.mem_of_getElem? (i := 6) rfl))) Via.refl e11 (EN.2.1.1.ext O16.2) (g := (mkF m 13 #[.val (.int p0_0), .unset, .unset, .unset, .unset, .unset, .unset] [(.int (1 : Int32)), (.ref b4), (.ref b4)])) rfl (hb hby at_13)
  refine own_by (T' := T18) (g' := (mkF m 16 #[.val (.int p0_0), .unset, .unset, .unset, .unset, .unset, .unset] [(.ref wINVALID_ACTION), (.int (1 : Int32)), (.ref b4), (.ref b4)])) st18 ?_
  obtain ⟨cl19, Ar19, q19, S19, N19, H19, G19⟩ := f12
  obtain ⟨T20, h20, X20, e20, W20, st20⟩ := stR X18 hx hZ e18 Ar19 (j := (1 : Int32)) (inb_of S19 ⟨by decide, by decide⟩) rfl (Sto.ofV Ar19 q19 O4v (Ins.self (EN.2.1.2.1.ext O16.2))) (g := (mkF m 16 #[.val (.int p0_0), .unset, .unset, .unset, .unset, .unset, .unset] [(.ref wINVALID_ACTION), (.int (1 : Int32)), (.ref b4), (.ref b4)])) rfl rfl (hb hby at_16)
  have f21 : Arv Z h20 b4 k4 (.object "com/example/buzon/buzon/engine/ApiError") (28 : Int32) [(.ref wMISSING_ACTION), (.ref wINVALID_ACTION), .null, .null, .null, .null, .null, .null, .null, .null, .null, .null, .null, .null, .null, .null, .null, .null, .null, .null, .null, .null, .null, .null, .null, .null, .null, .null] .null := Arv.set Ar19 q19 S19 N19 H19 G19 rfl W20 1 rfl (Nat.le_of_ble_eq_true rfl)
  have K23 : Keep h0 h20 [] := K14.wr W20 (Or.inr sz_b4)
  have N24 := Fr.snoc X20 N15 gn_b4
  obtain ⟨Lh20, X20, N24⟩ := own_hide X20 N24
  have O25 := O16.wr W20 gn_b4
  have Z26 := (Nat.le_trans Z17 (Keep.of_wr W20).1)
  refine own_by (T' := T20) (g' := (mkF m 17 #[.val (.int p0_0), .unset, .unset, .unset, .unset, .unset, .unset] [(.ref b4)])) st20 ?_
  refine own_by (T' := T20) (g' := (mkF m 19 #[.val (.int p0_0), .unset, .unset, .unset, .unset, .unset, .unset] [(.int (2 : Int32)), (.ref b4), (.ref b4)])) (fun t k => ?_) ?_
  · show Steps p.tables e below (T20.setTop (mkF m 17 #[.val (.int p0_0), .unset, .unset, .unset, .unset, .unset, .unset] [(.ref b4)])) t
    refine XS.dup X20.here hx rfl (hb hby at_17) rfl rfl ?_
    show Steps p.tables e below (T20.setTop (mkF m 18 #[.val (.int p0_0), .unset, .unset, .unset, .unset, .unset, .unset] [(.ref b4), (.ref b4)])) t
    refine XS.iconst X20.here hx rfl (hb hby at_18) ?_
    show Steps p.tables e below (T20.setTop (mkF m 19 #[.val (.int p0_0), .unset, .unset, .unset, .unset, .unset, .unset] [(.int (2 : Int32)), (.ref b4), (.ref b4)])) t
    exact k
  obtain ⟨T27, X27, e27, st27⟩ := getS2 X20 hx hZ hown (host := "") (Or.inl (hw _ (List.mem_of_getElem? (i := 8) rfl))) Via.refl e20 (EN.2.2.1.1.ext O25.2) (g := (mkF m 19 #[.val (.int p0_0), .unset, .unset, .unset, .unset, .unset, .unset] [(.int (2 : Int32)), (.ref b4), (.ref b4)])) rfl (hb hby at_19)
  refine own_by (T' := T27) (g' := (mkF m 22 #[.val (.int p0_0), .unset, .unset, .unset, .unset, .unset, .unset] [(.ref wMALFORMED_QUERY_STRING), (.int (2 : Int32)), (.ref b4), (.ref b4)])) st27 ?_
  obtain ⟨cl28, Ar28, q28, S28, N28, H28, G28⟩ := f21
  obtain ⟨T29, h29, X29, e29, W29, st29⟩ := stR X27 hx hZ e27 Ar28 (j := (2 : Int32)) (inb_of S28 ⟨by decide, by decide⟩) rfl (Sto.ofV Ar28 q28 O4v (Ins.self (EN.2.2.1.2.1.ext O25.2))) (g := (mkF m 22 #[.val (.int p0_0), .unset, .unset, .unset, .unset, .unset, .unset] [(.ref wMALFORMED_QUERY_STRING), (.int (2 : Int32)), (.ref b4), (.ref b4)])) rfl rfl (hb hby at_22)
  have f30 : Arv Z h29 b4 k4 (.object "com/example/buzon/buzon/engine/ApiError") (28 : Int32) [(.ref wMISSING_ACTION), (.ref wINVALID_ACTION), (.ref wMALFORMED_QUERY_STRING), .null, .null, .null, .null, .null, .null, .null, .null, .null, .null, .null, .null, .null, .null, .null, .null, .null, .null, .null, .null, .null, .null, .null, .null, .null] .null := Arv.set Ar28 q28 S28 N28 H28 G28 rfl W29 2 rfl (Nat.le_of_ble_eq_true rfl)
  have K32 : Keep h0 h29 [] := K23.wr W29 (Or.inr sz_b4)
  have N33 := Fr.snoc X29 N24 gn_b4
  obtain ⟨Lh29, X29, N33⟩ := own_hide X29 N33
  have O34 := O25.wr W29 gn_b4
  have Z35 := (Nat.le_trans Z26 (Keep.of_wr W29).1)
  refine own_by (T' := T29) (g' := (mkF m 23 #[.val (.int p0_0), .unset, .unset, .unset, .unset, .unset, .unset] [(.ref b4)])) st29 ?_
  refine own_by (T' := T29) (g' := (mkF m 25 #[.val (.int p0_0), .unset, .unset, .unset, .unset, .unset, .unset] [(.int (3 : Int32)), (.ref b4), (.ref b4)])) (fun t k => ?_) ?_
  · show Steps p.tables e below (T29.setTop (mkF m 23 #[.val (.int p0_0), .unset, .unset, .unset, .unset, .unset, .unset] [(.ref b4)])) t
    refine XS.dup X29.here hx rfl (hb hby at_23) rfl rfl ?_
    show Steps p.tables e below (T29.setTop (mkF m 24 #[.val (.int p0_0), .unset, .unset, .unset, .unset, .unset, .unset] [(.ref b4), (.ref b4)])) t
    refine XS.iconst X29.here hx rfl (hb hby at_24) ?_
    show Steps p.tables e below (T29.setTop (mkF m 25 #[.val (.int p0_0), .unset, .unset, .unset, .unset, .unset, .unset] [(.int (3 : Int32)), (.ref b4), (.ref b4)])) t
    exact k
  obtain ⟨T36, X36, e36, st36⟩ := getS2 X29 hx hZ hown (host := "") (Or.inl (hw _ (List.mem_of_getElem? (i := 10) rfl))) Via.refl e29 (EN.2.2.2.1.1.ext O34.2) (g := (mkF m 25 #[.val (.int p0_0), .unset, .unset, .unset, .unset, .unset, .unset] [(.int (3 : Int32)), (.ref b4), (.ref b4)])) rfl (hb hby at_25)
  refine own_by (T' := T36) (g' := (mkF m 28 #[.val (.int p0_0), .unset, .unset, .unset, .unset, .unset, .unset] [(.ref wINVALID_ADDRESS), (.int (3 : Int32)), (.ref b4), (.ref b4)])) st36 ?_
  obtain ⟨cl37, Ar37, q37, S37, N37, H37, G37⟩ := f30
  obtain ⟨T38, h38, X38, e38, W38, st38⟩ := stR X36 hx hZ e36 Ar37 (j := (3 : Int32)) (inb_of S37 ⟨by decide, by decide⟩) rfl (Sto.ofV Ar37 q37 O4v (Ins.self (EN.2.2.2.1.2.1.ext O34.2))) (g := (mkF m 28 #[.val (.int p0_0), .unset, .unset, .unset, .unset, .unset, .unset] [(.ref wINVALID_ADDRESS), (.int (3 : Int32)), (.ref b4), (.ref b4)])) rfl rfl (hb hby at_28)
  have f39 : Arv Z h38 b4 k4 (.object "com/example/buzon/buzon/engine/ApiError") (28 : Int32) [(.ref wMISSING_ACTION), (.ref wINVALID_ACTION), (.ref wMALFORMED_QUERY_STRING), (.ref wINVALID_ADDRESS), .null, .null, .null, .null, .null, .null, .null, .null, .null, .null, .null, .null, .null, .null, .null, .null, .null, .null, .null, .null, .null, .null, .null, .null] .null := Arv.set Ar37 q37 S37 N37 H37 G37 rfl W38 3 rfl (Nat.le_of_ble_eq_true rfl)
  have K41 : Keep h0 h38 [] := K32.wr W38 (Or.inr sz_b4)
  have N42 := Fr.snoc X38 N33 gn_b4
  obtain ⟨Lh38, X38, N42⟩ := own_hide X38 N42
  have O43 := O34.wr W38 gn_b4
  have Z44 := (Nat.le_trans Z35 (Keep.of_wr W38).1)
  refine own_by (T' := T38) (g' := (mkF m 29 #[.val (.int p0_0), .unset, .unset, .unset, .unset, .unset, .unset] [(.ref b4)])) st38 ?_
  refine own_by (T' := T38) (g' := (mkF m 31 #[.val (.int p0_0), .unset, .unset, .unset, .unset, .unset, .unset] [(.int (4 : Int32)), (.ref b4), (.ref b4)])) (fun t k => ?_) ?_
  · show Steps p.tables e below (T38.setTop (mkF m 29 #[.val (.int p0_0), .unset, .unset, .unset, .unset, .unset, .unset] [(.ref b4)])) t
    refine XS.dup X38.here hx rfl (hb hby at_29) rfl rfl ?_
    show Steps p.tables e below (T38.setTop (mkF m 30 #[.val (.int p0_0), .unset, .unset, .unset, .unset, .unset, .unset] [(.ref b4), (.ref b4)])) t
    refine XS.iconst X38.here hx rfl (hb hby at_30) ?_
    show Steps p.tables e below (T38.setTop (mkF m 31 #[.val (.int p0_0), .unset, .unset, .unset, .unset, .unset, .unset] [(.int (4 : Int32)), (.ref b4), (.ref b4)])) t
    exact k
  obtain ⟨T45, X45, e45, st45⟩ := getS2 X38 hx hZ hown (host := "") (Or.inl (hw _ (List.mem_of_getElem? (i := 12) rfl))) Via.refl e38 (EN.2.2.2.2.1.1.ext O43.2) (g := (mkF m 31 #[.val (.int p0_0), .unset, .unset, .unset, .unset, .unset, .unset] [(.int (4 : Int32)), (.ref b4), (.ref b4)])) rfl (hb hby at_31)
  refine own_by (T' := T45) (g' := (mkF m 34 #[.val (.int p0_0), .unset, .unset, .unset, .unset, .unset, .unset] [(.ref wMISSING_PARAMETER), (.int (4 : Int32)), (.ref b4), (.ref b4)])) st45 ?_
  obtain ⟨cl46, Ar46, q46, S46, N46, H46, G46⟩ := f39
  obtain ⟨T47, h47, X47, e47, W47, st47⟩ := stR X45 hx hZ e45 Ar46 (j := (4 : Int32)) (inb_of S46 ⟨by decide, by decide⟩) rfl (Sto.ofV Ar46 q46 O4v (Ins.self (EN.2.2.2.2.1.2.1.ext O43.2))) (g := (mkF m 34 #[.val (.int p0_0), .unset, .unset, .unset, .unset, .unset, .unset] [(.ref wMISSING_PARAMETER), (.int (4 : Int32)), (.ref b4), (.ref b4)])) rfl rfl (hb hby at_34)
  have f48 : Arv Z h47 b4 k4 (.object "com/example/buzon/buzon/engine/ApiError") (28 : Int32) [(.ref wMISSING_ACTION), (.ref wINVALID_ACTION), (.ref wMALFORMED_QUERY_STRING), (.ref wINVALID_ADDRESS), (.ref wMISSING_PARAMETER), .null, .null, .null, .null, .null, .null, .null, .null, .null, .null, .null, .null, .null, .null, .null, .null, .null, .null, .null, .null, .null, .null, .null] .null := Arv.set Ar46 q46 S46 N46 H46 G46 rfl W47 4 rfl (Nat.le_of_ble_eq_true rfl)
  have K50 : Keep h0 h47 [] := K41.wr W47 (Or.inr sz_b4)
  have N51 := Fr.snoc X47 N42 gn_b4
  obtain ⟨Lh47, X47, N51⟩ := own_hide X47 N51
  have O52 := O43.wr W47 gn_b4
  have Z53 := (Nat.le_trans Z44 (Keep.of_wr W47).1)
  refine own_by (T' := T47) (g' := (mkF m 35 #[.val (.int p0_0), .unset, .unset, .unset, .unset, .unset, .unset] [(.ref b4)])) st47 ?_
  refine own_by (T' := T47) (g' := (mkF m 37 #[.val (.int p0_0), .unset, .unset, .unset, .unset, .unset, .unset] [(.int (5 : Int32)), (.ref b4), (.ref b4)])) (fun t k => ?_) ?_
  · show Steps p.tables e below (T47.setTop (mkF m 35 #[.val (.int p0_0), .unset, .unset, .unset, .unset, .unset, .unset] [(.ref b4)])) t
    refine XS.dup X47.here hx rfl (hb hby at_35) rfl rfl ?_
    show Steps p.tables e below (T47.setTop (mkF m 36 #[.val (.int p0_0), .unset, .unset, .unset, .unset, .unset, .unset] [(.ref b4), (.ref b4)])) t
    refine XS.iconst X47.here hx rfl (hb hby at_36) ?_
    show Steps p.tables e below (T47.setTop (mkF m 37 #[.val (.int p0_0), .unset, .unset, .unset, .unset, .unset, .unset] [(.int (5 : Int32)), (.ref b4), (.ref b4)])) t
    exact k
  obtain ⟨T54, X54, e54, st54⟩ := getS2 X47 hx hZ hown (host := "") (Or.inl (hw _ (List.mem_of_getElem? (i := 14) rfl))) Via.refl e47 (EN.2.2.2.2.2.1.1.ext O52.2) (g := (mkF m 37 #[.val (.int p0_0), .unset, .unset, .unset, .unset, .unset, .unset] [(.int (5 : Int32)), (.ref b4), (.ref b4)])) rfl (hb hby at_37)
  refine own_by (T' := T54) (g' := (mkF m 40 #[.val (.int p0_0), .unset, .unset, .unset, .unset, .unset, .unset] [(.ref wINVALID_PARAMETER_VALUE), (.int (5 : Int32)), (.ref b4), (.ref b4)])) st54 ?_
  obtain ⟨cl55, Ar55, q55, S55, N55, H55, G55⟩ := f48
  obtain ⟨T56, h56, X56, e56, W56, st56⟩ := stR X54 hx hZ e54 Ar55 (j := (5 : Int32)) (inb_of S55 ⟨by decide, by decide⟩) rfl (Sto.ofV Ar55 q55 O4v (Ins.self (EN.2.2.2.2.2.1.2.1.ext O52.2))) (g := (mkF m 40 #[.val (.int p0_0), .unset, .unset, .unset, .unset, .unset, .unset] [(.ref wINVALID_PARAMETER_VALUE), (.int (5 : Int32)), (.ref b4), (.ref b4)])) rfl rfl (hb hby at_40)
  have f57 : Arv Z h56 b4 k4 (.object "com/example/buzon/buzon/engine/ApiError") (28 : Int32) [(.ref wMISSING_ACTION), (.ref wINVALID_ACTION), (.ref wMALFORMED_QUERY_STRING), (.ref wINVALID_ADDRESS), (.ref wMISSING_PARAMETER), (.ref wINVALID_PARAMETER_VALUE), .null, .null, .null, .null, .null, .null, .null, .null, .null, .null, .null, .null, .null, .null, .null, .null, .null, .null, .null, .null, .null, .null] .null := Arv.set Ar55 q55 S55 N55 H55 G55 rfl W56 5 rfl (Nat.le_of_ble_eq_true rfl)
  have K59 : Keep h0 h56 [] := K50.wr W56 (Or.inr sz_b4)
  have N60 := Fr.snoc X56 N51 gn_b4
  obtain ⟨Lh56, X56, N60⟩ := own_hide X56 N60
  have O61 := O52.wr W56 gn_b4
  have Z62 := (Nat.le_trans Z53 (Keep.of_wr W56).1)
  refine own_by (T' := T56) (g' := (mkF m 41 #[.val (.int p0_0), .unset, .unset, .unset, .unset, .unset, .unset] [(.ref b4)])) st56 ?_
  refine own_by (T' := T56) (g' := (mkF m 44 #[.val (.int p0_0), .unset, .unset, .unset, .unset, .unset, .unset] [(.int (6 : Int32)), (.ref b4), (.ref b4)])) (fun t k => ?_) ?_
  · show Steps p.tables e below (T56.setTop (mkF m 41 #[.val (.int p0_0), .unset, .unset, .unset, .unset, .unset, .unset] [(.ref b4)])) t
    refine XS.dup X56.here hx rfl (hb hby at_41) rfl rfl ?_
    show Steps p.tables e below (T56.setTop (mkF m 42 #[.val (.int p0_0), .unset, .unset, .unset, .unset, .unset, .unset] [(.ref b4), (.ref b4)])) t
    refine XS.bipush X56.here hx rfl (hb hby at_42) ?_
    show Steps p.tables e below (T56.setTop (mkF m 44 #[.val (.int p0_0), .unset, .unset, .unset, .unset, .unset, .unset] [(.int (6 : Int32)), (.ref b4), (.ref b4)])) t
    exact k
  obtain ⟨T63, X63, e63, st63⟩ := getS2 X56 hx hZ hown (host := "") (Or.inl (hw _ (List.mem_of_getElem? (i := 16) rfl))) Via.refl e56 (EN.2.2.2.2.2.2.1.1.ext O61.2) (g := (mkF m 44 #[.val (.int p0_0), .unset, .unset, .unset, .unset, .unset, .unset] [(.int (6 : Int32)), (.ref b4), (.ref b4)])) rfl (hb hby at_44)
  refine own_by (T' := T63) (g' := (mkF m 47 #[.val (.int p0_0), .unset, .unset, .unset, .unset, .unset, .unset] [(.ref wINVALID_ATTRIBUTE_VALUE), (.int (6 : Int32)), (.ref b4), (.ref b4)])) st63 ?_
  obtain ⟨cl64, Ar64, q64, S64, N64, H64, G64⟩ := f57
  obtain ⟨T65, h65, X65, e65, W65, st65⟩ := stR X63 hx hZ e63 Ar64 (j := (6 : Int32)) (inb_of S64 ⟨by decide, by decide⟩) rfl (Sto.ofV Ar64 q64 O4v (Ins.self (EN.2.2.2.2.2.2.1.2.1.ext O61.2))) (g := (mkF m 47 #[.val (.int p0_0), .unset, .unset, .unset, .unset, .unset, .unset] [(.ref wINVALID_ATTRIBUTE_VALUE), (.int (6 : Int32)), (.ref b4), (.ref b4)])) rfl rfl (hb hby at_47)
  have f66 : Arv Z h65 b4 k4 (.object "com/example/buzon/buzon/engine/ApiError") (28 : Int32) [(.ref wMISSING_ACTION), (.ref wINVALID_ACTION), (.ref wMALFORMED_QUERY_STRING), (.ref wINVALID_ADDRESS), (.ref wMISSING_PARAMETER), (.ref wINVALID_PARAMETER_VALUE), (.ref wINVALID_ATTRIBUTE_VALUE), .null, .null, .null, .null, .null, .null, .null, .null, .null, .null, .null, .null, .null, .null, .null, .null, .null, .null, .null, .null, .null] .null := Arv.set Ar64 q64 S64 N64 H64 G64 rfl W65 6 rfl (Nat.le_of_ble_eq_true rfl)
  have K68 : Keep h0 h65 [] := K59.wr W65 (Or.inr sz_b4)
  have N69 := Fr.snoc X65 N60 gn_b4
  obtain ⟨Lh65, X65, N69⟩ := own_hide X65 N69
  have O70 := O61.wr W65 gn_b4
  have Z71 := (Nat.le_trans Z62 (Keep.of_wr W65).1)
  refine own_by (T' := T65) (g' := (mkF m 48 #[.val (.int p0_0), .unset, .unset, .unset, .unset, .unset, .unset] [(.ref b4)])) st65 ?_
  refine own_by (T' := T65) (g' := (mkF m 51 #[.val (.int p0_0), .unset, .unset, .unset, .unset, .unset, .unset] [(.int (7 : Int32)), (.ref b4), (.ref b4)])) (fun t k => ?_) ?_
  · show Steps p.tables e below (T65.setTop (mkF m 48 #[.val (.int p0_0), .unset, .unset, .unset, .unset, .unset, .unset] [(.ref b4)])) t
    refine XS.dup X65.here hx rfl (hb hby at_48) rfl rfl ?_
    show Steps p.tables e below (T65.setTop (mkF m 49 #[.val (.int p0_0), .unset, .unset, .unset, .unset, .unset, .unset] [(.ref b4), (.ref b4)])) t
    refine XS.bipush X65.here hx rfl (hb hby at_49) ?_
    show Steps p.tables e below (T65.setTop (mkF m 51 #[.val (.int p0_0), .unset, .unset, .unset, .unset, .unset, .unset] [(.int (7 : Int32)), (.ref b4), (.ref b4)])) t
    exact k
  obtain ⟨T72, X72, e72, st72⟩ := getS2 X65 hx hZ hown (host := "") (Or.inl (hw _ (List.mem_of_getElem? (i := 18) rfl))) Via.refl e65 (EN.2.2.2.2.2.2.2.1.1.ext O70.2) (g := (mkF m 51 #[.val (.int p0_0), .unset, .unset, .unset, .unset, .unset, .unset] [(.int (7 : Int32)), (.ref b4), (.ref b4)])) rfl (hb hby at_51)
  refine own_by (T' := T72) (g' := (mkF m 54 #[.val (.int p0_0), .unset, .unset, .unset, .unset, .unset, .unset] [(.ref wINVALID_ATTRIBUTE_NAME), (.int (7 : Int32)), (.ref b4), (.ref b4)])) st72 ?_
  obtain ⟨cl73, Ar73, q73, S73, N73, H73, G73⟩ := f66
  obtain ⟨T74, h74, X74, e74, W74, st74⟩ := stR X72 hx hZ e72 Ar73 (j := (7 : Int32)) (inb_of S73 ⟨by decide, by decide⟩) rfl (Sto.ofV Ar73 q73 O4v (Ins.self (EN.2.2.2.2.2.2.2.1.2.1.ext O70.2))) (g := (mkF m 54 #[.val (.int p0_0), .unset, .unset, .unset, .unset, .unset, .unset] [(.ref wINVALID_ATTRIBUTE_NAME), (.int (7 : Int32)), (.ref b4), (.ref b4)])) rfl rfl (hb hby at_54)
  have f75 : Arv Z h74 b4 k4 (.object "com/example/buzon/buzon/engine/ApiError") (28 : Int32) [(.ref wMISSING_ACTION), (.ref wINVALID_ACTION), (.ref wMALFORMED_QUERY_STRING), (.ref wINVALID_ADDRESS), (.ref wMISSING_PARAMETER), (.ref wINVALID_PARAMETER_VALUE), (.ref wINVALID_ATTRIBUTE_VALUE), (.ref wINVALID_ATTRIBUTE_NAME), .null, .null, .null, .null, .null, .null, .null, .null, .null, .null, .null, .null, .null, .null, .null, .null, .null, .null, .null, .null] .null := Arv.set Ar73 q73 S73 N73 H73 G73 rfl W74 7 rfl (Nat.le_of_ble_eq_true rfl)
  have K77 : Keep h0 h74 [] := K68.wr W74 (Or.inr sz_b4)
  have N78 := Fr.snoc X74 N69 gn_b4
  obtain ⟨Lh74, X74, N78⟩ := own_hide X74 N78
  have O79 := O70.wr W74 gn_b4
  have Z80 := (Nat.le_trans Z71 (Keep.of_wr W74).1)
  refine own_by (T' := T74) (g' := (mkF m 55 #[.val (.int p0_0), .unset, .unset, .unset, .unset, .unset, .unset] [(.ref b4)])) st74 ?_
  refine own_by (T' := T74) (g' := (mkF m 58 #[.val (.int p0_0), .unset, .unset, .unset, .unset, .unset, .unset] [(.int (8 : Int32)), (.ref b4), (.ref b4)])) (fun t k => ?_) ?_
  · show Steps p.tables e below (T74.setTop (mkF m 55 #[.val (.int p0_0), .unset, .unset, .unset, .unset, .unset, .unset] [(.ref b4)])) t
    refine XS.dup X74.here hx rfl (hb hby at_55) rfl rfl ?_
    show Steps p.tables e below (T74.setTop (mkF m 56 #[.val (.int p0_0), .unset, .unset, .unset, .unset, .unset, .unset] [(.ref b4), (.ref b4)])) t
    refine XS.bipush X74.here hx rfl (hb hby at_56) ?_
    show Steps p.tables e below (T74.setTop (mkF m 58 #[.val (.int p0_0), .unset, .unset, .unset, .unset, .unset, .unset] [(.int (8 : Int32)), (.ref b4), (.ref b4)])) t
    exact k
  obtain ⟨T81, X81, e81, st81⟩ := getS2 X74 hx hZ hown (host := "") (Or.inl (hw _ (List.mem_of_getElem? (i := 20) rfl))) Via.refl e74 (EN.2.2.2.2.2.2.2.2.1.1.ext O79.2) (g := (mkF m 58 #[.val (.int p0_0), .unset, .unset, .unset, .unset, .unset, .unset] [(.int (8 : Int32)), (.ref b4), (.ref b4)])) rfl (hb hby at_58)
  refine own_by (T' := T81) (g' := (mkF m 61 #[.val (.int p0_0), .unset, .unset, .unset, .unset, .unset, .unset] [(.ref wQUEUE_ALREADY_EXISTS), (.int (8 : Int32)), (.ref b4), (.ref b4)])) st81 ?_
  obtain ⟨cl82, Ar82, q82, S82, N82, H82, G82⟩ := f75
  obtain ⟨T83, h83, X83, e83, W83, st83⟩ := stR X81 hx hZ e81 Ar82 (j := (8 : Int32)) (inb_of S82 ⟨by decide, by decide⟩) rfl (Sto.ofV Ar82 q82 O4v (Ins.self (EN.2.2.2.2.2.2.2.2.1.2.1.ext O79.2))) (g := (mkF m 61 #[.val (.int p0_0), .unset, .unset, .unset, .unset, .unset, .unset] [(.ref wQUEUE_ALREADY_EXISTS), (.int (8 : Int32)), (.ref b4), (.ref b4)])) rfl rfl (hb hby at_61)
  have f84 : Arv Z h83 b4 k4 (.object "com/example/buzon/buzon/engine/ApiError") (28 : Int32) [(.ref wMISSING_ACTION), (.ref wINVALID_ACTION), (.ref wMALFORMED_QUERY_STRING), (.ref wINVALID_ADDRESS), (.ref wMISSING_PARAMETER), (.ref wINVALID_PARAMETER_VALUE), (.ref wINVALID_ATTRIBUTE_VALUE), (.ref wINVALID_ATTRIBUTE_NAME), (.ref wQUEUE_ALREADY_EXISTS), .null, .null, .null, .null, .null, .null, .null, .null, .null, .null, .null, .null, .null, .null, .null, .null, .null, .null, .null] .null := Arv.set Ar82 q82 S82 N82 H82 G82 rfl W83 8 rfl (Nat.le_of_ble_eq_true rfl)
  have K86 : Keep h0 h83 [] := K77.wr W83 (Or.inr sz_b4)
  have N87 := Fr.snoc X83 N78 gn_b4
  obtain ⟨Lh83, X83, N87⟩ := own_hide X83 N87
  have O88 := O79.wr W83 gn_b4
  have Z89 := (Nat.le_trans Z80 (Keep.of_wr W83).1)
  refine own_by (T' := T83) (g' := (mkF m 62 #[.val (.int p0_0), .unset, .unset, .unset, .unset, .unset, .unset] [(.ref b4)])) st83 ?_
  refine own_by (T' := T83) (g' := (mkF m 65 #[.val (.int p0_0), .unset, .unset, .unset, .unset, .unset, .unset] [(.int (9 : Int32)), (.ref b4), (.ref b4)])) (fun t k => ?_) ?_
  · show Steps p.tables e below (T83.setTop (mkF m 62 #[.val (.int p0_0), .unset, .unset, .unset, .unset, .unset, .unset] [(.ref b4)])) t
    refine XS.dup X83.here hx rfl (hb hby at_62) rfl rfl ?_
    show Steps p.tables e below (T83.setTop (mkF m 63 #[.val (.int p0_0), .unset, .unset, .unset, .unset, .unset, .unset] [(.ref b4), (.ref b4)])) t
    refine XS.bipush X83.here hx rfl (hb hby at_63) ?_
    show Steps p.tables e below (T83.setTop (mkF m 65 #[.val (.int p0_0), .unset, .unset, .unset, .unset, .unset, .unset] [(.int (9 : Int32)), (.ref b4), (.ref b4)])) t
    exact k
  obtain ⟨T90, X90, e90, st90⟩ := getS2 X83 hx hZ hown (host := "") (Or.inl (hw _ (List.mem_of_getElem? (i := 22) rfl))) Via.refl e83 (EN.2.2.2.2.2.2.2.2.2.1.1.ext O88.2) (g := (mkF m 65 #[.val (.int p0_0), .unset, .unset, .unset, .unset, .unset, .unset] [(.int (9 : Int32)), (.ref b4), (.ref b4)])) rfl (hb hby at_65)
  refine own_by (T' := T90) (g' := (mkF m 68 #[.val (.int p0_0), .unset, .unset, .unset, .unset, .unset, .unset] [(.ref wINVALID_MESSAGE_CONTENTS), (.int (9 : Int32)), (.ref b4), (.ref b4)])) st90 ?_
  obtain ⟨cl91, Ar91, q91, S91, N91, H91, G91⟩ := f84
  obtain ⟨T92, h92, X92, e92, W92, st92⟩ := stR X90 hx hZ e90 Ar91 (j := (9 : Int32)) (inb_of S91 ⟨by decide, by decide⟩) rfl (Sto.ofV Ar91 q91 O4v (Ins.self (EN.2.2.2.2.2.2.2.2.2.1.2.1.ext O88.2))) (g := (mkF m 68 #[.val (.int p0_0), .unset, .unset, .unset, .unset, .unset, .unset] [(.ref wINVALID_MESSAGE_CONTENTS), (.int (9 : Int32)), (.ref b4), (.ref b4)])) rfl rfl (hb hby at_68)
  have f93 : Arv Z h92 b4 k4 (.object "com/example/buzon/buzon/engine/ApiError") (28 : Int32) [(.ref wMISSING_ACTION), (.ref wINVALID_ACTION), (.ref wMALFORMED_QUERY_STRING), (.ref wINVALID_ADDRESS), (.ref wMISSING_PARAMETER), (.ref wINVALID_PARAMETER_VALUE), (.ref wINVALID_ATTRIBUTE_VALUE), (.ref wINVALID_ATTRIBUTE_NAME), (.ref wQUEUE_ALREADY_EXISTS), (.ref wINVALID_MESSAGE_CONTENTS), .null, .null, .null, .null, .null, .null, .null, .null, .null, .null, .null, .null, .null, .null, .null, .null, .null, .null] .null := Arv.set Ar91 q91 S91 N91 H91 G91 rfl W92 9 rfl (Nat.le_of_ble_eq_true rfl)
  have K95 : Keep h0 h92 [] := K86.wr W92 (Or.inr sz_b4)
  have N96 := Fr.snoc X92 N87 gn_b4
  obtain ⟨Lh92, X92, N96⟩ := own_hide X92 N96
  have O97 := O88.wr W92 gn_b4
  have Z98 := (Nat.le_trans Z89 (Keep.of_wr W92).1)
  refine own_by (T' := T92) (g' := (mkF m 69 #[.val (.int p0_0), .unset, .unset, .unset, .unset, .unset, .unset] [(.ref b4)])) st92 ?_
  refine own_by (T' := T92) (g' := (mkF m 72 #[.val (.int p0_0), .unset, .unset, .unset, .unset, .unset, .unset] [(.int (10 : Int32)), (.ref b4), (.ref b4)])) (fun t k => ?_) ?_
  · show Steps p.tables e below (T92.setTop (mkF m 69 #[.val (.int p0_0), .unset, .unset, .unset, .unset, .unset, .unset] [(.ref b4)])) t
    refine XS.dup X92.here hx rfl (hb hby at_69) rfl rfl ?_
    show Steps p.tables e below (T92.setTop (mkF m 70 #[.val (.int p0_0), .unset, .unset, .unset, .unset, .unset, .unset] [(.ref b4), (.ref b4)])) t
    refine XS.bipush X92.here hx rfl (hb hby at_70) ?_
    show Steps p.tables e below (T92.setTop (mkF m 72 #[.val (.int p0_0), .unset, .unset, .unset, .unset, .unset, .unset] [(.int (10 : Int32)), (.ref b4), (.ref b4)])) t
    exact k
  obtain ⟨T99, X99, e99, st99⟩ := getS2 X92 hx hZ hown (host := "") (Or.inl (hw _ (List.mem_of_getElem? (i := 24) rfl))) Via.refl e92 (EN.2.2.2.2.2.2.2.2.2.2.1.1.ext O97.2) (g := (mkF m 72 #[.val (.int p0_0), .unset, .unset, .unset, .unset, .unset, .unset] [(.int (10 : Int32)), (.ref b4), (.ref b4)])) rfl (hb hby at_72)
  refine own_by (T' := T99) (g' := (mkF m 75 #[.val (.int p0_0), .unset, .unset, .unset, .unset, .unset, .unset] [(.ref wNON_EXISTENT_QUEUE), (.int (10 : Int32)), (.ref b4), (.ref b4)])) st99 ?_
  obtain ⟨cl100, Ar100, q100, S100, N100, H100, G100⟩ := f93
  obtain ⟨T101, h101, X101, e101, W101, st101⟩ := stR X99 hx hZ e99 Ar100 (j := (10 : Int32)) (inb_of S100 ⟨by decide, by decide⟩) rfl (Sto.ofV Ar100 q100 O4v (Ins.self (EN.2.2.2.2.2.2.2.2.2.2.1.2.1.ext O97.2))) (g := (mkF m 75 #[.val (.int p0_0), .unset, .unset, .unset, .unset, .unset, .unset] [(.ref wNON_EXISTENT_QUEUE), (.int (10 : Int32)), (.ref b4), (.ref b4)])) rfl rfl (hb hby at_75)
  have f102 : Arv Z h101 b4 k4 (.object "com/example/buzon/buzon/engine/ApiError") (28 : Int32) [(.ref wMISSING_ACTION), (.ref wINVALID_ACTION), (.ref wMALFORMED_QUERY_STRING), (.ref wINVALID_ADDRESS), (.ref wMISSING_PARAMETER), (.ref wINVALID_PARAMETER_VALUE), (.ref wINVALID_ATTRIBUTE_VALUE), (.ref wINVALID_ATTRIBUTE_NAME), (.ref wQUEUE_ALREADY_EXISTS), (.ref wINVALID_MESSAGE_CONTENTS), (.ref wNON_EXISTENT_QUEUE), .null, .null, .null, .null, .null, .null, .null, .null, .null, .null, .null, .null, .null, .null, .null, .null, .null] .null := Arv.set Ar100 q100 S100 N100 H100 G100 rfl W101 10 rfl (Nat.le_of_ble_eq_true rfl)
  have K104 : Keep h0 h101 [] := K95.wr W101 (Or.inr sz_b4)
  have N105 := Fr.snoc X101 N96 gn_b4
  obtain ⟨Lh101, X101, N105⟩ := own_hide X101 N105
  have O106 := O97.wr W101 gn_b4
  have Z107 := (Nat.le_trans Z98 (Keep.of_wr W101).1)
  refine own_by (T' := T101) (g' := (mkF m 76 #[.val (.int p0_0), .unset, .unset, .unset, .unset, .unset, .unset] [(.ref b4)])) st101 ?_
  refine own_by (T' := T101) (g' := (mkF m 79 #[.val (.int p0_0), .unset, .unset, .unset, .unset, .unset, .unset] [(.int (11 : Int32)), (.ref b4), (.ref b4)])) (fun t k => ?_) ?_
  · show Steps p.tables e below (T101.setTop (mkF m 76 #[.val (.int p0_0), .unset, .unset, .unset, .unset, .unset, .unset] [(.ref b4)])) t
    refine XS.dup X101.here hx rfl (hb hby at_76) rfl rfl ?_
    show Steps p.tables e below (T101.setTop (mkF m 77 #[.val (.int p0_0), .unset, .unset, .unset, .unset, .unset, .unset] [(.ref b4), (.ref b4)])) t
    refine XS.bipush X101.here hx rfl (hb hby at_77) ?_
    show Steps p.tables e below (T101.setTop (mkF m 79 #[.val (.int p0_0), .unset, .unset, .unset, .unset, .unset, .unset] [(.int (11 : Int32)), (.ref b4), (.ref b4)])) t
    exact k
  obtain ⟨T108, X108, e108, st108⟩ := getS2 X101 hx hZ hown (host := "") (Or.inl (hw _ (List.mem_of_getElem? (i := 26) rfl))) Via.refl e101 (EN.2.2.2.2.2.2.2.2.2.2.2.1.1.ext O106.2) (g := (mkF m 79 #[.val (.int p0_0), .unset, .unset, .unset, .unset, .unset, .unset] [(.int (11 : Int32)), (.ref b4), (.ref b4)])) rfl (hb hby at_79)
  refine own_by (T' := T108) (g' := (mkF m 82 #[.val (.int p0_0), .unset, .unset, .unset, .unset, .unset, .unset] [(.ref wRECEIPT_HANDLE_IS_INVALID), (.int (11 : Int32)), (.ref b4), (.ref b4)])) st108 ?_
  obtain ⟨cl109, Ar109, q109, S109, N109, H109, G109⟩ := f102
  obtain ⟨T110, h110, X110, e110, W110, st110⟩ := stR X108 hx hZ e108 Ar109 (j := (11 : Int32)) (inb_of S109 ⟨by decide, by decide⟩) rfl (Sto.ofV Ar109 q109 O4v (Ins.self (EN.2.2.2.2.2.2.2.2.2.2.2.1.2.1.ext O106.2))) (g := (mkF m 82 #[.val (.int p0_0), .unset, .unset, .unset, .unset, .unset, .unset] [(.ref wRECEIPT_HANDLE_IS_INVALID), (.int (11 : Int32)), (.ref b4), (.ref b4)])) rfl rfl (hb hby at_82)
  have f111 : Arv Z h110 b4 k4 (.object "com/example/buzon/buzon/engine/ApiError") (28 : Int32) [(.ref wMISSING_ACTION), (.ref wINVALID_ACTION), (.ref wMALFORMED_QUERY_STRING), (.ref wINVALID_ADDRESS), (.ref wMISSING_PARAMETER), (.ref wINVALID_PARAMETER_VALUE), (.ref wINVALID_ATTRIBUTE_VALUE), (.ref wINVALID_ATTRIBUTE_NAME), (.ref wQUEUE_ALREADY_EXISTS), (.ref wINVALID_MESSAGE_CONTENTS), (.ref wNON_EXISTENT_QUEUE), (.ref wRECEIPT_HANDLE_IS_INVALID), .null, .null, .null, .null, .null, .null, .null, .null, .null, .null, .null, .null, .null, .null, .null, .null] .null := Arv.set Ar109 q109 S109 N109 H109 G109 rfl W110 11 rfl (Nat.le_of_ble_eq_true rfl)
  have K113 : Keep h0 h110 [] := K104.wr W110 (Or.inr sz_b4)
  have N114 := Fr.snoc X110 N105 gn_b4
  obtain ⟨Lh110, X110, N114⟩ := own_hide X110 N114
  have O115 := O106.wr W110 gn_b4
  have Z116 := (Nat.le_trans Z107 (Keep.of_wr W110).1)
  refine own_by (T' := T110) (g' := (mkF m 83 #[.val (.int p0_0), .unset, .unset, .unset, .unset, .unset, .unset] [(.ref b4)])) st110 ?_
  refine own_by (T' := T110) (g' := (mkF m 86 #[.val (.int p0_0), .unset, .unset, .unset, .unset, .unset, .unset] [(.int (12 : Int32)), (.ref b4), (.ref b4)])) (fun t k => ?_) ?_
  · show Steps p.tables e below (T110.setTop (mkF m 83 #[.val (.int p0_0), .unset, .unset, .unset, .unset, .unset, .unset] [(.ref b4)])) t
    refine XS.dup X110.here hx rfl (hb hby at_83) rfl rfl ?_
    show Steps p.tables e below (T110.setTop (mkF m 84 #[.val (.int p0_0), .unset, .unset, .unset, .unset, .unset, .unset] [(.ref b4), (.ref b4)])) t
    refine XS.bipush X110.here hx rfl (hb hby at_84) ?_
    show Steps p.tables e below (T110.setTop (mkF m 86 #[.val (.int p0_0), .unset, .unset, .unset, .unset, .unset, .unset] [(.int (12 : Int32)), (.ref b4), (.ref b4)])) t
    exact k
  obtain ⟨T117, X117, e117, st117⟩ := getS2 X110 hx hZ hown (host := "") (Or.inl (hw _ (List.mem_of_getElem? (i := 28) rfl))) Via.refl e110 (EN.2.2.2.2.2.2.2.2.2.2.2.2.1.1.ext O115.2) (g := (mkF m 86 #[.val (.int p0_0), .unset, .unset, .unset, .unset, .unset, .unset] [(.int (12 : Int32)), (.ref b4), (.ref b4)])) rfl (hb hby at_86)
  refine own_by (T' := T117) (g' := (mkF m 89 #[.val (.int p0_0), .unset, .unset, .unset, .unset, .unset, .unset] [(.ref wMESSAGE_NOT_INFLIGHT), (.int (12 : Int32)), (.ref b4), (.ref b4)])) st117 ?_
  obtain ⟨cl118, Ar118, q118, S118, N118, H118, G118⟩ := f111
  obtain ⟨T119, h119, X119, e119, W119, st119⟩ := stR X117 hx hZ e117 Ar118 (j := (12 : Int32)) (inb_of S118 ⟨by decide, by decide⟩) rfl (Sto.ofV Ar118 q118 O4v (Ins.self (EN.2.2.2.2.2.2.2.2.2.2.2.2.1.2.1.ext O115.2))) (g := (mkF m 89 #[.val (.int p0_0), .unset, .unset, .unset, .unset, .unset, .unset] [(.ref wMESSAGE_NOT_INFLIGHT), (.int (12 : Int32)), (.ref b4), (.ref b4)])) rfl rfl (hb hby at_89)
  have f120 : Arv Z h119 b4 k4 (.object "com/example/buzon/buzon/engine/ApiError") (28 : Int32) [(.ref wMISSING_ACTION), (.ref wINVALID_ACTION), (.ref wMALFORMED_QUERY_STRING), (.ref wINVALID_ADDRESS), (.ref wMISSING_PARAMETER), (.ref wINVALID_PARAMETER_VALUE), (.ref wINVALID_ATTRIBUTE_VALUE), (.ref wINVALID_ATTRIBUTE_NAME), (.ref wQUEUE_ALREADY_EXISTS), (.ref wINVALID_MESSAGE_CONTENTS), (.ref wNON_EXISTENT_QUEUE), (.ref wRECEIPT_HANDLE_IS_INVALID), (.ref wMESSAGE_NOT_INFLIGHT), .null, .null, .null, .null, .null, .null, .null, .null, .null, .null, .null, .null, .null, .null, .null] .null := Arv.set Ar118 q118 S118 N118 H118 G118 rfl W119 12 rfl (Nat.le_of_ble_eq_true rfl)
  have K122 : Keep h0 h119 [] := K113.wr W119 (Or.inr sz_b4)
  have N123 := Fr.snoc X119 N114 gn_b4
  obtain ⟨Lh119, X119, N123⟩ := own_hide X119 N123
  have O124 := O115.wr W119 gn_b4
  have Z125 := (Nat.le_trans Z116 (Keep.of_wr W119).1)
  refine own_by (T' := T119) (g' := (mkF m 90 #[.val (.int p0_0), .unset, .unset, .unset, .unset, .unset, .unset] [(.ref b4)])) st119 ?_
  refine own_by (T' := T119) (g' := (mkF m 93 #[.val (.int p0_0), .unset, .unset, .unset, .unset, .unset, .unset] [(.int (13 : Int32)), (.ref b4), (.ref b4)])) (fun t k => ?_) ?_
  · show Steps p.tables e below (T119.setTop (mkF m 90 #[.val (.int p0_0), .unset, .unset, .unset, .unset, .unset, .unset] [(.ref b4)])) t
    refine XS.dup X119.here hx rfl (hb hby at_90) rfl rfl ?_
    show Steps p.tables e below (T119.setTop (mkF m 91 #[.val (.int p0_0), .unset, .unset, .unset, .unset, .unset, .unset] [(.ref b4), (.ref b4)])) t
    refine XS.bipush X119.here hx rfl (hb hby at_91) ?_
    show Steps p.tables e below (T119.setTop (mkF m 93 #[.val (.int p0_0), .unset, .unset, .unset, .unset, .unset, .unset] [(.int (13 : Int32)), (.ref b4), (.ref b4)])) t
    exact k
  obtain ⟨T126, X126, e126, st126⟩ := getS2 X119 hx hZ hown (host := "") (Or.inl (hw _ (List.mem_of_getElem? (i := 30) rfl))) Via.refl e119 (EN.2.2.2.2.2.2.2.2.2.2.2.2.2.1.1.ext O124.2) (g := (mkF m 93 #[.val (.int p0_0), .unset, .unset, .unset, .unset, .unset, .unset] [(.int (13 : Int32)), (.ref b4), (.ref b4)])) rfl (hb hby at_93)
  refine own_by (T' := T126) (g' := (mkF m 96 #[.val (.int p0_0), .unset, .unset, .unset, .unset, .unset, .unset] [(.ref wEMPTY_BATCH_REQUEST), (.int (13 : Int32)), (.ref b4), (.ref b4)])) st126 ?_
  obtain ⟨cl127, Ar127, q127, S127, N127, H127, G127⟩ := f120
  obtain ⟨T128, h128, X128, e128, W128, st128⟩ := stR X126 hx hZ e126 Ar127 (j := (13 : Int32)) (inb_of S127 ⟨by decide, by decide⟩) rfl (Sto.ofV Ar127 q127 O4v (Ins.self (EN.2.2.2.2.2.2.2.2.2.2.2.2.2.1.2.1.ext O124.2))) (g := (mkF m 96 #[.val (.int p0_0), .unset, .unset, .unset, .unset, .unset, .unset] [(.ref wEMPTY_BATCH_REQUEST), (.int (13 : Int32)), (.ref b4), (.ref b4)])) rfl rfl (hb hby at_96)
  have f129 : Arv Z h128 b4 k4 (.object "com/example/buzon/buzon/engine/ApiError") (28 : Int32) [(.ref wMISSING_ACTION), (.ref wINVALID_ACTION), (.ref wMALFORMED_QUERY_STRING), (.ref wINVALID_ADDRESS), (.ref wMISSING_PARAMETER), (.ref wINVALID_PARAMETER_VALUE), (.ref wINVALID_ATTRIBUTE_VALUE), (.ref wINVALID_ATTRIBUTE_NAME), (.ref wQUEUE_ALREADY_EXISTS), (.ref wINVALID_MESSAGE_CONTENTS), (.ref wNON_EXISTENT_QUEUE), (.ref wRECEIPT_HANDLE_IS_INVALID), (.ref wMESSAGE_NOT_INFLIGHT), (.ref wEMPTY_BATCH_REQUEST), .null, .null, .null, .null, .null, .null, .null, .null, .null, .null, .null, .null, .null, .null] .null := Arv.set Ar127 q127 S127 N127 H127 G127 rfl W128 13 rfl (Nat.le_of_ble_eq_true rfl)
  have K131 : Keep h0 h128 [] := K122.wr W128 (Or.inr sz_b4)
  have N132 := Fr.snoc X128 N123 gn_b4
  obtain ⟨Lh128, X128, N132⟩ := own_hide X128 N132
  have O133 := O124.wr W128 gn_b4
  have Z134 := (Nat.le_trans Z125 (Keep.of_wr W128).1)
  refine own_by (T' := T128) (g' := (mkF m 97 #[.val (.int p0_0), .unset, .unset, .unset, .unset, .unset, .unset] [(.ref b4)])) st128 ?_
  refine own_by (T' := T128) (g' := (mkF m 100 #[.val (.int p0_0), .unset, .unset, .unset, .unset, .unset, .unset] [(.int (14 : Int32)), (.ref b4), (.ref b4)])) (fun t k => ?_) ?_
  · show Steps p.tables e below (T128.setTop (mkF m 97 #[.val (.int p0_0), .unset, .unset, .unset, .unset, .unset, .unset] [(.ref b4)])) t
    refine XS.dup X128.here hx rfl (hb hby at_97) rfl rfl ?_
    show Steps p.tables e below (T128.setTop (mkF m 98 #[.val (.int p0_0), .unset, .unset, .unset, .unset, .unset, .unset] [(.ref b4), (.ref b4)])) t
    refine XS.bipush X128.here hx rfl (hb hby at_98) ?_
    show Steps p.tables e below (T128.setTop (mkF m 100 #[.val (.int p0_0), .unset, .unset, .unset, .unset, .unset, .unset] [(.int (14 : Int32)), (.ref b4), (.ref b4)])) t
    exact k
  obtain ⟨T135, X135, e135, st135⟩ := getS2 X128 hx hZ hown (host := "") (Or.inl (hw _ (List.mem_of_getElem? (i := 32) rfl))) Via.refl e128 (EN.2.2.2.2.2.2.2.2.2.2.2.2.2.2.1.1.ext O133.2) (g := (mkF m 100 #[.val (.int p0_0), .unset, .unset, .unset, .unset, .unset, .unset] [(.int (14 : Int32)), (.ref b4), (.ref b4)])) rfl (hb hby at_100)
  refine own_by (T' := T135) (g' := (mkF m 103 #[.val (.int p0_0), .unset, .unset, .unset, .unset, .unset, .unset] [(.ref wTOO_MANY_ENTRIES_IN_BATCH_REQUEST), (.int (14 : Int32)), (.ref b4), (.ref b4)])) st135 ?_
  obtain ⟨cl136, Ar136, q136, S136, N136, H136, G136⟩ := f129
  obtain ⟨T137, h137, X137, e137, W137, st137⟩ := stR X135 hx hZ e135 Ar136 (j := (14 : Int32)) (inb_of S136 ⟨by decide, by decide⟩) rfl (Sto.ofV Ar136 q136 O4v (Ins.self (EN.2.2.2.2.2.2.2.2.2.2.2.2.2.2.1.2.1.ext O133.2))) (g := (mkF m 103 #[.val (.int p0_0), .unset, .unset, .unset, .unset, .unset, .unset] [(.ref wTOO_MANY_ENTRIES_IN_BATCH_REQUEST), (.int (14 : Int32)), (.ref b4), (.ref b4)])) rfl rfl (hb hby at_103)
  have f138 : Arv Z h137 b4 k4 (.object "com/example/buzon/buzon/engine/ApiError") (28 : Int32) [(.ref wMISSING_ACTION), (.ref wINVALID_ACTION), (.ref wMALFORMED_QUERY_STRING), (.ref wINVALID_ADDRESS), (.ref wMISSING_PARAMETER), (.ref wINVALID_PARAMETER_VALUE), (.ref wINVALID_ATTRIBUTE_VALUE), (.ref wINVALID_ATTRIBUTE_NAME), (.ref wQUEUE_ALREADY_EXISTS), (.ref wINVALID_MESSAGE_CONTENTS), (.ref wNON_EXISTENT_QUEUE), (.ref wRECEIPT_HANDLE_IS_INVALID), (.ref wMESSAGE_NOT_INFLIGHT), (.ref wEMPTY_BATCH_REQUEST), (.ref wTOO_MANY_ENTRIES_IN_BATCH_REQUEST), .null, .null, .null, .null, .null, .null, .null, .null, .null, .null, .null, .null, .null] .null := Arv.set Ar136 q136 S136 N136 H136 G136 rfl W137 14 rfl (Nat.le_of_ble_eq_true rfl)
  have K140 : Keep h0 h137 [] := K131.wr W137 (Or.inr sz_b4)
  have N141 := Fr.snoc X137 N132 gn_b4
  obtain ⟨Lh137, X137, N141⟩ := own_hide X137 N141
  have O142 := O133.wr W137 gn_b4
  have Z143 := (Nat.le_trans Z134 (Keep.of_wr W137).1)
  refine own_by (T' := T137) (g' := (mkF m 104 #[.val (.int p0_0), .unset, .unset, .unset, .unset, .unset, .unset] [(.ref b4)])) st137 ?_
  refine own_by (T' := T137) (g' := (mkF m 107 #[.val (.int p0_0), .unset, .unset, .unset, .unset, .unset, .unset] [(.int (15 : Int32)), (.ref b4), (.ref b4)])) (fun t k => ?_) ?_
  · show Steps p.tables e below (T137.setTop (mkF m 104 #[.val (.int p0_0), .unset, .unset, .unset, .unset, .unset, .unset] [(.ref b4)])) t
    refine XS.dup X137.here hx rfl (hb hby at_104) rfl rfl ?_
    show Steps p.tables e below (T137.setTop (mkF m 105 #[.val (.int p0_0), .unset, .unset, .unset, .unset, .unset, .unset] [(.ref b4), (.ref b4)])) t
    refine XS.bipush X137.here hx rfl (hb hby at_105) ?_
    show Steps p.tables e below (T137.setTop (mkF m 107 #[.val (.int p0_0), .unset, .unset, .unset, .unset, .unset, .unset] [(.int (15 : Int32)), (.ref b4), (.ref b4)])) t
    exact k
  obtain ⟨T144, X144, e144, st144⟩ := getS2 X137 hx hZ hown (host := "") (Or.inl (hw _ (List.mem_of_getElem? (i := 34) rfl))) Via.refl e137 (EN.2.2.2.2.2.2.2.2.2.2.2.2.2.2.2.1.1.ext O142.2) (g := (mkF m 107 #[.val (.int p0_0), .unset, .unset, .unset, .unset, .unset, .unset] [(.int (15 : Int32)), (.ref b4), (.ref b4)])) rfl (hb hby at_107)
  refine own_by (T' := T144) (g' := (mkF m 110 #[.val (.int p0_0), .unset, .unset, .unset, .unset, .unset, .unset] [(.ref wBATCH_ENTRY_IDS_NOT_DISTINCT), (.int (15 : Int32)), (.ref b4), (.ref b4)])) st144 ?_
  obtain ⟨cl145, Ar145, q145, S145, N145, H145, G145⟩ := f138
  obtain ⟨T146, h146, X146, e146, W146, st146⟩ := stR X144 hx hZ e144 Ar145 (j := (15 : Int32)) (inb_of S145 ⟨by decide, by decide⟩) rfl (Sto.ofV Ar145 q145 O4v (Ins.self (EN.2.2.2.2.2.2.2.2.2.2.2.2.2.2.2.1.2.1.ext O142.2))) (g := (mkF m 110 #[.val (.int p0_0), .unset, .unset, .unset, .unset, .unset, .unset] [(.ref wBATCH_ENTRY_IDS_NOT_DISTINCT), (.int (15 : Int32)), (.ref b4), (.ref b4)])) rfl rfl (hb hby at_110)
  have f147 : Arv Z h146 b4 k4 (.object "com/example/buzon/buzon/engine/ApiError") (28 : Int32) [(.ref wMISSING_ACTION), (.ref wINVALID_ACTION), (.ref wMALFORMED_QUERY_STRING), (.ref wINVALID_ADDRESS), (.ref wMISSING_PARAMETER), (.ref wINVALID_PARAMETER_VALUE), (.ref wINVALID_ATTRIBUTE_VALUE), (.ref wINVALID_ATTRIBUTE_NAME), (.ref wQUEUE_ALREADY_EXISTS), (.ref wINVALID_MESSAGE_CONTENTS), (.ref wNON_EXISTENT_QUEUE), (.ref wRECEIPT_HANDLE_IS_INVALID), (.ref wMESSAGE_NOT_INFLIGHT), (.ref wEMPTY_BATCH_REQUEST), (.ref wTOO_MANY_ENTRIES_IN_BATCH_REQUEST), (.ref wBATCH_ENTRY_IDS_NOT_DISTINCT), .null, .null, .null, .null, .null, .null, .null, .null, .null, .null, .null, .null] .null := Arv.set Ar145 q145 S145 N145 H145 G145 rfl W146 15 rfl (Nat.le_of_ble_eq_true rfl)
  have K149 : Keep h0 h146 [] := K140.wr W146 (Or.inr sz_b4)
  have N150 := Fr.snoc X146 N141 gn_b4
  obtain ⟨Lh146, X146, N150⟩ := own_hide X146 N150
  have O151 := O142.wr W146 gn_b4
  have Z152 := (Nat.le_trans Z143 (Keep.of_wr W146).1)
  refine own_by (T' := T146) (g' := (mkF m 111 #[.val (.int p0_0), .unset, .unset, .unset, .unset, .unset, .unset] [(.ref b4)])) st146 ?_
  refine own_by (T' := T146) (g' := (mkF m 114 #[.val (.int p0_0), .unset, .unset, .unset, .unset, .unset, .unset] [(.int (16 : Int32)), (.ref b4), (.ref b4)])) (fun t k => ?_) ?_
  · show Steps p.tables e below (T146.setTop (mkF m 111 #[.val (.int p0_0), .unset, .unset, .unset, .unset, .unset, .unset] [(.ref b4)])) t
    refine XS.dup X146.here hx rfl (hb hby at_111) rfl rfl ?_
    show Steps p.tables e below (T146.setTop (mkF m 112 #[.val (.int p0_0), .unset, .unset, .unset, .unset, .unset, .unset] [(.ref b4), (.ref b4)])) t
    refine XS.bipush X146.here hx rfl (hb hby at_112) ?_
    show Steps p.tables e below (T146.setTop (mkF m 114 #[.val (.int p0_0), .unset, .unset, .unset, .unset, .unset, .unset] [(.int (16 : Int32)), (.ref b4), (.ref b4)])) t
    exact k
  obtain ⟨T153, X153, e153, st153⟩ := getS2 X146 hx hZ hown (host := "") (Or.inl (hw _ (List.mem_of_getElem? (i := 36) rfl))) Via.refl e146 (EN.2.2.2.2.2.2.2.2.2.2.2.2.2.2.2.2.1.1.ext O151.2) (g := (mkF m 114 #[.val (.int p0_0), .unset, .unset, .unset, .unset, .unset, .unset] [(.int (16 : Int32)), (.ref b4), (.ref b4)])) rfl (hb hby at_114)
  refine own_by (T' := T153) (g' := (mkF m 117 #[.val (.int p0_0), .unset, .unset, .unset, .unset, .unset, .unset] [(.ref wINVALID_BATCH_ENTRY_ID), (.int (16 : Int32)), (.ref b4), (.ref b4)])) st153 ?_
  obtain ⟨cl154, Ar154, q154, S154, N154, H154, G154⟩ := f147
  obtain ⟨T155, h155, X155, e155, W155, st155⟩ := stR X153 hx hZ e153 Ar154 (j := (16 : Int32)) (inb_of S154 ⟨by decide, by decide⟩) rfl (Sto.ofV Ar154 q154 O4v (Ins.self (EN.2.2.2.2.2.2.2.2.2.2.2.2.2.2.2.2.1.2.1.ext O151.2))) (g := (mkF m 117 #[.val (.int p0_0), .unset, .unset, .unset, .unset, .unset, .unset] [(.ref wINVALID_BATCH_ENTRY_ID), (.int (16 : Int32)), (.ref b4), (.ref b4)])) rfl rfl (hb hby at_117)
  have f156 : Arv Z h155 b4 k4 (.object "com/example/buzon/buzon/engine/ApiError") (28 : Int32) [(.ref wMISSING_ACTION), (.ref wINVALID_ACTION), (.ref wMALFORMED_QUERY_STRING), (.ref wINVALID_ADDRESS), (.ref wMISSING_PARAMETER), (.ref wINVALID_PARAMETER_VALUE), (.ref wINVALID_ATTRIBUTE_VALUE), (.ref wINVALID_ATTRIBUTE_NAME), (.ref wQUEUE_ALREADY_EXISTS), (.ref wINVALID_MESSAGE_CONTENTS), (.ref wNON_EXISTENT_QUEUE), (.ref wRECEIPT_HANDLE_IS_INVALID), (.ref wMESSAGE_NOT_INFLIGHT), (.ref wEMPTY_BATCH_REQUEST), (.ref wTOO_MANY_ENTRIES_IN_BATCH_REQUEST), (.ref wBATCH_ENTRY_IDS_NOT_DISTINCT), (.ref wINVALID_BATCH_ENTRY_ID), .null, .null, .null, .null, .null, .null, .null, .null, .null, .null, .null] .null := Arv.set Ar154 q154 S154 N154 H154 G154 rfl W155 16 rfl (Nat.le_of_ble_eq_true rfl)
  have K158 : Keep h0 h155 [] := K149.wr W155 (Or.inr sz_b4)
  have N159 := Fr.snoc X155 N150 gn_b4
  obtain ⟨Lh155, X155, N159⟩ := own_hide X155 N159
  have O160 := O151.wr W155 gn_b4
  have Z161 := (Nat.le_trans Z152 (Keep.of_wr W155).1)
  refine own_by (T' := T155) (g' := (mkF m 118 #[.val (.int p0_0), .unset, .unset, .unset, .unset, .unset, .unset] [(.ref b4)])) st155 ?_
  refine own_by (T' := T155) (g' := (mkF m 121 #[.val (.int p0_0), .unset, .unset, .unset, .unset, .unset, .unset] [(.int (17 : Int32)), (.ref b4), (.ref b4)])) (fun t k => ?_) ?_
  · show Steps p.tables e below (T155.setTop (mkF m 118 #[.val (.int p0_0), .unset, .unset, .unset, .unset, .unset, .unset] [(.ref b4)])) t
    refine XS.dup X155.here hx rfl (hb hby at_118) rfl rfl ?_
    show Steps p.tables e below (T155.setTop (mkF m 119 #[.val (.int p0_0), .unset, .unset, .unset, .unset, .unset, .unset] [(.ref b4), (.ref b4)])) t
    refine XS.bipush X155.here hx rfl (hb hby at_119) ?_
    show Steps p.tables e below (T155.setTop (mkF m 121 #[.val (.int p0_0), .unset, .unset, .unset, .unset, .unset, .unset] [(.int (17 : Int32)), (.ref b4), (.ref b4)])) t
    exact k
  obtain ⟨T162, X162, e162, st162⟩ := getS2 X155 hx hZ hown (host := "") (Or.inl (hw _ (List.mem_of_getElem? (i := 38) rfl))) Via.refl e155 (EN.2.2.2.2.2.2.2.2.2.2.2.2.2.2.2.2.2.1.1.ext O160.2) (g := (mkF m 121 #[.val (.int p0_0), .unset, .unset, .unset, .unset, .unset, .unset] [(.int (17 : Int32)), (.ref b4), (.ref b4)])) rfl (hb hby at_121)
  refine own_by (T' := T162) (g' := (mkF m 124 #[.val (.int p0_0), .unset, .unset, .unset, .unset, .unset, .unset] [(.ref wBATCH_REQUEST_TOO_LONG), (.int (17 : Int32)), (.ref b4), (.ref b4)])) st162 ?_
  obtain ⟨cl163, Ar163, q163, S163, N163, H163, G163⟩ := f156
  obtain ⟨T164, h164, X164, e164, W164, st164⟩ := stR X162 hx hZ e162 Ar163 (j := (17 : Int32)) (inb_of S163 ⟨by decide, by decide⟩) rfl (Sto.ofV Ar163 q163 O4v (Ins.self (EN.2.2.2.2.2.2.2.2.2.2.2.2.2.2.2.2.2.1.2.1.ext O160.2))) (g := (mkF m 124 #[.val (.int p0_0), .unset, .unset, .unset, .unset, .unset, .unset] [(.ref wBATCH_REQUEST_TOO_LONG), (.int (17 : Int32)), (.ref b4), (.ref b4)])) rfl rfl (hb hby at_124)
  have f165 : Arv Z h164 b4 k4 (.object "com/example/buzon/buzon/engine/ApiError") (28 : Int32) [(.ref wMISSING_ACTION), (.ref wINVALID_ACTION), (.ref wMALFORMED_QUERY_STRING), (.ref wINVALID_ADDRESS), (.ref wMISSING_PARAMETER), (.ref wINVALID_PARAMETER_VALUE), (.ref wINVALID_ATTRIBUTE_VALUE), (.ref wINVALID_ATTRIBUTE_NAME), (.ref wQUEUE_ALREADY_EXISTS), (.ref wINVALID_MESSAGE_CONTENTS), (.ref wNON_EXISTENT_QUEUE), (.ref wRECEIPT_HANDLE_IS_INVALID), (.ref wMESSAGE_NOT_INFLIGHT), (.ref wEMPTY_BATCH_REQUEST), (.ref wTOO_MANY_ENTRIES_IN_BATCH_REQUEST), (.ref wBATCH_ENTRY_IDS_NOT_DISTINCT), (.ref wINVALID_BATCH_ENTRY_ID), (.ref wBATCH_REQUEST_TOO_LONG), .null, .null, .null, .null, .null, .null, .null, .null, .null, .null] .null := Arv.set Ar163 q163 S163 N163 H163 G163 rfl W164 17 rfl (Nat.le_of_ble_eq_true rfl)
  have K167 : Keep h0 h164 [] := K158.wr W164 (Or.inr sz_b4)
  have N168 := Fr.snoc X164 N159 gn_b4
  obtain ⟨Lh164, X164, N168⟩ := own_hide X164 N168
  have O169 := O160.wr W164 gn_b4
  have Z170 := (Nat.le_trans Z161 (Keep.of_wr W164).1)
  refine own_by (T' := T164) (g' := (mkF m 125 #[.val (.int p0_0), .unset, .unset, .unset, .unset, .unset, .unset] [(.ref b4)])) st164 ?_
  refine own_by (T' := T164) (g' := (mkF m 128 #[.val (.int p0_0), .unset, .unset, .unset, .unset, .unset, .unset] [(.int (18 : Int32)), (.ref b4), (.ref b4)])) (fun t k => ?_) ?_
  · show Steps p.tables e below (T164.setTop (mkF m 125 #[.val (.int p0_0), .unset, .unset, .unset, .unset, .unset, .unset] [(.ref b4)])) t
    refine XS.dup X164.here hx rfl (hb hby at_125) rfl rfl ?_
    show Steps p.tables e below (T164.setTop (mkF m 126 #[.val (.int p0_0), .unset, .unset, .unset, .unset, .unset, .unset] [(.ref b4), (.ref b4)])) t
    refine XS.bipush X164.here hx rfl (hb hby at_126) ?_
    show Steps p.tables e below (T164.setTop (mkF m 128 #[.val (.int p0_0), .unset, .unset, .unset, .unset, .unset, .unset] [(.int (18 : Int32)), (.ref b4), (.ref b4)])) t
    exact k
  obtain ⟨T171, X171, e171, st171⟩ := getS2 X164 hx hZ hown (host := "") (Or.inl (hw _ (List.mem_of_getElem? (i := 40) rfl))) Via.refl e164 (EN.2.2.2.2.2.2.2.2.2.2.2.2.2.2.2.2.2.2.1.1.ext O169.2) (g := (mkF m 128 #[.val (.int p0_0), .unset, .unset, .unset, .unset, .unset, .unset] [(.int (18 : Int32)), (.ref b4), (.ref b4)])) rfl (hb hby at_128)
  refine own_by (T' := T171) (g' := (mkF m 131 #[.val (.int p0_0), .unset, .unset, .unset, .unset, .unset, .unset] [(.ref wOVER_LIMIT), (.int (18 : Int32)), (.ref b4), (.ref b4)])) st171 ?_
  obtain ⟨cl172, Ar172, q172, S172, N172, H172, G172⟩ := f165
  obtain ⟨T173, h173, X173, e173, W173, st173⟩ := stR X171 hx hZ e171 Ar172 (j := (18 : Int32)) (inb_of S172 ⟨by decide, by decide⟩) rfl (Sto.ofV Ar172 q172 O4v (Ins.self (EN.2.2.2.2.2.2.2.2.2.2.2.2.2.2.2.2.2.2.1.2.1.ext O169.2))) (g := (mkF m 131 #[.val (.int p0_0), .unset, .unset, .unset, .unset, .unset, .unset] [(.ref wOVER_LIMIT), (.int (18 : Int32)), (.ref b4), (.ref b4)])) rfl rfl (hb hby at_131)
  have f174 : Arv Z h173 b4 k4 (.object "com/example/buzon/buzon/engine/ApiError") (28 : Int32) [(.ref wMISSING_ACTION), (.ref wINVALID_ACTION), (.ref wMALFORMED_QUERY_STRING), (.ref wINVALID_ADDRESS), (.ref wMISSING_PARAMETER), (.ref wINVALID_PARAMETER_VALUE), (.ref wINVALID_ATTRIBUTE_VALUE), (.ref wINVALID_ATTRIBUTE_NAME), (.ref wQUEUE_ALREADY_EXISTS), (.ref wINVALID_MESSAGE_CONTENTS), (.ref wNON_EXISTENT_QUEUE), (.ref wRECEIPT_HANDLE_IS_INVALID), (.ref wMESSAGE_NOT_INFLIGHT), (.ref wEMPTY_BATCH_REQUEST), (.ref wTOO_MANY_ENTRIES_IN_BATCH_REQUEST), (.ref wBATCH_ENTRY_IDS_NOT_DISTINCT), (.ref wINVALID_BATCH_ENTRY_ID), (.ref wBATCH_REQUEST_TOO_LONG), (.ref wOVER_LIMIT), .null, .null, .null, .null, .null, .null, .null, .null, .null] .null := Arv.set Ar172 q172 S172 N172 H172 G172 rfl W173 18 rfl (Nat.le_of_ble_eq_true rfl)
  have K176 : Keep h0 h173 [] := K167.wr W173 (Or.inr sz_b4)
  have N177 := Fr.snoc X173 N168 gn_b4
  obtain ⟨Lh173, X173, N177⟩ := own_hide X173 N177
  have O178 := O169.wr W173 gn_b4
  have Z179 := (Nat.le_trans Z170 (Keep.of_wr W173).1)
  refine own_by (T' := T173) (g' := (mkF m 132 #[.val (.int p0_0), .unset, .unset, .unset, .unset, .unset, .unset] [(.ref b4)])) st173 ?_
  refine own_by (T' := T173) (g' := (mkF m 135 #[.val (.int p0_0), .unset, .unset, .unset, .unset, .unset, .unset] [(.int (19 : Int32)), (.ref b4), (.ref b4)])) (fun t k => ?_) ?_
  · show Steps p.tables e below (T173.setTop (mkF m 132 #[.val (.int p0_0), .unset, .unset, .unset, .unset, .unset, .unset] [(.ref b4)])) t
    refine XS.dup X173.here hx rfl (hb hby at_132) rfl rfl ?_
    show Steps p.tables e below (T173.setTop (mkF m 133 #[.val (.int p0_0), .unset, .unset, .unset, .unset, .unset, .unset] [(.ref b4), (.ref b4)])) t
    refine XS.bipush X173.here hx rfl (hb hby at_133) ?_
    show Steps p.tables e below (T173.setTop (mkF m 135 #[.val (.int p0_0), .unset, .unset, .unset, .unset, .unset, .unset] [(.int (19 : Int32)), (.ref b4), (.ref b4)])) t
    exact k
  obtain ⟨T180, X180, e180, st180⟩ := getS2 X173 hx hZ hown (host := "") (Or.inl (hw _ (List.mem_of_getElem? (i := 42) rfl))) Via.refl e173 (EN.2.2.2.2.2.2.2.2.2.2.2.2.2.2.2.2.2.2.2.1.1.ext O178.2) (g := (mkF m 135 #[.val (.int p0_0), .unset, .unset, .unset, .unset, .unset, .unset] [(.int (19 : Int32)), (.ref b4), (.ref b4)])) rfl (hb hby at_135)
  refine own_by (T' := T180) (g' := (mkF m 138 #[.val (.int p0_0), .unset, .unset, .unset, .unset, .unset, .unset] [(.ref wRESOURCE_NOT_FOUND), (.int (19 : Int32)), (.ref b4), (.ref b4)])) st180 ?_
  obtain ⟨cl181, Ar181, q181, S181, N181, H181, G181⟩ := f174
  obtain ⟨T182, h182, X182, e182, W182, st182⟩ := stR X180 hx hZ e180 Ar181 (j := (19 : Int32)) (inb_of S181 ⟨by decide, by decide⟩) rfl (Sto.ofV Ar181 q181 O4v (Ins.self (EN.2.2.2.2.2.2.2.2.2.2.2.2.2.2.2.2.2.2.2.1.2.1.ext O178.2))) (g := (mkF m 138 #[.val (.int p0_0), .unset, .unset, .unset, .unset, .unset, .unset] [(.ref wRESOURCE_NOT_FOUND), (.int (19 : Int32)), (.ref b4), (.ref b4)])) rfl rfl (hb hby at_138)
  have f183 : Arv Z h182 b4 k4 (.object "com/example/buzon/buzon/engine/ApiError") (28 : Int32) [(.ref wMISSING_ACTION), (.ref wINVALID_ACTION), (.ref wMALFORMED_QUERY_STRING), (.ref wINVALID_ADDRESS), (.ref wMISSING_PARAMETER), (.ref wINVALID_PARAMETER_VALUE), (.ref wINVALID_ATTRIBUTE_VALUE), (.ref wINVALID_ATTRIBUTE_NAME), (.ref wQUEUE_ALREADY_EXISTS), (.ref wINVALID_MESSAGE_CONTENTS), (.ref wNON_EXISTENT_QUEUE), (.ref wRECEIPT_HANDLE_IS_INVALID), (.ref wMESSAGE_NOT_INFLIGHT), (.ref wEMPTY_BATCH_REQUEST), (.ref wTOO_MANY_ENTRIES_IN_BATCH_REQUEST), (.ref wBATCH_ENTRY_IDS_NOT_DISTINCT), (.ref wINVALID_BATCH_ENTRY_ID), (.ref wBATCH_REQUEST_TOO_LONG), (.ref wOVER_LIMIT), (.ref wRESOURCE_NOT_FOUND), .null, .null, .null, .null, .null, .null, .null, .null] .null := Arv.set Ar181 q181 S181 N181 H181 G181 rfl W182 19 rfl (Nat.le_of_ble_eq_true rfl)
  have K185 : Keep h0 h182 [] := K176.wr W182 (Or.inr sz_b4)
  have N186 := Fr.snoc X182 N177 gn_b4
  obtain ⟨Lh182, X182, N186⟩ := own_hide X182 N186
  have O187 := O178.wr W182 gn_b4
  have Z188 := (Nat.le_trans Z179 (Keep.of_wr W182).1)
  refine own_by (T' := T182) (g' := (mkF m 139 #[.val (.int p0_0), .unset, .unset, .unset, .unset, .unset, .unset] [(.ref b4)])) st182 ?_
  refine own_by (T' := T182) (g' := (mkF m 142 #[.val (.int p0_0), .unset, .unset, .unset, .unset, .unset, .unset] [(.int (20 : Int32)), (.ref b4), (.ref b4)])) (fun t k => ?_) ?_
  · show Steps p.tables e below (T182.setTop (mkF m 139 #[.val (.int p0_0), .unset, .unset, .unset, .unset, .unset, .unset] [(.ref b4)])) t
    refine XS.dup X182.here hx rfl (hb hby at_139) rfl rfl ?_
    show Steps p.tables e below (T182.setTop (mkF m 140 #[.val (.int p0_0), .unset, .unset, .unset, .unset, .unset, .unset] [(.ref b4), (.ref b4)])) t
    refine XS.bipush X182.here hx rfl (hb hby at_140) ?_
    show Steps p.tables e below (T182.setTop (mkF m 142 #[.val (.int p0_0), .unset, .unset, .unset, .unset, .unset, .unset] [(.int (20 : Int32)), (.ref b4), (.ref b4)])) t
    exact k
  obtain ⟨T189, X189, e189, st189⟩ := getS2 X182 hx hZ hown (host := "") (Or.inl (hw _ (List.mem_of_getElem? (i := 44) rfl))) Via.refl e182 (EN.2.2.2.2.2.2.2.2.2.2.2.2.2.2.2.2.2.2.2.2.1.1.ext O187.2) (g := (mkF m 142 #[.val (.int p0_0), .unset, .unset, .unset, .unset, .unset, .unset] [(.int (20 : Int32)), (.ref b4), (.ref b4)])) rfl (hb hby at_142)
  refine own_by (T' := T189) (g' := (mkF m 145 #[.val (.int p0_0), .unset, .unset, .unset, .unset, .unset, .unset] [(.ref wUNSUPPORTED_OPERATION), (.int (20 : Int32)), (.ref b4), (.ref b4)])) st189 ?_
  obtain ⟨cl190, Ar190, q190, S190, N190, H190, G190⟩ := f183
  obtain ⟨T191, h191, X191, e191, W191, st191⟩ := stR X189 hx hZ e189 Ar190 (j := (20 : Int32)) (inb_of S190 ⟨by decide, by decide⟩) rfl (Sto.ofV Ar190 q190 O4v (Ins.self (EN.2.2.2.2.2.2.2.2.2.2.2.2.2.2.2.2.2.2.2.2.1.2.1.ext O187.2))) (g := (mkF m 145 #[.val (.int p0_0), .unset, .unset, .unset, .unset, .unset, .unset] [(.ref wUNSUPPORTED_OPERATION), (.int (20 : Int32)), (.ref b4), (.ref b4)])) rfl rfl (hb hby at_145)
  have f192 : Arv Z h191 b4 k4 (.object "com/example/buzon/buzon/engine/ApiError") (28 : Int32) [(.ref wMISSING_ACTION), (.ref wINVALID_ACTION), (.ref wMALFORMED_QUERY_STRING), (.ref wINVALID_ADDRESS), (.ref wMISSING_PARAMETER), (.ref wINVALID_PARAMETER_VALUE), (.ref wINVALID_ATTRIBUTE_VALUE), (.ref wINVALID_ATTRIBUTE_NAME), (.ref wQUEUE_ALREADY_EXISTS), (.ref wINVALID_MESSAGE_CONTENTS), (.ref wNON_EXISTENT_QUEUE), (.ref wRECEIPT_HANDLE_IS_INVALID), (.ref wMESSAGE_NOT_INFLIGHT), (.ref wEMPTY_BATCH_REQUEST), (.ref wTOO_MANY_ENTRIES_IN_BATCH_REQUEST), (.ref wBATCH_ENTRY_IDS_NOT_DISTINCT), (.ref wINVALID_BATCH_ENTRY_ID), (.ref wBATCH_REQUEST_TOO_LONG), (.ref wOVER_LIMIT), (.ref wRESOURCE_NOT_FOUND), (.ref wUNSUPPORTED_OPERATION), .null, .null, .null, .null, .null, .null, .null] .null := Arv.set Ar190 q190 S190 N190 H190 G190 rfl W191 20 rfl (Nat.le_of_ble_eq_true rfl)
  have K194 : Keep h0 h191 [] := K185.wr W191 (Or.inr sz_b4)
  have N195 := Fr.snoc X191 N186 gn_b4
  obtain ⟨Lh191, X191, N195⟩ := own_hide X191 N195
  have O196 := O187.wr W191 gn_b4
  have Z197 := (Nat.le_trans Z188 (Keep.of_wr W191).1)
  refine own_by (T' := T191) (g' := (mkF m 146 #[.val (.int p0_0), .unset, .unset, .unset, .unset, .unset, .unset] [(.ref b4)])) st191 ?_
  refine own_by (T' := T191) (g' := (mkF m 149 #[.val (.int p0_0), .unset, .unset, .unset, .unset, .unset, .unset] [(.int (21 : Int32)), (.ref b4), (.ref b4)])) (fun t k => ?_) ?_
  · show Steps p.tables e below (T191.setTop (mkF m 146 #[.val (.int p0_0), .unset, .unset, .unset, .unset, .unset, .unset] [(.ref b4)])) t
    refine XS.dup X191.here hx rfl (hb hby at_146) rfl rfl ?_
    show Steps p.tables e below (T191.setTop (mkF m 147 #[.val (.int p0_0), .unset, .unset, .unset, .unset, .unset, .unset] [(.ref b4), (.ref b4)])) t
    refine XS.bipush X191.here hx rfl (hb hby at_147) ?_
    show Steps p.tables e below (T191.setTop (mkF m 149 #[.val (.int p0_0), .unset, .unset, .unset, .unset, .unset, .unset] [(.int (21 : Int32)), (.ref b4), (.ref b4)])) t
    exact k
  obtain ⟨T198, X198, e198, st198⟩ := getS2 X191 hx hZ hown (host := "") (Or.inl (hw _ (List.mem_of_getElem? (i := 46) rfl))) Via.refl e191 (EN.2.2.2.2.2.2.2.2.2.2.2.2.2.2.2.2.2.2.2.2.2.1.1.ext O196.2) (g := (mkF m 149 #[.val (.int p0_0), .unset, .unset, .unset, .unset, .unset, .unset] [(.int (21 : Int32)), (.ref b4), (.ref b4)])) rfl (hb hby at_149)
  refine own_by (T' := T198) (g' := (mkF m 152 #[.val (.int p0_0), .unset, .unset, .unset, .unset, .unset, .unset] [(.ref wMISSING_AUTHENTICATION_TOKEN), (.int (21 : Int32)), (.ref b4), (.ref b4)])) st198 ?_
  obtain ⟨cl199, Ar199, q199, S199, N199, H199, G199⟩ := f192
  obtain ⟨T200, h200, X200, e200, W200, st200⟩ := stR X198 hx hZ e198 Ar199 (j := (21 : Int32)) (inb_of S199 ⟨by decide, by decide⟩) rfl (Sto.ofV Ar199 q199 O4v (Ins.self (EN.2.2.2.2.2.2.2.2.2.2.2.2.2.2.2.2.2.2.2.2.2.1.2.1.ext O196.2))) (g := (mkF m 152 #[.val (.int p0_0), .unset, .unset, .unset, .unset, .unset, .unset] [(.ref wMISSING_AUTHENTICATION_TOKEN), (.int (21 : Int32)), (.ref b4), (.ref b4)])) rfl rfl (hb hby at_152)
  have f201 : Arv Z h200 b4 k4 (.object "com/example/buzon/buzon/engine/ApiError") (28 : Int32) [(.ref wMISSING_ACTION), (.ref wINVALID_ACTION), (.ref wMALFORMED_QUERY_STRING), (.ref wINVALID_ADDRESS), (.ref wMISSING_PARAMETER), (.ref wINVALID_PARAMETER_VALUE), (.ref wINVALID_ATTRIBUTE_VALUE), (.ref wINVALID_ATTRIBUTE_NAME), (.ref wQUEUE_ALREADY_EXISTS), (.ref wINVALID_MESSAGE_CONTENTS), (.ref wNON_EXISTENT_QUEUE), (.ref wRECEIPT_HANDLE_IS_INVALID), (.ref wMESSAGE_NOT_INFLIGHT), (.ref wEMPTY_BATCH_REQUEST), (.ref wTOO_MANY_ENTRIES_IN_BATCH_REQUEST), (.ref wBATCH_ENTRY_IDS_NOT_DISTINCT), (.ref wINVALID_BATCH_ENTRY_ID), (.ref wBATCH_REQUEST_TOO_LONG), (.ref wOVER_LIMIT), (.ref wRESOURCE_NOT_FOUND), (.ref wUNSUPPORTED_OPERATION), (.ref wMISSING_AUTHENTICATION_TOKEN), .null, .null, .null, .null, .null, .null] .null := Arv.set Ar199 q199 S199 N199 H199 G199 rfl W200 21 rfl (Nat.le_of_ble_eq_true rfl)
  have K203 : Keep h0 h200 [] := K194.wr W200 (Or.inr sz_b4)
  have N204 := Fr.snoc X200 N195 gn_b4
  obtain ⟨Lh200, X200, N204⟩ := own_hide X200 N204
  have O205 := O196.wr W200 gn_b4
  have Z206 := (Nat.le_trans Z197 (Keep.of_wr W200).1)
  refine own_by (T' := T200) (g' := (mkF m 153 #[.val (.int p0_0), .unset, .unset, .unset, .unset, .unset, .unset] [(.ref b4)])) st200 ?_
  refine own_by (T' := T200) (g' := (mkF m 156 #[.val (.int p0_0), .unset, .unset, .unset, .unset, .unset, .unset] [(.int (22 : Int32)), (.ref b4), (.ref b4)])) (fun t k => ?_) ?_
  · show Steps p.tables e below (T200.setTop (mkF m 153 #[.val (.int p0_0), .unset, .unset, .unset, .unset, .unset, .unset] [(.ref b4)])) t
    refine XS.dup X200.here hx rfl (hb hby at_153) rfl rfl ?_
    show Steps p.tables e below (T200.setTop (mkF m 154 #[.val (.int p0_0), .unset, .unset, .unset, .unset, .unset, .unset] [(.ref b4), (.ref b4)])) t
    refine XS.bipush X200.here hx rfl (hb hby at_154) ?_
    show Steps p.tables e below (T200.setTop (mkF m 156 #[.val (.int p0_0), .unset, .unset, .unset, .unset, .unset, .unset] [(.int (22 : Int32)), (.ref b4), (.ref b4)])) t
    exact k
  obtain ⟨T207, X207, e207, st207⟩ := getS2 X200 hx hZ hown (host := "") (Or.inl (hw _ (List.mem_of_getElem? (i := 48) rfl))) Via.refl e200 (EN.2.2.2.2.2.2.2.2.2.2.2.2.2.2.2.2.2.2.2.2.2.2.1.1.ext O205.2) (g := (mkF m 156 #[.val (.int p0_0), .unset, .unset, .unset, .unset, .unset, .unset] [(.int (22 : Int32)), (.ref b4), (.ref b4)])) rfl (hb hby at_156)
  refine own_by (T' := T207) (g' := (mkF m 159 #[.val (.int p0_0), .unset, .unset, .unset, .unset, .unset, .unset] [(.ref wINCOMPLETE_SIGNATURE), (.int (22 : Int32)), (.ref b4), (.ref b4)])) st207 ?_
  obtain ⟨cl208, Ar208, q208, S208, N208, H208, G208⟩ := f201
  obtain ⟨T209, h209, X209, e209, W209, st209⟩ := stR X207 hx hZ e207 Ar208 (j := (22 : Int32)) (inb_of S208 ⟨by decide, by decide⟩) rfl (Sto.ofV Ar208 q208 O4v (Ins.self (EN.2.2.2.2.2.2.2.2.2.2.2.2.2.2.2.2.2.2.2.2.2.2.1.2.1.ext O205.2))) (g := (mkF m 159 #[.val (.int p0_0), .unset, .unset, .unset, .unset, .unset, .unset] [(.ref wINCOMPLETE_SIGNATURE), (.int (22 : Int32)), (.ref b4), (.ref b4)])) rfl rfl (hb hby at_159)
  have f210 : Arv Z h209 b4 k4 (.object "com/example/buzon/buzon/engine/ApiError") (28 : Int32) [(.ref wMISSING_ACTION), (.ref wINVALID_ACTION), (.ref wMALFORMED_QUERY_STRING), (.ref wINVALID_ADDRESS), (.ref wMISSING_PARAMETER), (.ref wINVALID_PARAMETER_VALUE), (.ref wINVALID_ATTRIBUTE_VALUE), (.ref wINVALID_ATTRIBUTE_NAME), (.ref wQUEUE_ALREADY_EXISTS), (.ref wINVALID_MESSAGE_CONTENTS), (.ref wNON_EXISTENT_QUEUE), (.ref wRECEIPT_HANDLE_IS_INVALID), (.ref wMESSAGE_NOT_INFLIGHT), (.ref wEMPTY_BATCH_REQUEST), (.ref wTOO_MANY_ENTRIES_IN_BATCH_REQUEST), (.ref wBATCH_ENTRY_IDS_NOT_DISTINCT), (.ref wINVALID_BATCH_ENTRY_ID), (.ref wBATCH_REQUEST_TOO_LONG), (.ref wOVER_LIMIT), (.ref wRESOURCE_NOT_FOUND), (.ref wUNSUPPORTED_OPERATION), (.ref wMISSING_AUTHENTICATION_TOKEN), (.ref wINCOMPLETE_SIGNATURE), .null, .null, .null, .null, .null] .null := Arv.set Ar208 q208 S208 N208 H208 G208 rfl W209 22 rfl (Nat.le_of_ble_eq_true rfl)
  have K212 : Keep h0 h209 [] := K203.wr W209 (Or.inr sz_b4)
  have N213 := Fr.snoc X209 N204 gn_b4
  obtain ⟨Lh209, X209, N213⟩ := own_hide X209 N213
  have O214 := O205.wr W209 gn_b4
  have Z215 := (Nat.le_trans Z206 (Keep.of_wr W209).1)
  refine own_by (T' := T209) (g' := (mkF m 160 #[.val (.int p0_0), .unset, .unset, .unset, .unset, .unset, .unset] [(.ref b4)])) st209 ?_
  refine own_by (T' := T209) (g' := (mkF m 163 #[.val (.int p0_0), .unset, .unset, .unset, .unset, .unset, .unset] [(.int (23 : Int32)), (.ref b4), (.ref b4)])) (fun t k => ?_) ?_
  · show Steps p.tables e below (T209.setTop (mkF m 160 #[.val (.int p0_0), .unset, .unset, .unset, .unset, .unset, .unset] [(.ref b4)])) t
    refine XS.dup X209.here hx rfl (hb hby at_160) rfl rfl ?_
    show Steps p.tables e below (T209.setTop (mkF m 161 #[.val (.int p0_0), .unset, .unset, .unset, .unset, .unset, .unset] [(.ref b4), (.ref b4)])) t
    refine XS.bipush X209.here hx rfl (hb hby at_161) ?_
    show Steps p.tables e below (T209.setTop (mkF m 163 #[.val (.int p0_0), .unset, .unset, .unset, .unset, .unset, .unset] [(.int (23 : Int32)), (.ref b4), (.ref b4)])) t
    exact k
  obtain ⟨T216, X216, e216, st216⟩ := getS2 X209 hx hZ hown (host := "") (Or.inl (hw _ (List.mem_of_getElem? (i := 50) rfl))) Via.refl e209 (EN.2.2.2.2.2.2.2.2.2.2.2.2.2.2.2.2.2.2.2.2.2.2.2.1.1.ext O214.2) (g := (mkF m 163 #[.val (.int p0_0), .unset, .unset, .unset, .unset, .unset, .unset] [(.int (23 : Int32)), (.ref b4), (.ref b4)])) rfl (hb hby at_163)
  refine own_by (T' := T216) (g' := (mkF m 166 #[.val (.int p0_0), .unset, .unset, .unset, .unset, .unset, .unset] [(.ref wINVALID_CLIENT_TOKEN_ID), (.int (23 : Int32)), (.ref b4), (.ref b4)])) st216 ?_
  obtain ⟨cl217, Ar217, q217, S217, N217, H217, G217⟩ := f210
  obtain ⟨T218, h218, X218, e218, W218, st218⟩ := stR X216 hx hZ e216 Ar217 (j := (23 : Int32)) (inb_of S217 ⟨by decide, by decide⟩) rfl (Sto.ofV Ar217 q217 O4v (Ins.self (EN.2.2.2.2.2.2.2.2.2.2.2.2.2.2.2.2.2.2.2.2.2.2.2.1.2.1.ext O214.2))) (g := (mkF m 166 #[.val (.int p0_0), .unset, .unset, .unset, .unset, .unset, .unset] [(.ref wINVALID_CLIENT_TOKEN_ID), (.int (23 : Int32)), (.ref b4), (.ref b4)])) rfl rfl (hb hby at_166)
  have f219 : Arv Z h218 b4 k4 (.object "com/example/buzon/buzon/engine/ApiError") (28 : Int32) [(.ref wMISSING_ACTION), (.ref wINVALID_ACTION), (.ref wMALFORMED_QUERY_STRING), (.ref wINVALID_ADDRESS), (.ref wMISSING_PARAMETER), (.ref wINVALID_PARAMETER_VALUE), (.ref wINVALID_ATTRIBUTE_VALUE), (.ref wINVALID_ATTRIBUTE_NAME), (.ref wQUEUE_ALREADY_EXISTS), (.ref wINVALID_MESSAGE_CONTENTS), (.ref wNON_EXISTENT_QUEUE), (.ref wRECEIPT_HANDLE_IS_INVALID), (.ref wMESSAGE_NOT_INFLIGHT), (.ref wEMPTY_BATCH_REQUEST), (.ref wTOO_MANY_ENTRIES_IN_BATCH_REQUEST), (.ref wBATCH_ENTRY_IDS_NOT_DISTINCT), (.ref wINVALID_BATCH_ENTRY_ID), (.ref wBATCH_REQUEST_TOO_LONG), (.ref wOVER_LIMIT), (.ref wRESOURCE_NOT_FOUND), (.ref wUNSUPPORTED_OPERATION), (.ref wMISSING_AUTHENTICATION_TOKEN), (.ref wINCOMPLETE_SIGNATURE), (.ref wINVALID_CLIENT_TOKEN_ID), .null, .null, .null, .null] .null := Arv.set Ar217 q217 S217 N217 H217 G217 rfl W218 23 rfl (Nat.le_of_ble_eq_true rfl)
  have K221 : Keep h0 h218 [] := K212.wr W218 (Or.inr sz_b4)
  have N222 := Fr.snoc X218 N213 gn_b4
  obtain ⟨Lh218, X218, N222⟩ := own_hide X218 N222
  have O223 := O214.wr W218 gn_b4
  have Z224 := (Nat.le_trans Z215 (Keep.of_wr W218).1)
  refine own_by (T' := T218) (g' := (mkF m 167 #[.val (.int p0_0), .unset, .unset, .unset, .unset, .unset, .unset] [(.ref b4)])) st218 ?_
  refine own_by (T' := T218) (g' := (mkF m 170 #[.val (.int p0_0), .unset, .unset, .unset, .unset, .unset, .unset] [(.int (24 : Int32)), (.ref b4), (.ref b4)])) (fun t k => ?_) ?_
  · show Steps p.tables e below (T218.setTop (mkF m 167 #[.val (.int p0_0), .unset, .unset, .unset, .unset, .unset, .unset] [(.ref b4)])) t
    refine XS.dup X218.here hx rfl (hb hby at_167) rfl rfl ?_
    show Steps p.tables e below (T218.setTop (mkF m 168 #[.val (.int p0_0), .unset, .unset, .unset, .unset, .unset, .unset] [(.ref b4), (.ref b4)])) t
    refine XS.bipush X218.here hx rfl (hb hby at_168) ?_
    show Steps p.tables e below (T218.setTop (mkF m 170 #[.val (.int p0_0), .unset, .unset, .unset, .unset, .unset, .unset] [(.int (24 : Int32)), (.ref b4), (.ref b4)])) t
    exact k
  obtain ⟨T225, X225, e225, st225⟩ := getS2 X218 hx hZ hown (host := "") (Or.inl (hw _ (List.mem_of_getElem? (i := 52) rfl))) Via.refl e218 (EN.2.2.2.2.2.2.2.2.2.2.2.2.2.2.2.2.2.2.2.2.2.2.2.2.1.1.ext O223.2) (g := (mkF m 170 #[.val (.int p0_0), .unset, .unset, .unset, .unset, .unset, .unset] [(.int (24 : Int32)), (.ref b4), (.ref b4)])) rfl (hb hby at_170)
  refine own_by (T' := T225) (g' := (mkF m 173 #[.val (.int p0_0), .unset, .unset, .unset, .unset, .unset, .unset] [(.ref wREQUEST_EXPIRED), (.int (24 : Int32)), (.ref b4), (.ref b4)])) st225 ?_
  obtain ⟨cl226, Ar226, q226, S226, N226, H226, G226⟩ := f219
  obtain ⟨T227, h227, X227, e227, W227, st227⟩ := stR X225 hx hZ e225 Ar226 (j := (24 : Int32)) (inb_of S226 ⟨by decide, by decide⟩) rfl (Sto.ofV Ar226 q226 O4v (Ins.self (EN.2.2.2.2.2.2.2.2.2.2.2.2.2.2.2.2.2.2.2.2.2.2.2.2.1.2.1.ext O223.2))) (g := (mkF m 173 #[.val (.int p0_0), .unset, .unset, .unset, .unset, .unset, .unset] [(.ref wREQUEST_EXPIRED), (.int (24 : Int32)), (.ref b4), (.ref b4)])) rfl rfl (hb hby at_173)
  have f228 : Arv Z h227 b4 k4 (.object "com/example/buzon/buzon/engine/ApiError") (28 : Int32) [(.ref wMISSING_ACTION), (.ref wINVALID_ACTION), (.ref wMALFORMED_QUERY_STRING), (.ref wINVALID_ADDRESS), (.ref wMISSING_PARAMETER), (.ref wINVALID_PARAMETER_VALUE), (.ref wINVALID_ATTRIBUTE_VALUE), (.ref wINVALID_ATTRIBUTE_NAME), (.ref wQUEUE_ALREADY_EXISTS), (.ref wINVALID_MESSAGE_CONTENTS), (.ref wNON_EXISTENT_QUEUE), (.ref wRECEIPT_HANDLE_IS_INVALID), (.ref wMESSAGE_NOT_INFLIGHT), (.ref wEMPTY_BATCH_REQUEST), (.ref wTOO_MANY_ENTRIES_IN_BATCH_REQUEST), (.ref wBATCH_ENTRY_IDS_NOT_DISTINCT), (.ref wINVALID_BATCH_ENTRY_ID), (.ref wBATCH_REQUEST_TOO_LONG), (.ref wOVER_LIMIT), (.ref wRESOURCE_NOT_FOUND), (.ref wUNSUPPORTED_OPERATION), (.ref wMISSING_AUTHENTICATION_TOKEN), (.ref wINCOMPLETE_SIGNATURE), (.ref wINVALID_CLIENT_TOKEN_ID), (.ref wREQUEST_EXPIRED), .null, .null, .null] .null := Arv.set Ar226 q226 S226 N226 H226 G226 rfl W227 24 rfl (Nat.le_of_ble_eq_true rfl)
  have K230 : Keep h0 h227 [] := K221.wr W227 (Or.inr sz_b4)
  have N231 := Fr.snoc X227 N222 gn_b4
  obtain ⟨Lh227, X227, N231⟩ := own_hide X227 N231
  have O232 := O223.wr W227 gn_b4
  have Z233 := (Nat.le_trans Z224 (Keep.of_wr W227).1)
  refine own_by (T' := T227) (g' := (mkF m 174 #[.val (.int p0_0), .unset, .unset, .unset, .unset, .unset, .unset] [(.ref b4)])) st227 ?_
  refine own_by (T' := T227) (g' := (mkF m 177 #[.val (.int p0_0), .unset, .unset, .unset, .unset, .unset, .unset] [(.int (25 : Int32)), (.ref b4), (.ref b4)])) (fun t k => ?_) ?_
  · show Steps p.tables e below (T227.setTop (mkF m 174 #[.val (.int p0_0), .unset, .unset, .unset, .unset, .unset, .unset] [(.ref b4)])) t
    refine XS.dup X227.here hx rfl (hb hby at_174) rfl rfl ?_
    show Steps p.tables e below (T227.setTop (mkF m 175 #[.val (.int p0_0), .unset, .unset, .unset, .unset, .unset, .unset] [(.ref b4), (.ref b4)])) t
    refine XS.bipush X227.here hx rfl (hb hby at_175) ?_
    show Steps p.tables e below (T227.setTop (mkF m 177 #[.val (.int p0_0), .unset, .unset, .unset, .unset, .unset, .unset] [(.int (25 : Int32)), (.ref b4), (.ref b4)])) t
    exact k
  obtain ⟨T234, X234, e234, st234⟩ := getS2 X227 hx hZ hown (host := "") (Or.inl (hw _ (List.mem_of_getElem? (i := 54) rfl))) Via.refl e227 (EN.2.2.2.2.2.2.2.2.2.2.2.2.2.2.2.2.2.2.2.2.2.2.2.2.2.1.1.ext O232.2) (g := (mkF m 177 #[.val (.int p0_0), .unset, .unset, .unset, .unset, .unset, .unset] [(.int (25 : Int32)), (.ref b4), (.ref b4)])) rfl (hb hby at_177)
  refine own_by (T' := T234) (g' := (mkF m 180 #[.val (.int p0_0), .unset, .unset, .unset, .unset, .unset, .unset] [(.ref wSIGNATURE_DOES_NOT_MATCH), (.int (25 : Int32)), (.ref b4), (.ref b4)])) st234 ?_
  obtain ⟨cl235, Ar235, q235, S235, N235, H235, G235⟩ := f228
  obtain ⟨T236, h236, X236, e236, W236, st236⟩ := stR X234 hx hZ e234 Ar235 (j := (25 : Int32)) (inb_of S235 ⟨by decide, by decide⟩) rfl (Sto.ofV Ar235 q235 O4v (Ins.self (EN.2.2.2.2.2.2.2.2.2.2.2.2.2.2.2.2.2.2.2.2.2.2.2.2.2.1.2.1.ext O232.2))) (g := (mkF m 180 #[.val (.int p0_0), .unset, .unset, .unset, .unset, .unset, .unset] [(.ref wSIGNATURE_DOES_NOT_MATCH), (.int (25 : Int32)), (.ref b4), (.ref b4)])) rfl rfl (hb hby at_180)
  have f237 : Arv Z h236 b4 k4 (.object "com/example/buzon/buzon/engine/ApiError") (28 : Int32) [(.ref wMISSING_ACTION), (.ref wINVALID_ACTION), (.ref wMALFORMED_QUERY_STRING), (.ref wINVALID_ADDRESS), (.ref wMISSING_PARAMETER), (.ref wINVALID_PARAMETER_VALUE), (.ref wINVALID_ATTRIBUTE_VALUE), (.ref wINVALID_ATTRIBUTE_NAME), (.ref wQUEUE_ALREADY_EXISTS), (.ref wINVALID_MESSAGE_CONTENTS), (.ref wNON_EXISTENT_QUEUE), (.ref wRECEIPT_HANDLE_IS_INVALID), (.ref wMESSAGE_NOT_INFLIGHT), (.ref wEMPTY_BATCH_REQUEST), (.ref wTOO_MANY_ENTRIES_IN_BATCH_REQUEST), (.ref wBATCH_ENTRY_IDS_NOT_DISTINCT), (.ref wINVALID_BATCH_ENTRY_ID), (.ref wBATCH_REQUEST_TOO_LONG), (.ref wOVER_LIMIT), (.ref wRESOURCE_NOT_FOUND), (.ref wUNSUPPORTED_OPERATION), (.ref wMISSING_AUTHENTICATION_TOKEN), (.ref wINCOMPLETE_SIGNATURE), (.ref wINVALID_CLIENT_TOKEN_ID), (.ref wREQUEST_EXPIRED), (.ref wSIGNATURE_DOES_NOT_MATCH), .null, .null] .null := Arv.set Ar235 q235 S235 N235 H235 G235 rfl W236 25 rfl (Nat.le_of_ble_eq_true rfl)
  have K239 : Keep h0 h236 [] := K230.wr W236 (Or.inr sz_b4)
  have N240 := Fr.snoc X236 N231 gn_b4
  obtain ⟨Lh236, X236, N240⟩ := own_hide X236 N240
  have O241 := O232.wr W236 gn_b4
  have Z242 := (Nat.le_trans Z233 (Keep.of_wr W236).1)
  refine own_by (T' := T236) (g' := (mkF m 181 #[.val (.int p0_0), .unset, .unset, .unset, .unset, .unset, .unset] [(.ref b4)])) st236 ?_
  refine own_by (T' := T236) (g' := (mkF m 184 #[.val (.int p0_0), .unset, .unset, .unset, .unset, .unset, .unset] [(.int (26 : Int32)), (.ref b4), (.ref b4)])) (fun t k => ?_) ?_
  · show Steps p.tables e below (T236.setTop (mkF m 181 #[.val (.int p0_0), .unset, .unset, .unset, .unset, .unset, .unset] [(.ref b4)])) t
    refine XS.dup X236.here hx rfl (hb hby at_181) rfl rfl ?_
    show Steps p.tables e below (T236.setTop (mkF m 182 #[.val (.int p0_0), .unset, .unset, .unset, .unset, .unset, .unset] [(.ref b4), (.ref b4)])) t
    refine XS.bipush X236.here hx rfl (hb hby at_182) ?_
    show Steps p.tables e below (T236.setTop (mkF m 184 #[.val (.int p0_0), .unset, .unset, .unset, .unset, .unset, .unset] [(.int (26 : Int32)), (.ref b4), (.ref b4)])) t
    exact k
  obtain ⟨T243, X243, e243, st243⟩ := getS2 X236 hx hZ hown (host := "") (Or.inl (hw _ (List.mem_of_getElem? (i := 56) rfl))) Via.refl e236 (EN.2.2.2.2.2.2.2.2.2.2.2.2.2.2.2.2.2.2.2.2.2.2.2.2.2.2.1.1.ext O241.2) (g := (mkF m 184 #[.val (.int p0_0), .unset, .unset, .unset, .unset, .unset, .unset] [(.int (26 : Int32)), (.ref b4), (.ref b4)])) rfl (hb hby at_184)
  refine own_by (T' := T243) (g' := (mkF m 187 #[.val (.int p0_0), .unset, .unset, .unset, .unset, .unset, .unset] [(.ref wSERVICE_UNAVAILABLE), (.int (26 : Int32)), (.ref b4), (.ref b4)])) st243 ?_
  obtain ⟨cl244, Ar244, q244, S244, N244, H244, G244⟩ := f237
  obtain ⟨T245, h245, X245, e245, W245, st245⟩ := stR X243 hx hZ e243 Ar244 (j := (26 : Int32)) (inb_of S244 ⟨by decide, by decide⟩) rfl (Sto.ofV Ar244 q244 O4v (Ins.self (EN.2.2.2.2.2.2.2.2.2.2.2.2.2.2.2.2.2.2.2.2.2.2.2.2.2.2.1.2.1.ext O241.2))) (g := (mkF m 187 #[.val (.int p0_0), .unset, .unset, .unset, .unset, .unset, .unset] [(.ref wSERVICE_UNAVAILABLE), (.int (26 : Int32)), (.ref b4), (.ref b4)])) rfl rfl (hb hby at_187)
  have f246 : Arv Z h245 b4 k4 (.object "com/example/buzon/buzon/engine/ApiError") (28 : Int32) [(.ref wMISSING_ACTION), (.ref wINVALID_ACTION), (.ref wMALFORMED_QUERY_STRING), (.ref wINVALID_ADDRESS), (.ref wMISSING_PARAMETER), (.ref wINVALID_PARAMETER_VALUE), (.ref wINVALID_ATTRIBUTE_VALUE), (.ref wINVALID_ATTRIBUTE_NAME), (.ref wQUEUE_ALREADY_EXISTS), (.ref wINVALID_MESSAGE_CONTENTS), (.ref wNON_EXISTENT_QUEUE), (.ref wRECEIPT_HANDLE_IS_INVALID), (.ref wMESSAGE_NOT_INFLIGHT), (.ref wEMPTY_BATCH_REQUEST), (.ref wTOO_MANY_ENTRIES_IN_BATCH_REQUEST), (.ref wBATCH_ENTRY_IDS_NOT_DISTINCT), (.ref wINVALID_BATCH_ENTRY_ID), (.ref wBATCH_REQUEST_TOO_LONG), (.ref wOVER_LIMIT), (.ref wRESOURCE_NOT_FOUND), (.ref wUNSUPPORTED_OPERATION), (.ref wMISSING_AUTHENTICATION_TOKEN), (.ref wINCOMPLETE_SIGNATURE), (.ref wINVALID_CLIENT_TOKEN_ID), (.ref wREQUEST_EXPIRED), (.ref wSIGNATURE_DOES_NOT_MATCH), (.ref wSERVICE_UNAVAILABLE), .null] .null := Arv.set Ar244 q244 S244 N244 H244 G244 rfl W245 26 rfl (Nat.le_of_ble_eq_true rfl)
  have K248 : Keep h0 h245 [] := K239.wr W245 (Or.inr sz_b4)
  have N249 := Fr.snoc X245 N240 gn_b4
  obtain ⟨Lh245, X245, N249⟩ := own_hide X245 N249
  have O250 := O241.wr W245 gn_b4
  have Z251 := (Nat.le_trans Z242 (Keep.of_wr W245).1)
  refine own_by (T' := T245) (g' := (mkF m 188 #[.val (.int p0_0), .unset, .unset, .unset, .unset, .unset, .unset] [(.ref b4)])) st245 ?_
  refine own_by (T' := T245) (g' := (mkF m 191 #[.val (.int p0_0), .unset, .unset, .unset, .unset, .unset, .unset] [(.int (27 : Int32)), (.ref b4), (.ref b4)])) (fun t k => ?_) ?_
  · show Steps p.tables e below (T245.setTop (mkF m 188 #[.val (.int p0_0), .unset, .unset, .unset, .unset, .unset, .unset] [(.ref b4)])) t
    refine XS.dup X245.here hx rfl (hb hby at_188) rfl rfl ?_
    show Steps p.tables e below (T245.setTop (mkF m 189 #[.val (.int p0_0), .unset, .unset, .unset, .unset, .unset, .unset] [(.ref b4), (.ref b4)])) t
    refine XS.bipush X245.here hx rfl (hb hby at_189) ?_
    show Steps p.tables e below (T245.setTop (mkF m 191 #[.val (.int p0_0), .unset, .unset, .unset, .unset, .unset, .unset] [(.int (27 : Int32)), (.ref b4), (.ref b4)])) t
    exact k
  obtain ⟨T252, X252, e252, st252⟩ := getS2 X245 hx hZ hown (host := "") (Or.inl (hw _ (List.mem_of_getElem? (i := 58) rfl))) Via.refl e245 (EN.2.2.2.2.2.2.2.2.2.2.2.2.2.2.2.2.2.2.2.2.2.2.2.2.2.2.2.1.ext O250.2) (g := (mkF m 191 #[.val (.int p0_0), .unset, .unset, .unset, .unset, .unset, .unset] [(.int (27 : Int32)), (.ref b4), (.ref b4)])) rfl (hb hby at_191)
  refine own_by (T' := T252) (g' := (mkF m 194 #[.val (.int p0_0), .unset, .unset, .unset, .unset, .unset, .unset] [(.ref wINTERNAL_FAILURE), (.int (27 : Int32)), (.ref b4), (.ref b4)])) st252 ?_
  obtain ⟨cl253, Ar253, q253, S253, N253, H253, G253⟩ := f246
  obtain ⟨T254, h254, X254, e254, W254, st254⟩ := stR X252 hx hZ e252 Ar253 (j := (27 : Int32)) (inb_of S253 ⟨by decide, by decide⟩) rfl (Sto.ofV Ar253 q253 O4v (Ins.self (EN.2.2.2.2.2.2.2.2.2.2.2.2.2.2.2.2.2.2.2.2.2.2.2.2.2.2.2.2.1.ext O250.2))) (g := (mkF m 194 #[.val (.int p0_0), .unset, .unset, .unset, .unset, .unset, .unset] [(.ref wINTERNAL_FAILURE), (.int (27 : Int32)), (.ref b4), (.ref b4)])) rfl rfl (hb hby at_194)
  have f255 : Arv Z h254 b4 k4 (.object "com/example/buzon/buzon/engine/ApiError") (28 : Int32) [(.ref wMISSING_ACTION), (.ref wINVALID_ACTION), (.ref wMALFORMED_QUERY_STRING), (.ref wINVALID_ADDRESS), (.ref wMISSING_PARAMETER), (.ref wINVALID_PARAMETER_VALUE), (.ref wINVALID_ATTRIBUTE_VALUE), (.ref wINVALID_ATTRIBUTE_NAME), (.ref wQUEUE_ALREADY_EXISTS), (.ref wINVALID_MESSAGE_CONTENTS), (.ref wNON_EXISTENT_QUEUE), (.ref wRECEIPT_HANDLE_IS_INVALID), (.ref wMESSAGE_NOT_INFLIGHT), (.ref wEMPTY_BATCH_REQUEST), (.ref wTOO_MANY_ENTRIES_IN_BATCH_REQUEST), (.ref wBATCH_ENTRY_IDS_NOT_DISTINCT), (.ref wINVALID_BATCH_ENTRY_ID), (.ref wBATCH_REQUEST_TOO_LONG), (.ref wOVER_LIMIT), (.ref wRESOURCE_NOT_FOUND), (.ref wUNSUPPORTED_OPERATION), (.ref wMISSING_AUTHENTICATION_TOKEN), (.ref wINCOMPLETE_SIGNATURE), (.ref wINVALID_CLIENT_TOKEN_ID), (.ref wREQUEST_EXPIRED), (.ref wSIGNATURE_DOES_NOT_MATCH), (.ref wSERVICE_UNAVAILABLE), (.ref wINTERNAL_FAILURE)] .null := Arv.set Ar253 q253 S253 N253 H253 G253 rfl W254 27 rfl (Nat.le_of_ble_eq_true rfl)
  have K257 : Keep h0 h254 [] := K248.wr W254 (Or.inr sz_b4)
  have N258 := Fr.snoc X254 N249 gn_b4
  obtain ⟨Lh254, X254, N258⟩ := own_hide X254 N258
  have O259 := O250.wr W254 gn_b4
  have Z260 := (Nat.le_trans Z251 (Keep.of_wr W254).1)
  refine own_by (T' := T254) (g' := (mkF m 195 #[.val (.int p0_0), .unset, .unset, .unset, .unset, .unset, .unset] [(.ref b4)])) st254 ?_
  refine own_by (T' := T254) (g' := (mkF m 206 #[.val (.int p0_0), .val (.ref b4), .val (.int ((p0_0 &&& (2147483647 : Int32)) % (28 : Int32))), .unset, .unset, .unset, .unset] [(.int ((p0_0 &&& (2147483647 : Int32)) % (28 : Int32))), (.ref b4)])) (fun t k => ?_) ?_
  · show Steps p.tables e below (T254.setTop (mkF m 195 #[.val (.int p0_0), .unset, .unset, .unset, .unset, .unset, .unset] [(.ref b4)])) t
    refine XS.astoreN X254.here hx rfl (hb hby at_195) rfl rfl (l' := #[.val (.int p0_0), .val (.ref b4), .unset, .unset, .unset, .unset, .unset]) rfl ?_
    show Steps p.tables e below (T254.setTop (mkF m 196 #[.val (.int p0_0), .val (.ref b4), .unset, .unset, .unset, .unset, .unset] [])) t
    refine XS.iloadN X254.here hx rfl (hb hby at_196) rfl ?_
    show Steps p.tables e below (T254.setTop (mkF m 197 #[.val (.int p0_0), .val (.ref b4), .unset, .unset, .unset, .unset, .unset] [(.int p0_0)])) t
    refine X254.ldcInt hx hown (mvT hZ (hw _ (List.mem_of_getElem? (i := 60) rfl))) (g := (mkF m 197 #[.val (.int p0_0), .val (.ref b4), .unset, .unset, .unset, .unset, .unset] [(.int p0_0)])) rfl (hb hby at_197) _ ?_
    show Steps p.tables e below (T254.setTop (mkF m 199 #[.val (.int p0_0), .val (.ref b4), .unset, .unset, .unset, .unset, .unset] [(.int (2147483647 : Int32)), (.int p0_0)])) t
    refine XS.iand X254.here hx rfl (hb hby at_199) rfl ?_
    show Steps p.tables e below (T254.setTop (mkF m 200 #[.val (.int p0_0), .val (.ref b4), .unset, .unset, .unset, .unset, .unset] [(.int (p0_0 &&& (2147483647 : Int32)))])) t
    refine XS.bipush X254.here hx rfl (hb hby at_200) ?_
    show Steps p.tables e below (T254.setTop (mkF m 202 #[.val (.int p0_0), .val (.ref b4), .unset, .unset, .unset, .unset, .unset] [(.int (28 : Int32)), (.int (p0_0 &&& (2147483647 : Int32)))])) t
    refine iremM (g := (mkF m 202 #[.val (.int p0_0), .val (.ref b4), .unset, .unset, .unset, .unset, .unset] [(.int (28 : Int32)), (.int (p0_0 &&& (2147483647 : Int32)))])) X254 hx rfl (hb hby at_202) rfl (by decide) ?_
    show Steps p.tables e below (T254.setTop (mkF m 203 #[.val (.int p0_0), .val (.ref b4), .unset, .unset, .unset, .unset, .unset] [(.int ((p0_0 &&& (2147483647 : Int32)) % (28 : Int32)))])) t
    refine XS.istoreN X254.here hx rfl (hb hby at_203) rfl (l' := #[.val (.int p0_0), .val (.ref b4), .val (.int ((p0_0 &&& (2147483647 : Int32)) % (28 : Int32))), .unset, .unset, .unset, .unset]) rfl ?_
    show Steps p.tables e below (T254.setTop (mkF m 204 #[.val (.int p0_0), .val (.ref b4), .val (.int ((p0_0 &&& (2147483647 : Int32)) % (28 : Int32))), .unset, .unset, .unset, .unset] [])) t
    refine XS.aloadN X254.here hx rfl (hb hby at_204) rfl rfl ?_
    show Steps p.tables e below (T254.setTop (mkF m 205 #[.val (.int p0_0), .val (.ref b4), .val (.int ((p0_0 &&& (2147483647 : Int32)) % (28 : Int32))), .unset, .unset, .unset, .unset] [(.ref b4)])) t
    refine XS.iloadN X254.here hx rfl (hb hby at_205) rfl ?_
    show Steps p.tables e below (T254.setTop (mkF m 206 #[.val (.int p0_0), .val (.ref b4), .val (.int ((p0_0 &&& (2147483647 : Int32)) % (28 : Int32))), .unset, .unset, .unset, .unset] [(.int ((p0_0 &&& (2147483647 : Int32)) % (28 : Int32))), (.ref b4)])) t
    exact k
  obtain ⟨cl261, Ar261, q261, S261, N261, H261, G261⟩ := f255
  have hin261 := inb_of S261 (j := ((p0_0 &&& (2147483647 : Int32)) % (28 : Int32))) (own_idx p0_0)
  rcases own_pick Z wMISSING_ACTION wINVALID_ACTION wMALFORMED_QUERY_STRING wINVALID_ADDRESS wMISSING_PARAMETER wINVALID_PARAMETER_VALUE wINVALID_ATTRIBUTE_VALUE wINVALID_ATTRIBUTE_NAME wQUEUE_ALREADY_EXISTS wINVALID_MESSAGE_CONTENTS wNON_EXISTENT_QUEUE wRECEIPT_HANDLE_IS_INVALID wMESSAGE_NOT_INFLIGHT wEMPTY_BATCH_REQUEST wTOO_MANY_ENTRIES_IN_BATCH_REQUEST wBATCH_ENTRY_IDS_NOT_DISTINCT wINVALID_BATCH_ENTRY_ID wBATCH_REQUEST_TOO_LONG wOVER_LIMIT wRESOURCE_NOT_FOUND wUNSUPPORTED_OPERATION wMISSING_AUTHENTICATION_TOKEN wINCOMPLETE_SIGNATURE wINVALID_CLIENT_TOKEN_ID wREQUEST_EXPIRED wSIGNATURE_DOES_NOT_MATCH wSERVICE_UNAVAILABLE wINTERNAL_FAILURE EN (((p0_0 &&& (2147483647 : Int32)) % (28 : Int32))) (own_idx p0_0) with hp261 | hp261 | ⟨c261, hs261, hp261, Ee261, Fe261, n1261, n2261, hlt261⟩
  · skip
    refine own_by (T' := T254) (g' := (mkF m 207 #[.val (.int p0_0), .val (.ref b4), .val (.int ((p0_0 &&& (2147483647 : Int32)) % (28 : Int32))), .unset, .unset, .unset, .unset] [(.ref wSERVICE_UNAVAILABLE)])) (fun t k => X254.aaload hx (j := ((p0_0 &&& (2147483647 : Int32)) % (28 : Int32))) (v := (.ref wSERVICE_UNAVAILABLE)) (by rw [e254]; exact Ar261.1) (State.isArrayOf_alike hZ.alike Ar261.2.1) rfl Ar261.2.2 hin261 (H261.at hin261 hp261) (g := (mkF m 206 #[.val (.int p0_0), .val (.ref b4), .val (.int ((p0_0 &&& (2147483647 : Int32)) % (28 : Int32))), .unset, .unset, .unset, .unset] [(.int ((p0_0 &&& (2147483647 : Int32)) % (28 : Int32))), (.ref b4)])) rfl rfl (hb hby at_206) t k) ?_
    refine own_by (T' := T254) (g' := (mkF m 209 #[.val (.int p0_0), .val (.ref b4), .val (.int ((p0_0 &&& (2147483647 : Int32)) % (28 : Int32))), .val (.ref wSERVICE_UNAVAILABLE), .unset, .unset, .unset] [(.ref wSERVICE_UNAVAILABLE)])) (fun t k => ?_) ?_
    · show Steps p.tables e below (T254.setTop (mkF m 207 #[.val (.int p0_0), .val (.ref b4), .val (.int ((p0_0 &&& (2147483647 : Int32)) % (28 : Int32))), .unset, .unset, .unset, .unset] [(.ref wSERVICE_UNAVAILABLE)])) t
      refine XS.astoreN X254.here hx rfl (hb hby at_207) rfl rfl (l' := #[.val (.int p0_0), .val (.ref b4), .val (.int ((p0_0 &&& (2147483647 : Int32)) % (28 : Int32))), .val (.ref wSERVICE_UNAVAILABLE), .unset, .unset, .unset]) rfl ?_
      show Steps p.tables e below (T254.setTop (mkF m 208 #[.val (.int p0_0), .val (.ref b4), .val (.int ((p0_0 &&& (2147483647 : Int32)) % (28 : Int32))), .val (.ref wSERVICE_UNAVAILABLE), .unset, .unset, .unset] [])) t
      refine XS.aloadN X254.here hx rfl (hb hby at_208) rfl rfl ?_
      show Steps p.tables e below (T254.setTop (mkF m 209 #[.val (.int p0_0), .val (.ref b4), .val (.int ((p0_0 &&& (2147483647 : Int32)) % (28 : Int32))), .val (.ref wSERVICE_UNAVAILABLE), .unset, .unset, .unset] [(.ref wSERVICE_UNAVAILABLE)])) t
      exact k
    obtain ⟨T262, X262, e262, st262⟩ := getS2 X254 hx hZ hown (host := "") (Or.inl (hw _ (List.mem_of_getElem? (i := 56) rfl))) Via.refl e254 (EN.2.2.2.2.2.2.2.2.2.2.2.2.2.2.2.2.2.2.2.2.2.2.2.2.2.2.1.1.ext O259.2) (g := (mkF m 209 #[.val (.int p0_0), .val (.ref b4), .val (.int ((p0_0 &&& (2147483647 : Int32)) % (28 : Int32))), .val (.ref wSERVICE_UNAVAILABLE), .unset, .unset, .unset] [(.ref wSERVICE_UNAVAILABLE)])) rfl (hb hby at_209)
    refine own_by (T' := T262) (g' := (mkF m 212 #[.val (.int p0_0), .val (.ref b4), .val (.int ((p0_0 &&& (2147483647 : Int32)) % (28 : Int32))), .val (.ref wSERVICE_UNAVAILABLE), .unset, .unset, .unset] [(.ref wSERVICE_UNAVAILABLE), (.ref wSERVICE_UNAVAILABLE)])) st262 ?_
    refine own_by (T' := T262) (g' := (mkF m 230 #[.val (.int p0_0), .val (.ref b4), .val (.int ((p0_0 &&& (2147483647 : Int32)) % (28 : Int32))), .val (.ref wSERVICE_UNAVAILABLE), .val (.int (0 : Int32)), .unset, .unset] [(.ref wSERVICE_UNAVAILABLE)])) (fun t k => ?_) ?_
    · show Steps p.tables e below (T262.setTop (mkF m 212 #[.val (.int p0_0), .val (.ref b4), .val (.int ((p0_0 &&& (2147483647 : Int32)) % (28 : Int32))), .val (.ref wSERVICE_UNAVAILABLE), .unset, .unset, .unset] [(.ref wSERVICE_UNAVAILABLE), (.ref wSERVICE_UNAVAILABLE)])) t
      refine Jvm.RoadKit.acmp (g := (mkF m 212 #[.val (.int p0_0), .val (.ref b4), .val (.int ((p0_0 &&& (2147483647 : Int32)) % (28 : Int32))), .val (.ref wSERVICE_UNAVAILABLE), .unset, .unset, .unset] [(.ref wSERVICE_UNAVAILABLE), (.ref wSERVICE_UNAVAILABLE)])) X262 hx rfl rfl rfl (pc0 := 212) (pc' := 226) (same := true) rfl (hb hby at_212) rfl (decide_eq_true rfl) (by decide) (by decide) ?_
      show Steps p.tables e below (T262.setTop (mkF m 226 #[.val (.int p0_0), .val (.ref b4), .val (.int ((p0_0 &&& (2147483647 : Int32)) % (28 : Int32))), .val (.ref wSERVICE_UNAVAILABLE), .unset, .unset, .unset] [])) t
      refine XS.iconst X262.here hx rfl (hb hby at_226) ?_
      show Steps p.tables e below (T262.setTop (mkF m 227 #[.val (.int p0_0), .val (.ref b4), .val (.int ((p0_0 &&& (2147483647 : Int32)) % (28 : Int32))), .val (.ref wSERVICE_UNAVAILABLE), .unset, .unset, .unset] [(.int (0 : Int32))])) t
      refine XS.istore X262.here hx rfl (hb hby at_227) rfl (l' := #[.val (.int p0_0), .val (.ref b4), .val (.int ((p0_0 &&& (2147483647 : Int32)) % (28 : Int32))), .val (.ref wSERVICE_UNAVAILABLE), .val (.int (0 : Int32)), .unset, .unset]) rfl ?_
      show Steps p.tables e below (T262.setTop (mkF m 229 #[.val (.int p0_0), .val (.ref b4), .val (.int ((p0_0 &&& (2147483647 : Int32)) % (28 : Int32))), .val (.ref wSERVICE_UNAVAILABLE), .val (.int (0 : Int32)), .unset, .unset] [])) t
      refine XS.aloadN X262.here hx rfl (hb hby at_229) rfl rfl ?_
      show Steps p.tables e below (T262.setTop (mkF m 230 #[.val (.int p0_0), .val (.ref b4), .val (.int ((p0_0 &&& (2147483647 : Int32)) % (28 : Int32))), .val (.ref wSERVICE_UNAVAILABLE), .val (.int (0 : Int32)), .unset, .unset] [(.ref wSERVICE_UNAVAILABLE)])) t
      exact k
    obtain ⟨cq263, kq263, q263a, q263b, q263c⟩ := isOf hZ e262 (EN.2.2.2.2.2.2.2.2.2.2.2.2.2.2.2.2.2.2.2.2.2.2.2.2.2.2.1.2.1.ext O259.2)
    obtain ⟨v263, _, ⟨T263, L263, k263, n263⟩, -, X263, ⟨Lc263, hQ263, l263, y263, z263⟩, st263⟩ := X262.virtualBack hx (y := (⟨"com/example/buzon/buzon/engine/ApiError", "senderFault", "()Z"⟩ : MethodName)) (z := (⟨"com/example/buzon/buzon/engine/ApiError", "senderFault", "()Z"⟩ : MethodName)) hown (mvT hZ (hw _ (List.mem_of_getElem? (i := 61) rfl))) (mvT hZ (hw _ (List.mem_of_getElem? (i := 62) rfl))) (notFace_of_selects (args := #[]) (mvT hZ (hw _ (List.mem_of_getElem? (i := 64) rfl)))) (mvT hZ (hw _ (List.mem_of_getElem? (i := 64) rfl))) (mvT hZ (hw _ (List.mem_of_getElem? (i := 63) rfl))) (by decide) (backOf (W := 0) (own_rm1 l Z a0 hw [] wSERVICE_UNAVAILABLE (503 : Int32) h254 n0 Z260 (EN.2.2.2.2.2.2.2.2.2.2.2.2.2.2.2.2.2.2.2.2.2.2.2.2.2.2.1.2.2.2.ext O259.2)) hZ (hw _ (List.mem_of_getElem? (i := 65) rfl)) (hw _ (List.mem_of_getElem? (i := 3) rfl)) (by decide) (by decide)) q263a q263c (g := (mkF m 230 #[.val (.int p0_0), .val (.ref b4), .val (.int ((p0_0 &&& (2147483647 : Int32)) % (28 : Int32))), .val (.ref wSERVICE_UNAVAILABLE), .val (.int (0 : Int32)), .unset, .unset] [(.ref wSERVICE_UNAVAILABLE)])) rfl (by rw [hml]; rfl) (Steps.refl _) (argsL := []) (rest := []) (lenOf pd___Z rfl) rfl (by show 2 * 0 + _ ≤ _; exact Nat.le_of_eq rfl) (hb hby at_230) (fun _ _ => ⟨rfl, e262, (by decide : 1 + 0 ≤ _), (by decide : 28 + 0 ≤ _)⟩)
    dsimp only [Pt.U, Pt.locs, Pt.cells, Pt.slots] at X263 l263 y263 z263 st263 hQ263
    subst y263 z263
    obtain ⟨rfl, M263, e263⟩ := hQ263
    have N264 : Fr n0 L263 := by rw [l263]; exact Fr.app N258 M263
    refine own_via (T' := T263) (g' := (mkF m 233 #[.val (.int p0_0), .val (.ref b4), .val (.int ((p0_0 &&& (2147483647 : Int32)) % (28 : Int32))), .val (.ref wSERVICE_UNAVAILABLE), .val (.int (0 : Int32)), .unset, .unset] [(.int (own_F1 (503 : Int32)))])) st263 ?_
    refine own_by (T' := T263) (g' := (mkF m 236 #[.val (.int p0_0), .val (.ref b4), .val (.int ((p0_0 &&& (2147483647 : Int32)) % (28 : Int32))), .val (.ref wSERVICE_UNAVAILABLE), .val (.int (0 : Int32)), .val (.int (own_F1 (503 : Int32))), .unset] [(.ref wSERVICE_UNAVAILABLE)])) (fun t k => ?_) ?_
    · show Steps p.tables e below (T263.setTop (mkF m 233 #[.val (.int p0_0), .val (.ref b4), .val (.int ((p0_0 &&& (2147483647 : Int32)) % (28 : Int32))), .val (.ref wSERVICE_UNAVAILABLE), .val (.int (0 : Int32)), .unset, .unset] [(.int (own_F1 (503 : Int32)))])) t
      refine XS.istore X263.here hx rfl (hb hby at_233) rfl (l' := #[.val (.int p0_0), .val (.ref b4), .val (.int ((p0_0 &&& (2147483647 : Int32)) % (28 : Int32))), .val (.ref wSERVICE_UNAVAILABLE), .val (.int (0 : Int32)), .val (.int (own_F1 (503 : Int32))), .unset]) rfl ?_
      show Steps p.tables e below (T263.setTop (mkF m 235 #[.val (.int p0_0), .val (.ref b4), .val (.int ((p0_0 &&& (2147483647 : Int32)) % (28 : Int32))), .val (.ref wSERVICE_UNAVAILABLE), .val (.int (0 : Int32)), .val (.int (own_F1 (503 : Int32))), .unset] [])) t
      refine XS.aloadN X263.here hx rfl (hb hby at_235) rfl rfl ?_
      show Steps p.tables e below (T263.setTop (mkF m 236 #[.val (.int p0_0), .val (.ref b4), .val (.int ((p0_0 &&& (2147483647 : Int32)) % (28 : Int32))), .val (.ref wSERVICE_UNAVAILABLE), .val (.int (0 : Int32)), .val (.int (own_F1 (503 : Int32))), .unset] [(.ref wSERVICE_UNAVAILABLE)])) t
      exact k
    obtain ⟨cq265, kq265, q265a, q265b, q265c⟩ := isOf hZ e263 (EN.2.2.2.2.2.2.2.2.2.2.2.2.2.2.2.2.2.2.2.2.2.2.2.2.2.2.1.2.1.ext O259.2)
    obtain ⟨v265, _, ⟨T265, L265, k265, n265⟩, -, X265, ⟨Lc265, hQ265, l265, y265, z265⟩, st265⟩ := X263.virtualBack hx (y := (⟨"com/example/buzon/buzon/engine/ApiError", "httpStatus", "()I"⟩ : MethodName)) (z := (⟨"com/example/buzon/buzon/engine/ApiError", "httpStatus", "()I"⟩ : MethodName)) hown (mvT hZ (hw _ (List.mem_of_getElem? (i := 68) rfl))) (mvT hZ (hw _ (List.mem_of_getElem? (i := 69) rfl))) (notFace_of_selects (args := #[]) (mvT hZ (hw _ (List.mem_of_getElem? (i := 71) rfl)))) (mvT hZ (hw _ (List.mem_of_getElem? (i := 71) rfl))) (mvT hZ (hw _ (List.mem_of_getElem? (i := 70) rfl))) (by decide) (backOf (W := 0) (own_rm2 l Z a0 hw [] wSERVICE_UNAVAILABLE (503 : Int32) h254 n0 Z260 (EN.2.2.2.2.2.2.2.2.2.2.2.2.2.2.2.2.2.2.2.2.2.2.2.2.2.2.1.2.2.2.ext O259.2)) hZ (hw _ (List.mem_of_getElem? (i := 72) rfl)) (hw _ (List.mem_of_getElem? (i := 3) rfl)) (by decide) (by decide)) q265a q265c (g := (mkF m 236 #[.val (.int p0_0), .val (.ref b4), .val (.int ((p0_0 &&& (2147483647 : Int32)) % (28 : Int32))), .val (.ref wSERVICE_UNAVAILABLE), .val (.int (0 : Int32)), .val (.int (own_F1 (503 : Int32))), .unset] [(.ref wSERVICE_UNAVAILABLE)])) rfl (by rw [hml]; rfl) (Steps.refl _) (argsL := []) (rest := []) (lenOf pd___I rfl) rfl (by show 2 * 0 + _ ≤ _; exact Nat.le_of_eq rfl) (hb hby at_236) (fun _ _ => ⟨rfl, e263, (by decide : 1 + 0 ≤ _), (by decide : 28 + 0 ≤ _)⟩)
    dsimp only [Pt.U, Pt.locs, Pt.cells, Pt.slots] at X265 l265 y265 z265 st265 hQ265
    subst y265 z265
    obtain ⟨rfl, M265, e265⟩ := hQ265
    have N266 : Fr n0 L265 := by rw [l265]; exact Fr.app N264 M265
    refine own_via (T' := T265) (g' := (mkF m 239 #[.val (.int p0_0), .val (.ref b4), .val (.int ((p0_0 &&& (2147483647 : Int32)) % (28 : Int32))), .val (.ref wSERVICE_UNAVAILABLE), .val (.int (0 : Int32)), .val (.int (own_F1 (503 : Int32))), .unset] [(.int (own_F2 (503 : Int32)))])) st265 ?_
    refine own_by (T' := T265) (g' := (mkF m 271 #[.val (.int p0_0), .val (.ref b4), .val (.int ((p0_0 &&& (2147483647 : Int32)) % (28 : Int32))), .val (.ref wSERVICE_UNAVAILABLE), .val (.int (0 : Int32)), .val (.int (own_F1 (503 : Int32))), .val (.int (own_F2 (503 : Int32)))] [(.int (1 : Int32))])) (fun t k => ?_) ?_
    · show Steps p.tables e below (T265.setTop (mkF m 239 #[.val (.int p0_0), .val (.ref b4), .val (.int ((p0_0 &&& (2147483647 : Int32)) % (28 : Int32))), .val (.ref wSERVICE_UNAVAILABLE), .val (.int (0 : Int32)), .val (.int (own_F1 (503 : Int32))), .unset] [(.int (own_F2 (503 : Int32)))])) t
      refine XS.istore X265.here hx rfl (hb hby at_239) rfl (l' := #[.val (.int p0_0), .val (.ref b4), .val (.int ((p0_0 &&& (2147483647 : Int32)) % (28 : Int32))), .val (.ref wSERVICE_UNAVAILABLE), .val (.int (0 : Int32)), .val (.int (own_F1 (503 : Int32))), .val (.int (own_F2 (503 : Int32)))]) rfl ?_
      show Steps p.tables e below (T265.setTop (mkF m 241 #[.val (.int p0_0), .val (.ref b4), .val (.int ((p0_0 &&& (2147483647 : Int32)) % (28 : Int32))), .val (.ref wSERVICE_UNAVAILABLE), .val (.int (0 : Int32)), .val (.int (own_F1 (503 : Int32))), .val (.int (own_F2 (503 : Int32)))] [])) t
      refine XS.iload X265.here hx rfl (hb hby at_241) rfl ?_
      show Steps p.tables e below (T265.setTop (mkF m 243 #[.val (.int p0_0), .val (.ref b4), .val (.int ((p0_0 &&& (2147483647 : Int32)) % (28 : Int32))), .val (.ref wSERVICE_UNAVAILABLE), .val (.int (0 : Int32)), .val (.int (own_F1 (503 : Int32))), .val (.int (own_F2 (503 : Int32)))] [(.int (own_F1 (503 : Int32)))])) t
      refine XS.iload X265.here hx rfl (hb hby at_243) rfl ?_
      show Steps p.tables e below (T265.setTop (mkF m 245 #[.val (.int p0_0), .val (.ref b4), .val (.int ((p0_0 &&& (2147483647 : Int32)) % (28 : Int32))), .val (.ref wSERVICE_UNAVAILABLE), .val (.int (0 : Int32)), .val (.int (own_F1 (503 : Int32))), .val (.int (own_F2 (503 : Int32)))] [(.int (0 : Int32)), (.int (own_F1 (503 : Int32)))])) t
      refine XS.icmpNo X265.here hx rfl (hb hby at_245) rfl (teq (by decide : (own_F1 (503 : Int32)) = (0 : Int32))).2 ?_
      show Steps p.tables e below (T265.setTop (mkF m 248 #[.val (.int p0_0), .val (.ref b4), .val (.int ((p0_0 &&& (2147483647 : Int32)) % (28 : Int32))), .val (.ref wSERVICE_UNAVAILABLE), .val (.int (0 : Int32)), .val (.int (own_F1 (503 : Int32))), .val (.int (own_F2 (503 : Int32)))] [])) t
      refine XS.iload X265.here hx rfl (hb hby at_248) rfl ?_
      show Steps p.tables e below (T265.setTop (mkF m 250 #[.val (.int p0_0), .val (.ref b4), .val (.int ((p0_0 &&& (2147483647 : Int32)) % (28 : Int32))), .val (.ref wSERVICE_UNAVAILABLE), .val (.int (0 : Int32)), .val (.int (own_F1 (503 : Int32))), .val (.int (own_F2 (503 : Int32)))] [(.int (own_F1 (503 : Int32)))])) t
      refine XS.iload X265.here hx rfl (hb hby at_250) rfl ?_
      show Steps p.tables e below (T265.setTop (mkF m 252 #[.val (.int p0_0), .val (.ref b4), .val (.int ((p0_0 &&& (2147483647 : Int32)) % (28 : Int32))), .val (.ref wSERVICE_UNAVAILABLE), .val (.int (0 : Int32)), .val (.int (own_F1 (503 : Int32))), .val (.int (own_F2 (503 : Int32)))] [(.int (own_F2 (503 : Int32))), (.int (own_F1 (503 : Int32)))])) t
      refine XS.sipush X265.here hx rfl (hb hby at_252) ?_
      show Steps p.tables e below (T265.setTop (mkF m 255 #[.val (.int p0_0), .val (.ref b4), .val (.int ((p0_0 &&& (2147483647 : Int32)) % (28 : Int32))), .val (.ref wSERVICE_UNAVAILABLE), .val (.int (0 : Int32)), .val (.int (own_F1 (503 : Int32))), .val (.int (own_F2 (503 : Int32)))] [(.int (500 : Int32)), (.int (own_F2 (503 : Int32))), (.int (own_F1 (503 : Int32)))])) t
      refine XS.icmpYes X265.here hx rfl (pc0 := 255) (pc' := 262) rfl (hb hby at_255) rfl (flt (by decide : ¬ ((own_F2 (503 : Int32)) < (500 : Int32)))).2.1 (by decide) (by decide) ?_
      show Steps p.tables e below (T265.setTop (mkF m 262 #[.val (.int p0_0), .val (.ref b4), .val (.int ((p0_0 &&& (2147483647 : Int32)) % (28 : Int32))), .val (.ref wSERVICE_UNAVAILABLE), .val (.int (0 : Int32)), .val (.int (own_F1 (503 : Int32))), .val (.int (own_F2 (503 : Int32)))] [(.int (own_F1 (503 : Int32)))])) t
      refine XS.iconst X265.here hx rfl (hb hby at_262) ?_
      show Steps p.tables e below (T265.setTop (mkF m 263 #[.val (.int p0_0), .val (.ref b4), .val (.int ((p0_0 &&& (2147483647 : Int32)) % (28 : Int32))), .val (.ref wSERVICE_UNAVAILABLE), .val (.int (0 : Int32)), .val (.int (own_F1 (503 : Int32))), .val (.int (own_F2 (503 : Int32)))] [(.int (0 : Int32)), (.int (own_F1 (503 : Int32)))])) t
      refine XS.icmpNo X265.here hx rfl (hb hby at_263) rfl (teq (by decide : (own_F1 (503 : Int32)) = (0 : Int32))).2 ?_
      show Steps p.tables e below (T265.setTop (mkF m 266 #[.val (.int p0_0), .val (.ref b4), .val (.int ((p0_0 &&& (2147483647 : Int32)) % (28 : Int32))), .val (.ref wSERVICE_UNAVAILABLE), .val (.int (0 : Int32)), .val (.int (own_F1 (503 : Int32))), .val (.int (own_F2 (503 : Int32)))] [])) t
      refine XS.iconst X265.here hx rfl (hb hby at_266) ?_
      show Steps p.tables e below (T265.setTop (mkF m 267 #[.val (.int p0_0), .val (.ref b4), .val (.int ((p0_0 &&& (2147483647 : Int32)) % (28 : Int32))), .val (.ref wSERVICE_UNAVAILABLE), .val (.int (0 : Int32)), .val (.int (own_F1 (503 : Int32))), .val (.int (own_F2 (503 : Int32)))] [(.int (1 : Int32))])) t
      refine XS.goto X265.here hx rfl (pc0 := 267) (pc' := 271) rfl (hb hby at_267) (by decide) (by decide) ?_
      show Steps p.tables e below (T265.setTop (mkF m 271 #[.val (.int p0_0), .val (.ref b4), .val (.int ((p0_0 &&& (2147483647 : Int32)) % (28 : Int32))), .val (.ref wSERVICE_UNAVAILABLE), .val (.int (0 : Int32)), .val (.int (own_F1 (503 : Int32))), .val (.int (own_F2 (503 : Int32)))] [(.int (1 : Int32))])) t
      exact k
    exact own_retN X265 hx (t := .boolean) Bd.returns (by simp) (hb hby at_271) hlk (by decide) (by decide) ⟨rfl, N266⟩
  · skip
    refine own_by (T' := T254) (g' := (mkF m 207 #[.val (.int p0_0), .val (.ref b4), .val (.int ((p0_0 &&& (2147483647 : Int32)) % (28 : Int32))), .unset, .unset, .unset, .unset] [(.ref wINTERNAL_FAILURE)])) (fun t k => X254.aaload hx (j := ((p0_0 &&& (2147483647 : Int32)) % (28 : Int32))) (v := (.ref wINTERNAL_FAILURE)) (by rw [e254]; exact Ar261.1) (State.isArrayOf_alike hZ.alike Ar261.2.1) rfl Ar261.2.2 hin261 (H261.at hin261 hp261) (g := (mkF m 206 #[.val (.int p0_0), .val (.ref b4), .val (.int ((p0_0 &&& (2147483647 : Int32)) % (28 : Int32))), .unset, .unset, .unset, .unset] [(.int ((p0_0 &&& (2147483647 : Int32)) % (28 : Int32))), (.ref b4)])) rfl rfl (hb hby at_206) t k) ?_
    refine own_by (T' := T254) (g' := (mkF m 209 #[.val (.int p0_0), .val (.ref b4), .val (.int ((p0_0 &&& (2147483647 : Int32)) % (28 : Int32))), .val (.ref wINTERNAL_FAILURE), .unset, .unset, .unset] [(.ref wINTERNAL_FAILURE)])) (fun t k => ?_) ?_
    · show Steps p.tables e below (T254.setTop (mkF m 207 #[.val (.int p0_0), .val (.ref b4), .val (.int ((p0_0 &&& (2147483647 : Int32)) % (28 : Int32))), .unset, .unset, .unset, .unset] [(.ref wINTERNAL_FAILURE)])) t
      refine XS.astoreN X254.here hx rfl (hb hby at_207) rfl rfl (l' := #[.val (.int p0_0), .val (.ref b4), .val (.int ((p0_0 &&& (2147483647 : Int32)) % (28 : Int32))), .val (.ref wINTERNAL_FAILURE), .unset, .unset, .unset]) rfl ?_
      show Steps p.tables e below (T254.setTop (mkF m 208 #[.val (.int p0_0), .val (.ref b4), .val (.int ((p0_0 &&& (2147483647 : Int32)) % (28 : Int32))), .val (.ref wINTERNAL_FAILURE), .unset, .unset, .unset] [])) t
      refine XS.aloadN X254.here hx rfl (hb hby at_208) rfl rfl ?_
      show Steps p.tables e below (T254.setTop (mkF m 209 #[.val (.int p0_0), .val (.ref b4), .val (.int ((p0_0 &&& (2147483647 : Int32)) % (28 : Int32))), .val (.ref wINTERNAL_FAILURE), .unset, .unset, .unset] [(.ref wINTERNAL_FAILURE)])) t
      exact k
    obtain ⟨T267, X267, e267, st267⟩ := getS2 X254 hx hZ hown (host := "") (Or.inl (hw _ (List.mem_of_getElem? (i := 56) rfl))) Via.refl e254 (EN.2.2.2.2.2.2.2.2.2.2.2.2.2.2.2.2.2.2.2.2.2.2.2.2.2.2.1.1.ext O259.2) (g := (mkF m 209 #[.val (.int p0_0), .val (.ref b4), .val (.int ((p0_0 &&& (2147483647 : Int32)) % (28 : Int32))), .val (.ref wINTERNAL_FAILURE), .unset, .unset, .unset] [(.ref wINTERNAL_FAILURE)])) rfl (hb hby at_209)
    refine own_by (T' := T267) (g' := (mkF m 212 #[.val (.int p0_0), .val (.ref b4), .val (.int ((p0_0 &&& (2147483647 : Int32)) % (28 : Int32))), .val (.ref wINTERNAL_FAILURE), .unset, .unset, .unset] [(.ref wSERVICE_UNAVAILABLE), (.ref wINTERNAL_FAILURE)])) st267 ?_
    refine own_by (T' := T267) (g' := (mkF m 216 #[.val (.int p0_0), .val (.ref b4), .val (.int ((p0_0 &&& (2147483647 : Int32)) % (28 : Int32))), .val (.ref wINTERNAL_FAILURE), .unset, .unset, .unset] [(.ref wINTERNAL_FAILURE)])) (fun t k => ?_) ?_
    · show Steps p.tables e below (T267.setTop (mkF m 212 #[.val (.int p0_0), .val (.ref b4), .val (.int ((p0_0 &&& (2147483647 : Int32)) % (28 : Int32))), .val (.ref wINTERNAL_FAILURE), .unset, .unset, .unset] [(.ref wSERVICE_UNAVAILABLE), (.ref wINTERNAL_FAILURE)])) t
      refine Jvm.RoadKit.acmp (g := (mkF m 212 #[.val (.int p0_0), .val (.ref b4), .val (.int ((p0_0 &&& (2147483647 : Int32)) % (28 : Int32))), .val (.ref wINTERNAL_FAILURE), .unset, .unset, .unset] [(.ref wSERVICE_UNAVAILABLE), (.ref wINTERNAL_FAILURE)])) X267 hx rfl rfl rfl (pc0 := 212) (pc' := 215) (same := false) rfl (hb hby at_212) rfl (decide_eq_false fun q => (Ne.symm (Fld.ne EN.2.2.2.2.2.2.2.2.2.2.2.2.2.2.2.2.2.2.2.2.2.2.2.2.2.2.1.2.2.1 EN.2.2.2.2.2.2.2.2.2.2.2.2.2.2.2.2.2.2.2.2.2.2.2.2.2.2.2.2.2.1 (fun q => absurd (Value.int.inj q) (by decide)))) (Value.ref.inj q)) (by decide) (by decide) ?_
      show Steps p.tables e below (T267.setTop (mkF m 215 #[.val (.int p0_0), .val (.ref b4), .val (.int ((p0_0 &&& (2147483647 : Int32)) % (28 : Int32))), .val (.ref wINTERNAL_FAILURE), .unset, .unset, .unset] [])) t
      refine XS.aloadN X267.here hx rfl (hb hby at_215) rfl rfl ?_
      show Steps p.tables e below (T267.setTop (mkF m 216 #[.val (.int p0_0), .val (.ref b4), .val (.int ((p0_0 &&& (2147483647 : Int32)) % (28 : Int32))), .val (.ref wINTERNAL_FAILURE), .unset, .unset, .unset] [(.ref wINTERNAL_FAILURE)])) t
      exact k
    obtain ⟨T268, X268, e268, st268⟩ := getS2 X267 hx hZ hown (host := "") (Or.inl (hw _ (List.mem_of_getElem? (i := 58) rfl))) Via.refl e267 (EN.2.2.2.2.2.2.2.2.2.2.2.2.2.2.2.2.2.2.2.2.2.2.2.2.2.2.2.1.ext O259.2) (g := (mkF m 216 #[.val (.int p0_0), .val (.ref b4), .val (.int ((p0_0 &&& (2147483647 : Int32)) % (28 : Int32))), .val (.ref wINTERNAL_FAILURE), .unset, .unset, .unset] [(.ref wINTERNAL_FAILURE)])) rfl (hb hby at_216)
    refine own_by (T' := T268) (g' := (mkF m 219 #[.val (.int p0_0), .val (.ref b4), .val (.int ((p0_0 &&& (2147483647 : Int32)) % (28 : Int32))), .val (.ref wINTERNAL_FAILURE), .unset, .unset, .unset] [(.ref wINTERNAL_FAILURE), (.ref wINTERNAL_FAILURE)])) st268 ?_
    refine own_by (T' := T268) (g' := (mkF m 230 #[.val (.int p0_0), .val (.ref b4), .val (.int ((p0_0 &&& (2147483647 : Int32)) % (28 : Int32))), .val (.ref wINTERNAL_FAILURE), .val (.int (0 : Int32)), .unset, .unset] [(.ref wINTERNAL_FAILURE)])) (fun t k => ?_) ?_
    · show Steps p.tables e below (T268.setTop (mkF m 219 #[.val (.int p0_0), .val (.ref b4), .val (.int ((p0_0 &&& (2147483647 : Int32)) % (28 : Int32))), .val (.ref wINTERNAL_FAILURE), .unset, .unset, .unset] [(.ref wINTERNAL_FAILURE), (.ref wINTERNAL_FAILURE)])) t
      refine Jvm.RoadKit.acmp (g := (mkF m 219 #[.val (.int p0_0), .val (.ref b4), .val (.int ((p0_0 &&& (2147483647 : Int32)) % (28 : Int32))), .val (.ref wINTERNAL_FAILURE), .unset, .unset, .unset] [(.ref wINTERNAL_FAILURE), (.ref wINTERNAL_FAILURE)])) X268 hx rfl rfl rfl (pc0 := 219) (pc' := 226) (same := true) rfl (hb hby at_219) rfl (decide_eq_true rfl) (by decide) (by decide) ?_
      show Steps p.tables e below (T268.setTop (mkF m 226 #[.val (.int p0_0), .val (.ref b4), .val (.int ((p0_0 &&& (2147483647 : Int32)) % (28 : Int32))), .val (.ref wINTERNAL_FAILURE), .unset, .unset, .unset] [])) t
      refine XS.iconst X268.here hx rfl (hb hby at_226) ?_
      show Steps p.tables e below (T268.setTop (mkF m 227 #[.val (.int p0_0), .val (.ref b4), .val (.int ((p0_0 &&& (2147483647 : Int32)) % (28 : Int32))), .val (.ref wINTERNAL_FAILURE), .unset, .unset, .unset] [(.int (0 : Int32))])) t
      refine XS.istore X268.here hx rfl (hb hby at_227) rfl (l' := #[.val (.int p0_0), .val (.ref b4), .val (.int ((p0_0 &&& (2147483647 : Int32)) % (28 : Int32))), .val (.ref wINTERNAL_FAILURE), .val (.int (0 : Int32)), .unset, .unset]) rfl ?_
      show Steps p.tables e below (T268.setTop (mkF m 229 #[.val (.int p0_0), .val (.ref b4), .val (.int ((p0_0 &&& (2147483647 : Int32)) % (28 : Int32))), .val (.ref wINTERNAL_FAILURE), .val (.int (0 : Int32)), .unset, .unset] [])) t
      refine XS.aloadN X268.here hx rfl (hb hby at_229) rfl rfl ?_
      show Steps p.tables e below (T268.setTop (mkF m 230 #[.val (.int p0_0), .val (.ref b4), .val (.int ((p0_0 &&& (2147483647 : Int32)) % (28 : Int32))), .val (.ref wINTERNAL_FAILURE), .val (.int (0 : Int32)), .unset, .unset] [(.ref wINTERNAL_FAILURE)])) t
      exact k
    obtain ⟨cq269, kq269, q269a, q269b, q269c⟩ := isOf hZ e268 (EN.2.2.2.2.2.2.2.2.2.2.2.2.2.2.2.2.2.2.2.2.2.2.2.2.2.2.2.2.1.ext O259.2)
    obtain ⟨v269, _, ⟨T269, L269, k269, n269⟩, -, X269, ⟨Lc269, hQ269, l269, y269, z269⟩, st269⟩ := X268.virtualBack hx (y := (⟨"com/example/buzon/buzon/engine/ApiError", "senderFault", "()Z"⟩ : MethodName)) (z := (⟨"com/example/buzon/buzon/engine/ApiError", "senderFault", "()Z"⟩ : MethodName)) hown (mvT hZ (hw _ (List.mem_of_getElem? (i := 61) rfl))) (mvT hZ (hw _ (List.mem_of_getElem? (i := 62) rfl))) (notFace_of_selects (args := #[]) (mvT hZ (hw _ (List.mem_of_getElem? (i := 64) rfl)))) (mvT hZ (hw _ (List.mem_of_getElem? (i := 64) rfl))) (mvT hZ (hw _ (List.mem_of_getElem? (i := 63) rfl))) (by decide) (backOf (W := 0) (own_rm1 l Z a0 hw [] wINTERNAL_FAILURE (500 : Int32) h254 n0 Z260 (EN.2.2.2.2.2.2.2.2.2.2.2.2.2.2.2.2.2.2.2.2.2.2.2.2.2.2.2.2.2.2.ext O259.2)) hZ (hw _ (List.mem_of_getElem? (i := 65) rfl)) (hw _ (List.mem_of_getElem? (i := 3) rfl)) (by decide) (by decide)) q269a q269c (g := (mkF m 230 #[.val (.int p0_0), .val (.ref b4), .val (.int ((p0_0 &&& (2147483647 : Int32)) % (28 : Int32))), .val (.ref wINTERNAL_FAILURE), .val (.int (0 : Int32)), .unset, .unset] [(.ref wINTERNAL_FAILURE)])) rfl (by rw [hml]; rfl) (Steps.refl _) (argsL := []) (rest := []) (lenOf pd___Z rfl) rfl (by show 2 * 0 + _ ≤ _; exact Nat.le_of_eq rfl) (hb hby at_230) (fun _ _ => ⟨rfl, e268, (by decide : 1 + 0 ≤ _), (by decide : 28 + 0 ≤ _)⟩)
    dsimp only [Pt.U, Pt.locs, Pt.cells, Pt.slots] at X269 l269 y269 z269 st269 hQ269
    subst y269 z269
    obtain ⟨rfl, M269, e269⟩ := hQ269
    have N270 : Fr n0 L269 := by rw [l269]; exact Fr.app N258 M269
    refine own_via (T' := T269) (g' := (mkF m 233 #[.val (.int p0_0), .val (.ref b4), .val (.int ((p0_0 &&& (2147483647 : Int32)) % (28 : Int32))), .val (.ref wINTERNAL_FAILURE), .val (.int (0 : Int32)), .unset, .unset] [(.int (own_F1 (500 : Int32)))])) st269 ?_
    refine own_by (T' := T269) (g' := (mkF m 236 #[.val (.int p0_0), .val (.ref b4), .val (.int ((p0_0 &&& (2147483647 : Int32)) % (28 : Int32))), .val (.ref wINTERNAL_FAILURE), .val (.int (0 : Int32)), .val (.int (own_F1 (500 : Int32))), .unset] [(.ref wINTERNAL_FAILURE)])) (fun t k => ?_) ?_
    · show Steps p.tables e below (T269.setTop (mkF m 233 #[.val (.int p0_0), .val (.ref b4), .val (.int ((p0_0 &&& (2147483647 : Int32)) % (28 : Int32))), .val (.ref wINTERNAL_FAILURE), .val (.int (0 : Int32)), .unset, .unset] [(.int (own_F1 (500 : Int32)))])) t
      refine XS.istore X269.here hx rfl (hb hby at_233) rfl (l' := #[.val (.int p0_0), .val (.ref b4), .val (.int ((p0_0 &&& (2147483647 : Int32)) % (28 : Int32))), .val (.ref wINTERNAL_FAILURE), .val (.int (0 : Int32)), .val (.int (own_F1 (500 : Int32))), .unset]) rfl ?_
      show Steps p.tables e below (T269.setTop (mkF m 235 #[.val (.int p0_0), .val (.ref b4), .val (.int ((p0_0 &&& (2147483647 : Int32)) % (28 : Int32))), .val (.ref wINTERNAL_FAILURE), .val (.int (0 : Int32)), .val (.int (own_F1 (500 : Int32))), .unset] [])) t
      refine XS.aloadN X269.here hx rfl (hb hby at_235) rfl rfl ?_
      show Steps p.tables e below (T269.setTop (mkF m 236 #[.val (.int p0_0), .val (.ref b4), .val (.int ((p0_0 &&& (2147483647 : Int32)) % (28 : Int32))), .val (.ref wINTERNAL_FAILURE), .val (.int (0 : Int32)), .val (.int (own_F1 (500 : Int32))), .unset] [(.ref wINTERNAL_FAILURE)])) t
      exact k
    obtain ⟨cq271, kq271, q271a, q271b, q271c⟩ := isOf hZ e269 (EN.2.2.2.2.2.2.2.2.2.2.2.2.2.2.2.2.2.2.2.2.2.2.2.2.2.2.2.2.1.ext O259.2)
    obtain ⟨v271, _, ⟨T271, L271, k271, n271⟩, -, X271, ⟨Lc271, hQ271, l271, y271, z271⟩, st271⟩ := X269.virtualBack hx (y := (⟨"com/example/buzon/buzon/engine/ApiError", "httpStatus", "()I"⟩ : MethodName)) (z := (⟨"com/example/buzon/buzon/engine/ApiError", "httpStatus", "()I"⟩ : MethodName)) hown (mvT hZ (hw _ (List.mem_of_getElem? (i := 68) rfl))) (mvT hZ (hw _ (List.mem_of_getElem? (i := 69) rfl))) (notFace_of_selects (args := #[]) (mvT hZ (hw _ (List.mem_of_getElem? (i := 71) rfl)))) (mvT hZ (hw _ (List.mem_of_getElem? (i := 71) rfl))) (mvT hZ (hw _ (List.mem_of_getElem? (i := 70) rfl))) (by decide) (backOf (W := 0) (own_rm2 l Z a0 hw [] wINTERNAL_FAILURE (500 : Int32) h254 n0 Z260 (EN.2.2.2.2.2.2.2.2.2.2.2.2.2.2.2.2.2.2.2.2.2.2.2.2.2.2.2.2.2.2.ext O259.2)) hZ (hw _ (List.mem_of_getElem? (i := 72) rfl)) (hw _ (List.mem_of_getElem? (i := 3) rfl)) (by decide) (by decide)) q271a q271c (g := (mkF m 236 #[.val (.int p0_0), .val (.ref b4), .val (.int ((p0_0 &&& (2147483647 : Int32)) % (28 : Int32))), .val (.ref wINTERNAL_FAILURE), .val (.int (0 : Int32)), .val (.int (own_F1 (500 : Int32))), .unset] [(.ref wINTERNAL_FAILURE)])) rfl (by rw [hml]; rfl) (Steps.refl _) (argsL := []) (rest := []) (lenOf pd___I rfl) rfl (by show 2 * 0 + _ ≤ _; exact Nat.le_of_eq rfl) (hb hby at_236) (fun _ _ => ⟨rfl, e269, (by decide : 1 + 0 ≤ _), (by decide : 28 + 0 ≤ _)⟩)
    dsimp only [Pt.U, Pt.locs, Pt.cells, Pt.slots] at X271 l271 y271 z271 st271 hQ271
    subst y271 z271
    obtain ⟨rfl, M271, e271⟩ := hQ271
    have N272 : Fr n0 L271 := by rw [l271]; exact Fr.app N270 M271
    refine own_via (T' := T271) (g' := (mkF m 239 #[.val (.int p0_0), .val (.ref b4), .val (.int ((p0_0 &&& (2147483647 : Int32)) % (28 : Int32))), .val (.ref wINTERNAL_FAILURE), .val (.int (0 : Int32)), .val (.int (own_F1 (500 : Int32))), .unset] [(.int (own_F2 (500 : Int32)))])) st271 ?_
    refine own_by (T' := T271) (g' := (mkF m 271 #[.val (.int p0_0), .val (.ref b4), .val (.int ((p0_0 &&& (2147483647 : Int32)) % (28 : Int32))), .val (.ref wINTERNAL_FAILURE), .val (.int (0 : Int32)), .val (.int (own_F1 (500 : Int32))), .val (.int (own_F2 (500 : Int32)))] [(.int (1 : Int32))])) (fun t k => ?_) ?_
    · show Steps p.tables e below (T271.setTop (mkF m 239 #[.val (.int p0_0), .val (.ref b4), .val (.int ((p0_0 &&& (2147483647 : Int32)) % (28 : Int32))), .val (.ref wINTERNAL_FAILURE), .val (.int (0 : Int32)), .val (.int (own_F1 (500 : Int32))), .unset] [(.int (own_F2 (500 : Int32)))])) t
      refine XS.istore X271.here hx rfl (hb hby at_239) rfl (l' := #[.val (.int p0_0), .val (.ref b4), .val (.int ((p0_0 &&& (2147483647 : Int32)) % (28 : Int32))), .val (.ref wINTERNAL_FAILURE), .val (.int (0 : Int32)), .val (.int (own_F1 (500 : Int32))), .val (.int (own_F2 (500 : Int32)))]) rfl ?_
      show Steps p.tables e below (T271.setTop (mkF m 241 #[.val (.int p0_0), .val (.ref b4), .val (.int ((p0_0 &&& (2147483647 : Int32)) % (28 : Int32))), .val (.ref wINTERNAL_FAILURE), .val (.int (0 : Int32)), .val (.int (own_F1 (500 : Int32))), .val (.int (own_F2 (500 : Int32)))] [])) t
      refine XS.iload X271.here hx rfl (hb hby at_241) rfl ?_
      show Steps p.tables e below (T271.setTop (mkF m 243 #[.val (.int p0_0), .val (.ref b4), .val (.int ((p0_0 &&& (2147483647 : Int32)) % (28 : Int32))), .val (.ref wINTERNAL_FAILURE), .val (.int (0 : Int32)), .val (.int (own_F1 (500 : Int32))), .val (.int (own_F2 (500 : Int32)))] [(.int (own_F1 (500 : Int32)))])) t
      refine XS.iload X271.here hx rfl (hb hby at_243) rfl ?_
      show Steps p.tables e below (T271.setTop (mkF m 245 #[.val (.int p0_0), .val (.ref b4), .val (.int ((p0_0 &&& (2147483647 : Int32)) % (28 : Int32))), .val (.ref wINTERNAL_FAILURE), .val (.int (0 : Int32)), .val (.int (own_F1 (500 : Int32))), .val (.int (own_F2 (500 : Int32)))] [(.int (0 : Int32)), (.int (own_F1 (500 : Int32)))])) t
      refine XS.icmpNo X271.here hx rfl (hb hby at_245) rfl (teq (by decide : (own_F1 (500 : Int32)) = (0 : Int32))).2 ?_
      show Steps p.tables e below (T271.setTop (mkF m 248 #[.val (.int p0_0), .val (.ref b4), .val (.int ((p0_0 &&& (2147483647 : Int32)) % (28 : Int32))), .val (.ref wINTERNAL_FAILURE), .val (.int (0 : Int32)), .val (.int (own_F1 (500 : Int32))), .val (.int (own_F2 (500 : Int32)))] [])) t
      refine XS.iload X271.here hx rfl (hb hby at_248) rfl ?_
      show Steps p.tables e below (T271.setTop (mkF m 250 #[.val (.int p0_0), .val (.ref b4), .val (.int ((p0_0 &&& (2147483647 : Int32)) % (28 : Int32))), .val (.ref wINTERNAL_FAILURE), .val (.int (0 : Int32)), .val (.int (own_F1 (500 : Int32))), .val (.int (own_F2 (500 : Int32)))] [(.int (own_F1 (500 : Int32)))])) t
      refine XS.iload X271.here hx rfl (hb hby at_250) rfl ?_
      show Steps p.tables e below (T271.setTop (mkF m 252 #[.val (.int p0_0), .val (.ref b4), .val (.int ((p0_0 &&& (2147483647 : Int32)) % (28 : Int32))), .val (.ref wINTERNAL_FAILURE), .val (.int (0 : Int32)), .val (.int (own_F1 (500 : Int32))), .val (.int (own_F2 (500 : Int32)))] [(.int (own_F2 (500 : Int32))), (.int (own_F1 (500 : Int32)))])) t
      refine XS.sipush X271.here hx rfl (hb hby at_252) ?_
      show Steps p.tables e below (T271.setTop (mkF m 255 #[.val (.int p0_0), .val (.ref b4), .val (.int ((p0_0 &&& (2147483647 : Int32)) % (28 : Int32))), .val (.ref wINTERNAL_FAILURE), .val (.int (0 : Int32)), .val (.int (own_F1 (500 : Int32))), .val (.int (own_F2 (500 : Int32)))] [(.int (500 : Int32)), (.int (own_F2 (500 : Int32))), (.int (own_F1 (500 : Int32)))])) t
      refine XS.icmpYes X271.here hx rfl (pc0 := 255) (pc' := 262) rfl (hb hby at_255) rfl (flt (by decide : ¬ ((own_F2 (500 : Int32)) < (500 : Int32)))).2.1 (by decide) (by decide) ?_
      show Steps p.tables e below (T271.setTop (mkF m 262 #[.val (.int p0_0), .val (.ref b4), .val (.int ((p0_0 &&& (2147483647 : Int32)) % (28 : Int32))), .val (.ref wINTERNAL_FAILURE), .val (.int (0 : Int32)), .val (.int (own_F1 (500 : Int32))), .val (.int (own_F2 (500 : Int32)))] [(.int (own_F1 (500 : Int32)))])) t
      refine XS.iconst X271.here hx rfl (hb hby at_262) ?_
      show Steps p.tables e below (T271.setTop (mkF m 263 #[.val (.int p0_0), .val (.ref b4), .val (.int ((p0_0 &&& (2147483647 : Int32)) % (28 : Int32))), .val (.ref wINTERNAL_FAILURE), .val (.int (0 : Int32)), .val (.int (own_F1 (500 : Int32))), .val (.int (own_F2 (500 : Int32)))] [(.int (0 : Int32)), (.int (own_F1 (500 : Int32)))])) t
      refine XS.icmpNo X271.here hx rfl (hb hby at_263) rfl (teq (by decide : (own_F1 (500 : Int32)) = (0 : Int32))).2 ?_
      show Steps p.tables e below (T271.setTop (mkF m 266 #[.val (.int p0_0), .val (.ref b4), .val (.int ((p0_0 &&& (2147483647 : Int32)) % (28 : Int32))), .val (.ref wINTERNAL_FAILURE), .val (.int (0 : Int32)), .val (.int (own_F1 (500 : Int32))), .val (.int (own_F2 (500 : Int32)))] [])) t
      refine XS.iconst X271.here hx rfl (hb hby at_266) ?_
      show Steps p.tables e below (T271.setTop (mkF m 267 #[.val (.int p0_0), .val (.ref b4), .val (.int ((p0_0 &&& (2147483647 : Int32)) % (28 : Int32))), .val (.ref wINTERNAL_FAILURE), .val (.int (0 : Int32)), .val (.int (own_F1 (500 : Int32))), .val (.int (own_F2 (500 : Int32)))] [(.int (1 : Int32))])) t
      refine XS.goto X271.here hx rfl (pc0 := 267) (pc' := 271) rfl (hb hby at_267) (by decide) (by decide) ?_
      show Steps p.tables e below (T271.setTop (mkF m 271 #[.val (.int p0_0), .val (.ref b4), .val (.int ((p0_0 &&& (2147483647 : Int32)) % (28 : Int32))), .val (.ref wINTERNAL_FAILURE), .val (.int (0 : Int32)), .val (.int (own_F1 (500 : Int32))), .val (.int (own_F2 (500 : Int32)))] [(.int (1 : Int32))])) t
      exact k
    exact own_retN X271 hx (t := .boolean) Bd.returns (by simp) (hb hby at_271) hlk (by decide) (by decide) ⟨rfl, N272⟩
  · skip
    refine own_by (T' := T254) (g' := (mkF m 207 #[.val (.int p0_0), .val (.ref b4), .val (.int ((p0_0 &&& (2147483647 : Int32)) % (28 : Int32))), .unset, .unset, .unset, .unset] [(.ref c261)])) (fun t k => X254.aaload hx (j := ((p0_0 &&& (2147483647 : Int32)) % (28 : Int32))) (v := (.ref c261)) (by rw [e254]; exact Ar261.1) (State.isArrayOf_alike hZ.alike Ar261.2.1) rfl Ar261.2.2 hin261 (H261.at hin261 hp261) (g := (mkF m 206 #[.val (.int p0_0), .val (.ref b4), .val (.int ((p0_0 &&& (2147483647 : Int32)) % (28 : Int32))), .unset, .unset, .unset, .unset] [(.int ((p0_0 &&& (2147483647 : Int32)) % (28 : Int32))), (.ref b4)])) rfl rfl (hb hby at_206) t k) ?_
    refine own_by (T' := T254) (g' := (mkF m 209 #[.val (.int p0_0), .val (.ref b4), .val (.int ((p0_0 &&& (2147483647 : Int32)) % (28 : Int32))), .val (.ref c261), .unset, .unset, .unset] [(.ref c261)])) (fun t k => ?_) ?_
    · show Steps p.tables e below (T254.setTop (mkF m 207 #[.val (.int p0_0), .val (.ref b4), .val (.int ((p0_0 &&& (2147483647 : Int32)) % (28 : Int32))), .unset, .unset, .unset, .unset] [(.ref c261)])) t
      refine XS.astoreN X254.here hx rfl (hb hby at_207) rfl rfl (l' := #[.val (.int p0_0), .val (.ref b4), .val (.int ((p0_0 &&& (2147483647 : Int32)) % (28 : Int32))), .val (.ref c261), .unset, .unset, .unset]) rfl ?_
      show Steps p.tables e below (T254.setTop (mkF m 208 #[.val (.int p0_0), .val (.ref b4), .val (.int ((p0_0 &&& (2147483647 : Int32)) % (28 : Int32))), .val (.ref c261), .unset, .unset, .unset] [])) t
      refine XS.aloadN X254.here hx rfl (hb hby at_208) rfl rfl ?_
      show Steps p.tables e below (T254.setTop (mkF m 209 #[.val (.int p0_0), .val (.ref b4), .val (.int ((p0_0 &&& (2147483647 : Int32)) % (28 : Int32))), .val (.ref c261), .unset, .unset, .unset] [(.ref c261)])) t
      exact k
    obtain ⟨T273, X273, e273, st273⟩ := getS2 X254 hx hZ hown (host := "") (Or.inl (hw _ (List.mem_of_getElem? (i := 56) rfl))) Via.refl e254 (EN.2.2.2.2.2.2.2.2.2.2.2.2.2.2.2.2.2.2.2.2.2.2.2.2.2.2.1.1.ext O259.2) (g := (mkF m 209 #[.val (.int p0_0), .val (.ref b4), .val (.int ((p0_0 &&& (2147483647 : Int32)) % (28 : Int32))), .val (.ref c261), .unset, .unset, .unset] [(.ref c261)])) rfl (hb hby at_209)
    refine own_by (T' := T273) (g' := (mkF m 212 #[.val (.int p0_0), .val (.ref b4), .val (.int ((p0_0 &&& (2147483647 : Int32)) % (28 : Int32))), .val (.ref c261), .unset, .unset, .unset] [(.ref wSERVICE_UNAVAILABLE), (.ref c261)])) st273 ?_
    refine own_by (T' := T273) (g' := (mkF m 216 #[.val (.int p0_0), .val (.ref b4), .val (.int ((p0_0 &&& (2147483647 : Int32)) % (28 : Int32))), .val (.ref c261), .unset, .unset, .unset] [(.ref c261)])) (fun t k => ?_) ?_
    · show Steps p.tables e below (T273.setTop (mkF m 212 #[.val (.int p0_0), .val (.ref b4), .val (.int ((p0_0 &&& (2147483647 : Int32)) % (28 : Int32))), .val (.ref c261), .unset, .unset, .unset] [(.ref wSERVICE_UNAVAILABLE), (.ref c261)])) t
      refine Jvm.RoadKit.acmp (g := (mkF m 212 #[.val (.int p0_0), .val (.ref b4), .val (.int ((p0_0 &&& (2147483647 : Int32)) % (28 : Int32))), .val (.ref c261), .unset, .unset, .unset] [(.ref wSERVICE_UNAVAILABLE), (.ref c261)])) X273 hx rfl rfl rfl (pc0 := 212) (pc' := 215) (same := false) rfl (hb hby at_212) rfl (decide_eq_false fun q => n1261 (Value.ref.inj q)) (by decide) (by decide) ?_
      show Steps p.tables e below (T273.setTop (mkF m 215 #[.val (.int p0_0), .val (.ref b4), .val (.int ((p0_0 &&& (2147483647 : Int32)) % (28 : Int32))), .val (.ref c261), .unset, .unset, .unset] [])) t
      refine XS.aloadN X273.here hx rfl (hb hby at_215) rfl rfl ?_
      show Steps p.tables e below (T273.setTop (mkF m 216 #[.val (.int p0_0), .val (.ref b4), .val (.int ((p0_0 &&& (2147483647 : Int32)) % (28 : Int32))), .val (.ref c261), .unset, .unset, .unset] [(.ref c261)])) t
      exact k
    obtain ⟨T274, X274, e274, st274⟩ := getS2 X273 hx hZ hown (host := "") (Or.inl (hw _ (List.mem_of_getElem? (i := 58) rfl))) Via.refl e273 (EN.2.2.2.2.2.2.2.2.2.2.2.2.2.2.2.2.2.2.2.2.2.2.2.2.2.2.2.1.ext O259.2) (g := (mkF m 216 #[.val (.int p0_0), .val (.ref b4), .val (.int ((p0_0 &&& (2147483647 : Int32)) % (28 : Int32))), .val (.ref c261), .unset, .unset, .unset] [(.ref c261)])) rfl (hb hby at_216)
    refine own_by (T' := T274) (g' := (mkF m 219 #[.val (.int p0_0), .val (.ref b4), .val (.int ((p0_0 &&& (2147483647 : Int32)) % (28 : Int32))), .val (.ref c261), .unset, .unset, .unset] [(.ref wINTERNAL_FAILURE), (.ref c261)])) st274 ?_
    refine own_by (T' := T274) (g' := (mkF m 230 #[.val (.int p0_0), .val (.ref b4), .val (.int ((p0_0 &&& (2147483647 : Int32)) % (28 : Int32))), .val (.ref c261), .val (.int (1 : Int32)), .unset, .unset] [(.ref c261)])) (fun t k => ?_) ?_
    · show Steps p.tables e below (T274.setTop (mkF m 219 #[.val (.int p0_0), .val (.ref b4), .val (.int ((p0_0 &&& (2147483647 : Int32)) % (28 : Int32))), .val (.ref c261), .unset, .unset, .unset] [(.ref wINTERNAL_FAILURE), (.ref c261)])) t
      refine Jvm.RoadKit.acmp (g := (mkF m 219 #[.val (.int p0_0), .val (.ref b4), .val (.int ((p0_0 &&& (2147483647 : Int32)) % (28 : Int32))), .val (.ref c261), .unset, .unset, .unset] [(.ref wINTERNAL_FAILURE), (.ref c261)])) X274 hx rfl rfl rfl (pc0 := 219) (pc' := 222) (same := false) rfl (hb hby at_219) rfl (decide_eq_false fun q => n2261 (Value.ref.inj q)) (by decide) (by decide) ?_
      show Steps p.tables e below (T274.setTop (mkF m 222 #[.val (.int p0_0), .val (.ref b4), .val (.int ((p0_0 &&& (2147483647 : Int32)) % (28 : Int32))), .val (.ref c261), .unset, .unset, .unset] [])) t
      refine XS.iconst X274.here hx rfl (hb hby at_222) ?_
      show Steps p.tables e below (T274.setTop (mkF m 223 #[.val (.int p0_0), .val (.ref b4), .val (.int ((p0_0 &&& (2147483647 : Int32)) % (28 : Int32))), .val (.ref c261), .unset, .unset, .unset] [(.int (1 : Int32))])) t
      refine XS.goto X274.here hx rfl (pc0 := 223) (pc' := 227) rfl (hb hby at_223) (by decide) (by decide) ?_
      show Steps p.tables e below (T274.setTop (mkF m 227 #[.val (.int p0_0), .val (.ref b4), .val (.int ((p0_0 &&& (2147483647 : Int32)) % (28 : Int32))), .val (.ref c261), .unset, .unset, .unset] [(.int (1 : Int32))])) t
      refine XS.istore X274.here hx rfl (hb hby at_227) rfl (l' := #[.val (.int p0_0), .val (.ref b4), .val (.int ((p0_0 &&& (2147483647 : Int32)) % (28 : Int32))), .val (.ref c261), .val (.int (1 : Int32)), .unset, .unset]) rfl ?_
      show Steps p.tables e below (T274.setTop (mkF m 229 #[.val (.int p0_0), .val (.ref b4), .val (.int ((p0_0 &&& (2147483647 : Int32)) % (28 : Int32))), .val (.ref c261), .val (.int (1 : Int32)), .unset, .unset] [])) t
      refine XS.aloadN X274.here hx rfl (hb hby at_229) rfl rfl ?_
      show Steps p.tables e below (T274.setTop (mkF m 230 #[.val (.int p0_0), .val (.ref b4), .val (.int ((p0_0 &&& (2147483647 : Int32)) % (28 : Int32))), .val (.ref c261), .val (.int (1 : Int32)), .unset, .unset] [(.ref c261)])) t
      exact k
    obtain ⟨cq275, kq275, q275a, q275b, q275c⟩ := isOf hZ e274 (Ee261.ext O259.2)
    obtain ⟨v275, _, ⟨T275, L275, k275, n275⟩, -, X275, ⟨Lc275, hQ275, l275, y275, z275⟩, st275⟩ := X274.virtualBack hx (y := (⟨"com/example/buzon/buzon/engine/ApiError", "senderFault", "()Z"⟩ : MethodName)) (z := (⟨"com/example/buzon/buzon/engine/ApiError", "senderFault", "()Z"⟩ : MethodName)) hown (mvT hZ (hw _ (List.mem_of_getElem? (i := 61) rfl))) (mvT hZ (hw _ (List.mem_of_getElem? (i := 62) rfl))) (notFace_of_selects (args := #[]) (mvT hZ (hw _ (List.mem_of_getElem? (i := 64) rfl)))) (mvT hZ (hw _ (List.mem_of_getElem? (i := 64) rfl))) (mvT hZ (hw _ (List.mem_of_getElem? (i := 63) rfl))) (by decide) (backOf (W := 0) (own_rm1 l Z a0 hw [] c261 hs261 h254 n0 Z260 (Fe261.ext O259.2)) hZ (hw _ (List.mem_of_getElem? (i := 65) rfl)) (hw _ (List.mem_of_getElem? (i := 3) rfl)) (by decide) (by decide)) q275a q275c (g := (mkF m 230 #[.val (.int p0_0), .val (.ref b4), .val (.int ((p0_0 &&& (2147483647 : Int32)) % (28 : Int32))), .val (.ref c261), .val (.int (1 : Int32)), .unset, .unset] [(.ref c261)])) rfl (by rw [hml]; rfl) (Steps.refl _) (argsL := []) (rest := []) (lenOf pd___Z rfl) rfl (by show 2 * 0 + _ ≤ _; exact Nat.le_of_eq rfl) (hb hby at_230) (fun _ _ => ⟨rfl, e274, (by decide : 1 + 0 ≤ _), (by decide : 28 + 0 ≤ _)⟩)
    dsimp only [Pt.U, Pt.locs, Pt.cells, Pt.slots] at X275 l275 y275 z275 st275 hQ275
    subst y275 z275
    obtain ⟨rfl, M275, e275⟩ := hQ275
    have N276 : Fr n0 L275 := by rw [l275]; exact Fr.app N258 M275
    refine own_via (T' := T275) (g' := (mkF m 233 #[.val (.int p0_0), .val (.ref b4), .val (.int ((p0_0 &&& (2147483647 : Int32)) % (28 : Int32))), .val (.ref c261), .val (.int (1 : Int32)), .unset, .unset] [(.int (own_F1 hs261))])) st275 ?_
    refine own_by (T' := T275) (g' := (mkF m 236 #[.val (.int p0_0), .val (.ref b4), .val (.int ((p0_0 &&& (2147483647 : Int32)) % (28 : Int32))), .val (.ref c261), .val (.int (1 : Int32)), .val (.int (own_F1 hs261)), .unset] [(.ref c261)])) (fun t k => ?_) ?_
    · show Steps p.tables e below (T275.setTop (mkF m 233 #[.val (.int p0_0), .val (.ref b4), .val (.int ((p0_0 &&& (2147483647 : Int32)) % (28 : Int32))), .val (.ref c261), .val (.int (1 : Int32)), .unset, .unset] [(.int (own_F1 hs261))])) t
      refine XS.istore X275.here hx rfl (hb hby at_233) rfl (l' := #[.val (.int p0_0), .val (.ref b4), .val (.int ((p0_0 &&& (2147483647 : Int32)) % (28 : Int32))), .val (.ref c261), .val (.int (1 : Int32)), .val (.int (own_F1 hs261)), .unset]) rfl ?_
      show Steps p.tables e below (T275.setTop (mkF m 235 #[.val (.int p0_0), .val (.ref b4), .val (.int ((p0_0 &&& (2147483647 : Int32)) % (28 : Int32))), .val (.ref c261), .val (.int (1 : Int32)), .val (.int (own_F1 hs261)), .unset] [])) t
      refine XS.aloadN X275.here hx rfl (hb hby at_235) rfl rfl ?_
      show Steps p.tables e below (T275.setTop (mkF m 236 #[.val (.int p0_0), .val (.ref b4), .val (.int ((p0_0 &&& (2147483647 : Int32)) % (28 : Int32))), .val (.ref c261), .val (.int (1 : Int32)), .val (.int (own_F1 hs261)), .unset] [(.ref c261)])) t
      exact k
    obtain ⟨cq277, kq277, q277a, q277b, q277c⟩ := isOf hZ e275 (Ee261.ext O259.2)
    obtain ⟨v277, _, ⟨T277, L277, k277, n277⟩, -, X277, ⟨Lc277, hQ277, l277, y277, z277⟩, st277⟩ := X275.virtualBack hx (y := (⟨"com/example/buzon/buzon/engine/ApiError", "httpStatus", "()I"⟩ : MethodName)) (z := (⟨"com/example/buzon/buzon/engine/ApiError", "httpStatus", "()I"⟩ : MethodName)) hown (mvT hZ (hw _ (List.mem_of_getElem? (i := 68) rfl))) (mvT hZ (hw _ (List.mem_of_getElem? (i := 69) rfl))) (notFace_of_selects (args := #[]) (mvT hZ (hw _ (List.mem_of_getElem? (i := 71) rfl)))) (mvT hZ (hw _ (List.mem_of_getElem? (i := 71) rfl))) (mvT hZ (hw _ (List.mem_of_getElem? (i := 70) rfl))) (by decide) (backOf (W := 0) (own_rm2 l Z a0 hw [] c261 hs261 h254 n0 Z260 (Fe261.ext O259.2)) hZ (hw _ (List.mem_of_getElem? (i := 72) rfl)) (hw _ (List.mem_of_getElem? (i := 3) rfl)) (by decide) (by decide)) q277a q277c (g := (mkF m 236 #[.val (.int p0_0), .val (.ref b4), .val (.int ((p0_0 &&& (2147483647 : Int32)) % (28 : Int32))), .val (.ref c261), .val (.int (1 : Int32)), .val (.int (own_F1 hs261)), .unset] [(.ref c261)])) rfl (by rw [hml]; rfl) (Steps.refl _) (argsL := []) (rest := []) (lenOf pd___I rfl) rfl (by show 2 * 0 + _ ≤ _; exact Nat.le_of_eq rfl) (hb hby at_236) (fun _ _ => ⟨rfl, e275, (by decide : 1 + 0 ≤ _), (by decide : 28 + 0 ≤ _)⟩)
    dsimp only [Pt.U, Pt.locs, Pt.cells, Pt.slots] at X277 l277 y277 z277 st277 hQ277
    subst y277 z277
    obtain ⟨rfl, M277, e277⟩ := hQ277
    have N278 : Fr n0 L277 := by rw [l277]; exact Fr.app N276 M277
    refine own_via (T' := T277) (g' := (mkF m 239 #[.val (.int p0_0), .val (.ref b4), .val (.int ((p0_0 &&& (2147483647 : Int32)) % (28 : Int32))), .val (.ref c261), .val (.int (1 : Int32)), .val (.int (own_F1 hs261)), .unset] [(.int (own_F2 hs261))])) st277 ?_
    refine own_by (T' := T277) (g' := (mkF m 271 #[.val (.int p0_0), .val (.ref b4), .val (.int ((p0_0 &&& (2147483647 : Int32)) % (28 : Int32))), .val (.ref c261), .val (.int (1 : Int32)), .val (.int (own_F1 hs261)), .val (.int (own_F2 hs261))] [(.int (1 : Int32))])) (fun t k => ?_) ?_
    · show Steps p.tables e below (T277.setTop (mkF m 239 #[.val (.int p0_0), .val (.ref b4), .val (.int ((p0_0 &&& (2147483647 : Int32)) % (28 : Int32))), .val (.ref c261), .val (.int (1 : Int32)), .val (.int (own_F1 hs261)), .unset] [(.int (own_F2 hs261))])) t
      refine XS.istore X277.here hx rfl (hb hby at_239) rfl (l' := #[.val (.int p0_0), .val (.ref b4), .val (.int ((p0_0 &&& (2147483647 : Int32)) % (28 : Int32))), .val (.ref c261), .val (.int (1 : Int32)), .val (.int (own_F1 hs261)), .val (.int (own_F2 hs261))]) rfl ?_
      show Steps p.tables e below (T277.setTop (mkF m 241 #[.val (.int p0_0), .val (.ref b4), .val (.int ((p0_0 &&& (2147483647 : Int32)) % (28 : Int32))), .val (.ref c261), .val (.int (1 : Int32)), .val (.int (own_F1 hs261)), .val (.int (own_F2 hs261))] [])) t
      refine XS.iload X277.here hx rfl (hb hby at_241) rfl ?_
      show Steps p.tables e below (T277.setTop (mkF m 243 #[.val (.int p0_0), .val (.ref b4), .val (.int ((p0_0 &&& (2147483647 : Int32)) % (28 : Int32))), .val (.ref c261), .val (.int (1 : Int32)), .val (.int (own_F1 hs261)), .val (.int (own_F2 hs261))] [(.int (own_F1 hs261))])) t
      refine XS.iload X277.here hx rfl (hb hby at_243) rfl ?_
      show Steps p.tables e below (T277.setTop (mkF m 245 #[.val (.int p0_0), .val (.ref b4), .val (.int ((p0_0 &&& (2147483647 : Int32)) % (28 : Int32))), .val (.ref c261), .val (.int (1 : Int32)), .val (.int (own_F1 hs261)), .val (.int (own_F2 hs261))] [(.int (1 : Int32)), (.int (own_F1 hs261))])) t
      refine XS.icmpNo X277.here hx rfl (hb hby at_245) rfl (teq (show (own_F1 hs261) = (1 : Int32) from if_pos hlt261)).2 ?_
      show Steps p.tables e below (T277.setTop (mkF m 248 #[.val (.int p0_0), .val (.ref b4), .val (.int ((p0_0 &&& (2147483647 : Int32)) % (28 : Int32))), .val (.ref c261), .val (.int (1 : Int32)), .val (.int (own_F1 hs261)), .val (.int (own_F2 hs261))] [])) t
      refine XS.iload X277.here hx rfl (hb hby at_248) rfl ?_
      show Steps p.tables e below (T277.setTop (mkF m 250 #[.val (.int p0_0), .val (.ref b4), .val (.int ((p0_0 &&& (2147483647 : Int32)) % (28 : Int32))), .val (.ref c261), .val (.int (1 : Int32)), .val (.int (own_F1 hs261)), .val (.int (own_F2 hs261))] [(.int (own_F1 hs261))])) t
      refine XS.iload X277.here hx rfl (hb hby at_250) rfl ?_
      show Steps p.tables e below (T277.setTop (mkF m 252 #[.val (.int p0_0), .val (.ref b4), .val (.int ((p0_0 &&& (2147483647 : Int32)) % (28 : Int32))), .val (.ref c261), .val (.int (1 : Int32)), .val (.int (own_F1 hs261)), .val (.int (own_F2 hs261))] [(.int (own_F2 hs261)), (.int (own_F1 hs261))])) t
      refine XS.sipush X277.here hx rfl (hb hby at_252) ?_
      show Steps p.tables e below (T277.setTop (mkF m 255 #[.val (.int p0_0), .val (.ref b4), .val (.int ((p0_0 &&& (2147483647 : Int32)) % (28 : Int32))), .val (.ref c261), .val (.int (1 : Int32)), .val (.int (own_F1 hs261)), .val (.int (own_F2 hs261))] [(.int (500 : Int32)), (.int (own_F2 hs261)), (.int (own_F1 hs261))])) t
      refine XS.icmpNo X277.here hx rfl (hb hby at_255) rfl (tlt (show (own_F2 hs261) < (500 : Int32) from hlt261)).2.1 ?_
      show Steps p.tables e below (T277.setTop (mkF m 258 #[.val (.int p0_0), .val (.ref b4), .val (.int ((p0_0 &&& (2147483647 : Int32)) % (28 : Int32))), .val (.ref c261), .val (.int (1 : Int32)), .val (.int (own_F1 hs261)), .val (.int (own_F2 hs261))] [(.int (own_F1 hs261))])) t
      refine XS.iconst X277.here hx rfl (hb hby at_258) ?_
      show Steps p.tables e below (T277.setTop (mkF m 259 #[.val (.int p0_0), .val (.ref b4), .val (.int ((p0_0 &&& (2147483647 : Int32)) % (28 : Int32))), .val (.ref c261), .val (.int (1 : Int32)), .val (.int (own_F1 hs261)), .val (.int (own_F2 hs261))] [(.int (1 : Int32)), (.int (own_F1 hs261))])) t
      refine XS.goto X277.here hx rfl (pc0 := 259) (pc' := 263) rfl (hb hby at_259) (by decide) (by decide) ?_
      show Steps p.tables e below (T277.setTop (mkF m 263 #[.val (.int p0_0), .val (.ref b4), .val (.int ((p0_0 &&& (2147483647 : Int32)) % (28 : Int32))), .val (.ref c261), .val (.int (1 : Int32)), .val (.int (own_F1 hs261)), .val (.int (own_F2 hs261))] [(.int (1 : Int32)), (.int (own_F1 hs261))])) t
      refine XS.icmpNo X277.here hx rfl (hb hby at_263) rfl (teq (show (own_F1 hs261) = (1 : Int32) from if_pos hlt261)).2 ?_
      show Steps p.tables e below (T277.setTop (mkF m 266 #[.val (.int p0_0), .val (.ref b4), .val (.int ((p0_0 &&& (2147483647 : Int32)) % (28 : Int32))), .val (.ref c261), .val (.int (1 : Int32)), .val (.int (own_F1 hs261)), .val (.int (own_F2 hs261))] [])) t
      refine XS.iconst X277.here hx rfl (hb hby at_266) ?_
      show Steps p.tables e below (T277.setTop (mkF m 267 #[.val (.int p0_0), .val (.ref b4), .val (.int ((p0_0 &&& (2147483647 : Int32)) % (28 : Int32))), .val (.ref c261), .val (.int (1 : Int32)), .val (.int (own_F1 hs261)), .val (.int (own_F2 hs261))] [(.int (1 : Int32))])) t
      refine XS.goto X277.here hx rfl (pc0 := 267) (pc' := 271) rfl (hb hby at_267) (by decide) (by decide) ?_
      show Steps p.tables e below (T277.setTop (mkF m 271 #[.val (.int p0_0), .val (.ref b4), .val (.int ((p0_0 &&& (2147483647 : Int32)) % (28 : Int32))), .val (.ref c261), .val (.int (1 : Int32)), .val (.int (own_F1 hs261)), .val (.int (own_F2 hs261))] [(.int (1 : Int32))])) t
      exact k
    exact own_retN X277 hx (t := .boolean) Bd.returns (by simp) (hb hby at_271) hlk (by decide) (by decide) ⟨rfl, N278⟩
set_option maxRecDepth 65536 in
set_option maxHeartbeats 40000000 in
theorem own_comes {Post : Tables → Env → Array Value → State → Outcome → State → Prop} (hpost : ∀ tb e args s v u, (limb_1_1.after args s (.returned v) u = true ∧ limb_1_2.after args s (.returned v) u = true ∧ True) → FrameEnd s (.returned v) u (Jvm.fieldLocs frame_1_writes args s ++ Jvm.arrayLocs frame_1_arrays args s ++ Jvm.staticLocs frame_1_statics s) 16 128 → Post tb e args s (.returned v) u) :
    ArmFor flags0 classFile x code maxLocals ret World_1 tables_1 room_1 Calls_1 rest_1 Pre_1 Post := by
  intro l hfl _ _ p e ha hc hk s m args below hf hA hF happ hP
  obtain ⟨hcalls, hrest, hpre⟩ := hP
  obtain ⟨-, -, -, hnamed, -, -, -, hat⟩ := (Spec.applies_iff hf).mp happ
  obtain ⟨hg, hn⟩ := and_e (Cond.before_iff.mp (show (Jvm.Cond.and given_1 narrow_1).before args s = true from hpre))
  obtain ⟨hg1, hg2⟩ := and_e hg
  obtain ⟨w0, rfl⟩ : ∃ w0 : Value, args = #[w0] := by
    have hs : args.size = 1 := by simpa [Cond.value, given_1] using hg1
    obtain ⟨L⟩ := args
    match L, hs with
    | [w0], _ => exact ⟨w0, rfl⟩
  have hw := fun d (hd : d ∈ tables_1) => atoms_spec (ws := Jvm.Cond.code x code maxLocals ret :: tables_1) hat d (List.mem_cons_of_mem _ hd)
  have hfit : Fit s := fun {y c} hc i hi => by
    obtain ⟨ha, rfl⟩ := Array.getElem?_eq_some_iff.mp hc
    have q := List.all_eq_true.mp ((Array.all_eq_true_iff_forall_mem.mp hF) _ (Array.getElem_mem ha)) i (List.mem_range.mpr hi)
    simpa [Array.getElem?_eq_getElem hi] using q
  obtain ⟨i0, ei0⟩ := is_v hg2
  obtain rfl : w0 = (.int i0) := Option.some.inj ei0
  obtain ⟨hn1a, hn1b⟩ := and_e hn
  obtain ⟨hn2a, hn2b⟩ := and_e hn1b
  obtain ⟨hn3a, hn3b⟩ := and_e hn2b
  obtain ⟨hn4a, hn4b⟩ := and_e hn3b
  obtain ⟨hn5a, hn5b⟩ := and_e hn4b
  obtain ⟨hn6a, hn6b⟩ := and_e hn5b
  obtain ⟨hn7a, hn7b⟩ := and_e hn6b
  obtain ⟨hn8a, hn8b⟩ := and_e hn7b
  obtain ⟨hn9a, hn9b⟩ := and_e hn8b
  obtain ⟨hn10a, hn10b⟩ := and_e hn9b
  obtain ⟨hn11a, hn11b⟩ := and_e hn10b
  obtain ⟨hn12a, hn12b⟩ := and_e hn11b
  obtain ⟨hn13a, hn13b⟩ := and_e hn12b
  obtain ⟨hn14a, hn14b⟩ := and_e hn13b
  obtain ⟨hn15a, hn15b⟩ := and_e hn14b
  obtain ⟨hn16a, hn16b⟩ := and_e hn15b
  obtain ⟨hn17a, hn17b⟩ := and_e hn16b
  obtain ⟨hn18a, hn18b⟩ := and_e hn17b
  obtain ⟨hn19a, hn19b⟩ := and_e hn18b
  obtain ⟨hn20a, hn20b⟩ := and_e hn19b
  obtain ⟨hn21a, hn21b⟩ := and_e hn20b
  obtain ⟨hn22a, hn22b⟩ := and_e hn21b
  obtain ⟨hn23a, hn23b⟩ := and_e hn22b
  obtain ⟨hn24a, hn24b⟩ := and_e hn23b
  obtain ⟨hn25a, hn25b⟩ := and_e hn24b
  obtain ⟨hn26a, hn26b⟩ := and_e hn25b
  obtain ⟨hn27a, hn27b⟩ := and_e hn26b
  obtain ⟨hn28a, hn28b⟩ := and_e hn27b
  obtain ⟨hn29a, hn29b⟩ := and_e hn28b
  obtain ⟨hn30a, hn30b⟩ := and_e hn29b
  obtain ⟨hn31a, hn31b⟩ := and_e hn30b
  obtain ⟨hn32a, hn32b⟩ := and_e hn31b
  obtain ⟨hn33a, hn33b⟩ := and_e hn32b
  obtain ⟨hn34a, hn34b⟩ := and_e hn33b
  obtain ⟨hn35a, hn35b⟩ := and_e hn34b
  obtain ⟨hn36a, hn36b⟩ := and_e hn35b
  obtain ⟨hn37a, hn37b⟩ := and_e hn36b
  obtain ⟨hn38a, hn38b⟩ := and_e hn37b
  obtain ⟨hn39a, hn39b⟩ := and_e hn38b
  obtain ⟨hn40a, hn40b⟩ := and_e hn39b
  obtain ⟨hn41a, hn41b⟩ := and_e hn40b
  obtain ⟨hn42a, hn42b⟩ := and_e hn41b
  obtain ⟨hn43a, hn43b⟩ := and_e hn42b
  obtain ⟨hn44a, hn44b⟩ := and_e hn43b
  obtain ⟨hn45a, hn45b⟩ := and_e hn44b
  obtain ⟨hn46a, hn46b⟩ := and_e hn45b
  obtain ⟨hn47a, hn47b⟩ := and_e hn46b
  obtain ⟨hn48a, hn48b⟩ := and_e hn47b
  obtain ⟨hn49a, hn49b⟩ := and_e hn48b
  obtain ⟨hn50a, hn50b⟩ := and_e hn49b
  obtain ⟨hn51a, hn51b⟩ := and_e hn50b
  obtain ⟨hn52a, hn52b⟩ := and_e hn51b
  obtain ⟨hn53a, hn53b⟩ := and_e hn52b
  obtain ⟨hn54a, hn54b⟩ := and_e hn53b
  obtain ⟨hn55a, hn55b⟩ := and_e hn54b
  obtain ⟨hn56a, hn56b⟩ := and_e hn55b
  obtain ⟨hn57a, hn57b⟩ := and_e hn56b
  obtain ⟨hn58a, hn58b⟩ := and_e hn57b
  obtain ⟨hn59a, hn59b⟩ := and_e hn58b
  obtain ⟨hn60a, hn60b⟩ := and_e hn59b
  obtain ⟨hn61a, hn61b⟩ := and_e hn60b
  obtain ⟨hn62a, hn62b⟩ := and_e hn61b
  obtain ⟨hn63a, hn63b⟩ := and_e hn62b
  obtain ⟨hn64a, hn64b⟩ := and_e hn63b
  obtain ⟨hn65a, hn65b⟩ := and_e hn64b
  obtain ⟨hn66a, hn66b⟩ := and_e hn65b
  obtain ⟨hn67a, hn67b⟩ := and_e hn66b
  obtain ⟨hn68a, hn68b⟩ := and_e hn67b
  obtain ⟨hn69a, hn69b⟩ := and_e hn68b
  obtain ⟨hn70a, hn70b⟩ := and_e hn69b
  obtain ⟨hn71a, hn71b⟩ := and_e hn70b
  obtain ⟨hn72a, hn72b⟩ := and_e hn71b
  obtain ⟨hn73a, hn73b⟩ := and_e hn72b
  obtain ⟨hn74a, hn74b⟩ := and_e hn73b
  obtain ⟨hn75a, hn75b⟩ := and_e hn74b
  obtain ⟨hn76a, hn76b⟩ := and_e hn75b
  obtain ⟨hn77a, hn77b⟩ := and_e hn76b
  obtain ⟨hn78a, hn78b⟩ := and_e hn77b
  obtain ⟨hn79a, hn79b⟩ := and_e hn78b
  obtain ⟨hn80a, hn80b⟩ := and_e hn79b
  obtain ⟨hn81a, hn81b⟩ := and_e hn80b
  obtain ⟨hn82a, hn82b⟩ := and_e hn81b
  obtain ⟨hn83a, hn83b⟩ := and_e hn82b
  obtain ⟨wMISSING_ACTION, ev_wMISSING_ACTION⟩ := exa_v hn1a
  have S_wMISSING_ACTION := Sta.start ev_wMISSING_ACTION (Or.inr ⟨(hw _ (List.mem_of_getElem? (i := 3) rfl)), (hw _ (List.mem_of_getElem? (i := 4) rfl))⟩)
  have E_wMISSING_ACTION := Exa.start ev_wMISSING_ACTION hn1a
  obtain ⟨wINVALID_ACTION, ev_wINVALID_ACTION⟩ := exa_v hn2a
  have S_wINVALID_ACTION := Sta.start ev_wINVALID_ACTION (Or.inr ⟨(hw _ (List.mem_of_getElem? (i := 3) rfl)), (hw _ (List.mem_of_getElem? (i := 7) rfl))⟩)
  have E_wINVALID_ACTION := Exa.start ev_wINVALID_ACTION hn2a
  obtain ⟨wMALFORMED_QUERY_STRING, ev_wMALFORMED_QUERY_STRING⟩ := exa_v hn3a
  have S_wMALFORMED_QUERY_STRING := Sta.start ev_wMALFORMED_QUERY_STRING (Or.inr ⟨(hw _ (List.mem_of_getElem? (i := 3) rfl)), (hw _ (List.mem_of_getElem? (i := 9) rfl))⟩)
  have E_wMALFORMED_QUERY_STRING := Exa.start ev_wMALFORMED_QUERY_STRING hn3a
  obtain ⟨wINVALID_ADDRESS, ev_wINVALID_ADDRESS⟩ := exa_v hn4a
  have S_wINVALID_ADDRESS := Sta.start ev_wINVALID_ADDRESS (Or.inr ⟨(hw _ (List.mem_of_getElem? (i := 3) rfl)), (hw _ (List.mem_of_getElem? (i := 11) rfl))⟩)
  have E_wINVALID_ADDRESS := Exa.start ev_wINVALID_ADDRESS hn4a
  obtain ⟨wMISSING_PARAMETER, ev_wMISSING_PARAMETER⟩ := exa_v hn5a
  have S_wMISSING_PARAMETER := Sta.start ev_wMISSING_PARAMETER (Or.inr ⟨(hw _ (List.mem_of_getElem? (i := 3) rfl)), (hw _ (List.mem_of_getElem? (i := 13) rfl))⟩)
  have E_wMISSING_PARAMETER := Exa.start ev_wMISSING_PARAMETER hn5a
  obtain ⟨wINVALID_PARAMETER_VALUE, ev_wINVALID_PARAMETER_VALUE⟩ := exa_v hn6a
  have S_wINVALID_PARAMETER_VALUE := Sta.start ev_wINVALID_PARAMETER_VALUE (Or.inr ⟨(hw _ (List.mem_of_getElem? (i := 3) rfl)), (hw _ (List.mem_of_getElem? (i := 15) rfl))⟩)
  have E_wINVALID_PARAMETER_VALUE := Exa.start ev_wINVALID_PARAMETER_VALUE hn6a
  obtain ⟨wINVALID_ATTRIBUTE_VALUE, ev_wINVALID_ATTRIBUTE_VALUE⟩ := exa_v hn7a
  have S_wINVALID_ATTRIBUTE_VALUE := Sta.start ev_wINVALID_ATTRIBUTE_VALUE (Or.inr ⟨(hw _ (List.mem_of_getElem? (i := 3) rfl)), (hw _ (List.mem_of_getElem? (i := 17) rfl))⟩)
  have E_wINVALID_ATTRIBUTE_VALUE := Exa.start ev_wINVALID_ATTRIBUTE_VALUE hn7a
  obtain ⟨wINVALID_ATTRIBUTE_NAME, ev_wINVALID_ATTRIBUTE_NAME⟩ := exa_v hn8a
  have S_wINVALID_ATTRIBUTE_NAME := Sta.start ev_wINVALID_ATTRIBUTE_NAME (Or.inr ⟨(hw _ (List.mem_of_getElem? (i := 3) rfl)), (hw _ (List.mem_of_getElem? (i := 19) rfl))⟩)
  have E_wINVALID_ATTRIBUTE_NAME := Exa.start ev_wINVALID_ATTRIBUTE_NAME hn8a
  obtain ⟨wQUEUE_ALREADY_EXISTS, ev_wQUEUE_ALREADY_EXISTS⟩ := exa_v hn9a
  have S_wQUEUE_ALREADY_EXISTS := Sta.start ev_wQUEUE_ALREADY_EXISTS (Or.inr ⟨(hw _ (List.mem_of_getElem? (i := 3) rfl)), (hw _ (List.mem_of_getElem? (i := 21) rfl))⟩)
  have E_wQUEUE_ALREADY_EXISTS := Exa.start ev_wQUEUE_ALREADY_EXISTS hn9a
  obtain ⟨wINVALID_MESSAGE_CONTENTS, ev_wINVALID_MESSAGE_CONTENTS⟩ := exa_v hn10a
  have S_wINVALID_MESSAGE_CONTENTS := Sta.start ev_wINVALID_MESSAGE_CONTENTS (Or.inr ⟨(hw _ (List.mem_of_getElem? (i := 3) rfl)), (hw _ (List.mem_of_getElem? (i := 23) rfl))⟩)
  have E_wINVALID_MESSAGE_CONTENTS := Exa.start ev_wINVALID_MESSAGE_CONTENTS hn10a
  obtain ⟨wNON_EXISTENT_QUEUE, ev_wNON_EXISTENT_QUEUE⟩ := exa_v hn11a
  have S_wNON_EXISTENT_QUEUE := Sta.start ev_wNON_EXISTENT_QUEUE (Or.inr ⟨(hw _ (List.mem_of_getElem? (i := 3) rfl)), (hw _ (List.mem_of_getElem? (i := 25) rfl))⟩)
  have E_wNON_EXISTENT_QUEUE := Exa.start ev_wNON_EXISTENT_QUEUE hn11a
  obtain ⟨wRECEIPT_HANDLE_IS_INVALID, ev_wRECEIPT_HANDLE_IS_INVALID⟩ := exa_v hn12a
  have S_wRECEIPT_HANDLE_IS_INVALID := Sta.start ev_wRECEIPT_HANDLE_IS_INVALID (Or.inr ⟨(hw _ (List.mem_of_getElem? (i := 3) rfl)), (hw _ (List.mem_of_getElem? (i := 27) rfl))⟩)
  have E_wRECEIPT_HANDLE_IS_INVALID := Exa.start ev_wRECEIPT_HANDLE_IS_INVALID hn12a
  obtain ⟨wMESSAGE_NOT_INFLIGHT, ev_wMESSAGE_NOT_INFLIGHT⟩ := exa_v hn13a
  have S_wMESSAGE_NOT_INFLIGHT := Sta.start ev_wMESSAGE_NOT_INFLIGHT (Or.inr ⟨(hw _ (List.mem_of_getElem? (i := 3) rfl)), (hw _ (List.mem_of_getElem? (i := 29) rfl))⟩)
  have E_wMESSAGE_NOT_INFLIGHT := Exa.start ev_wMESSAGE_NOT_INFLIGHT hn13a
  obtain ⟨wEMPTY_BATCH_REQUEST, ev_wEMPTY_BATCH_REQUEST⟩ := exa_v hn14a
  have S_wEMPTY_BATCH_REQUEST := Sta.start ev_wEMPTY_BATCH_REQUEST (Or.inr ⟨(hw _ (List.mem_of_getElem? (i := 3) rfl)), (hw _ (List.mem_of_getElem? (i := 31) rfl))⟩)
  have E_wEMPTY_BATCH_REQUEST := Exa.start ev_wEMPTY_BATCH_REQUEST hn14a
  obtain ⟨wTOO_MANY_ENTRIES_IN_BATCH_REQUEST, ev_wTOO_MANY_ENTRIES_IN_BATCH_REQUEST⟩ := exa_v hn15a
  have S_wTOO_MANY_ENTRIES_IN_BATCH_REQUEST := Sta.start ev_wTOO_MANY_ENTRIES_IN_BATCH_REQUEST (Or.inr ⟨(hw _ (List.mem_of_getElem? (i := 3) rfl)), (hw _ (List.mem_of_getElem? (i := 33) rfl))⟩)
  have E_wTOO_MANY_ENTRIES_IN_BATCH_REQUEST := Exa.start ev_wTOO_MANY_ENTRIES_IN_BATCH_REQUEST hn15a
  obtain ⟨wBATCH_ENTRY_IDS_NOT_DISTINCT, ev_wBATCH_ENTRY_IDS_NOT_DISTINCT⟩ := exa_v hn16a
  have S_wBATCH_ENTRY_IDS_NOT_DISTINCT := Sta.start ev_wBATCH_ENTRY_IDS_NOT_DISTINCT (Or.inr ⟨(hw _ (List.mem_of_getElem? (i := 3) rfl)), (hw _ (List.mem_of_getElem? (i := 35) rfl))⟩)
  have E_wBATCH_ENTRY_IDS_NOT_DISTINCT := Exa.start ev_wBATCH_ENTRY_IDS_NOT_DISTINCT hn16a
  obtain ⟨wINVALID_BATCH_ENTRY_ID, ev_wINVALID_BATCH_ENTRY_ID⟩ := exa_v hn17a
  have S_wINVALID_BATCH_ENTRY_ID := Sta.start ev_wINVALID_BATCH_ENTRY_ID (Or.inr ⟨(hw _ (List.mem_of_getElem? (i := 3) rfl)), (hw _ (List.mem_of_getElem? (i := 37) rfl))⟩)
  have E_wINVALID_BATCH_ENTRY_ID := Exa.start ev_wINVALID_BATCH_ENTRY_ID hn17a
  obtain ⟨wBATCH_REQUEST_TOO_LONG, ev_wBATCH_REQUEST_TOO_LONG⟩ := exa_v hn18a
  have S_wBATCH_REQUEST_TOO_LONG := Sta.start ev_wBATCH_REQUEST_TOO_LONG (Or.inr ⟨(hw _ (List.mem_of_getElem? (i := 3) rfl)), (hw _ (List.mem_of_getElem? (i := 39) rfl))⟩)
  have E_wBATCH_REQUEST_TOO_LONG := Exa.start ev_wBATCH_REQUEST_TOO_LONG hn18a
  obtain ⟨wOVER_LIMIT, ev_wOVER_LIMIT⟩ := exa_v hn19a
  have S_wOVER_LIMIT := Sta.start ev_wOVER_LIMIT (Or.inr ⟨(hw _ (List.mem_of_getElem? (i := 3) rfl)), (hw _ (List.mem_of_getElem? (i := 41) rfl))⟩)
  have E_wOVER_LIMIT := Exa.start ev_wOVER_LIMIT hn19a
  obtain ⟨wRESOURCE_NOT_FOUND, ev_wRESOURCE_NOT_FOUND⟩ := exa_v hn20a
  have S_wRESOURCE_NOT_FOUND := Sta.start ev_wRESOURCE_NOT_FOUND (Or.inr ⟨(hw _ (List.mem_of_getElem? (i := 3) rfl)), (hw _ (List.mem_of_getElem? (i := 43) rfl))⟩)
  have E_wRESOURCE_NOT_FOUND := Exa.start ev_wRESOURCE_NOT_FOUND hn20a
  obtain ⟨wUNSUPPORTED_OPERATION, ev_wUNSUPPORTED_OPERATION⟩ := exa_v hn21a
  have S_wUNSUPPORTED_OPERATION := Sta.start ev_wUNSUPPORTED_OPERATION (Or.inr ⟨(hw _ (List.mem_of_getElem? (i := 3) rfl)), (hw _ (List.mem_of_getElem? (i := 45) rfl))⟩)
  have E_wUNSUPPORTED_OPERATION := Exa.start ev_wUNSUPPORTED_OPERATION hn21a
  obtain ⟨wMISSING_AUTHENTICATION_TOKEN, ev_wMISSING_AUTHENTICATION_TOKEN⟩ := exa_v hn22a
  have S_wMISSING_AUTHENTICATION_TOKEN := Sta.start ev_wMISSING_AUTHENTICATION_TOKEN (Or.inr ⟨(hw _ (List.mem_of_getElem? (i := 3) rfl)), (hw _ (List.mem_of_getElem? (i := 47) rfl))⟩)
  have E_wMISSING_AUTHENTICATION_TOKEN := Exa.start ev_wMISSING_AUTHENTICATION_TOKEN hn22a
  obtain ⟨wINCOMPLETE_SIGNATURE, ev_wINCOMPLETE_SIGNATURE⟩ := exa_v hn23a
  have S_wINCOMPLETE_SIGNATURE := Sta.start ev_wINCOMPLETE_SIGNATURE (Or.inr ⟨(hw _ (List.mem_of_getElem? (i := 3) rfl)), (hw _ (List.mem_of_getElem? (i := 49) rfl))⟩)
  have E_wINCOMPLETE_SIGNATURE := Exa.start ev_wINCOMPLETE_SIGNATURE hn23a
  obtain ⟨wINVALID_CLIENT_TOKEN_ID, ev_wINVALID_CLIENT_TOKEN_ID⟩ := exa_v hn24a
  have S_wINVALID_CLIENT_TOKEN_ID := Sta.start ev_wINVALID_CLIENT_TOKEN_ID (Or.inr ⟨(hw _ (List.mem_of_getElem? (i := 3) rfl)), (hw _ (List.mem_of_getElem? (i := 51) rfl))⟩)
  have E_wINVALID_CLIENT_TOKEN_ID := Exa.start ev_wINVALID_CLIENT_TOKEN_ID hn24a
  obtain ⟨wREQUEST_EXPIRED, ev_wREQUEST_EXPIRED⟩ := exa_v hn25a
  have S_wREQUEST_EXPIRED := Sta.start ev_wREQUEST_EXPIRED (Or.inr ⟨(hw _ (List.mem_of_getElem? (i := 3) rfl)), (hw _ (List.mem_of_getElem? (i := 53) rfl))⟩)
  have E_wREQUEST_EXPIRED := Exa.start ev_wREQUEST_EXPIRED hn25a
  obtain ⟨wSIGNATURE_DOES_NOT_MATCH, ev_wSIGNATURE_DOES_NOT_MATCH⟩ := exa_v hn26a
  have S_wSIGNATURE_DOES_NOT_MATCH := Sta.start ev_wSIGNATURE_DOES_NOT_MATCH (Or.inr ⟨(hw _ (List.mem_of_getElem? (i := 3) rfl)), (hw _ (List.mem_of_getElem? (i := 55) rfl))⟩)
  have E_wSIGNATURE_DOES_NOT_MATCH := Exa.start ev_wSIGNATURE_DOES_NOT_MATCH hn26a
  obtain ⟨wSERVICE_UNAVAILABLE, ev_wSERVICE_UNAVAILABLE⟩ := exa_v hn27a
  have S_wSERVICE_UNAVAILABLE := Sta.start ev_wSERVICE_UNAVAILABLE (Or.inr ⟨(hw _ (List.mem_of_getElem? (i := 3) rfl)), (hw _ (List.mem_of_getElem? (i := 57) rfl))⟩)
  have E_wSERVICE_UNAVAILABLE := Exa.start ev_wSERVICE_UNAVAILABLE hn27a
  obtain ⟨wINTERNAL_FAILURE, ev_wINTERNAL_FAILURE⟩ := exa_v hn28a
  have S_wINTERNAL_FAILURE := Sta.start ev_wINTERNAL_FAILURE (Or.inr ⟨(hw _ (List.mem_of_getElem? (i := 3) rfl)), (hw _ (List.mem_of_getElem? (i := 59) rfl))⟩)
  have E_wINTERNAL_FAILURE := Exa.start ev_wINTERNAL_FAILURE hn28a
  have F_wMISSING_ACTION_ordinal := Fld.start ((fld_at ev_wMISSING_ACTION).symm.trans (eqv_i (Term.int_eval (0)) hn29a))
  have F_wSERVICE_UNAVAILABLE_ordinal := Fld.start ((fld_at ev_wSERVICE_UNAVAILABLE).symm.trans (eqv_i (Term.int_eval (26)) hn30a))
  have F_wINTERNAL_FAILURE_ordinal := Fld.start ((fld_at ev_wINTERNAL_FAILURE).symm.trans (eqv_i (Term.int_eval (27)) hn31a))
  have F_wMISSING_ACTION_httpStatus := Fld.start ((fld_at ev_wMISSING_ACTION).symm.trans (eqv_i (Term.int_eval (400)) hn32a))
  have F_wINVALID_ADDRESS_ordinal := Fld.start ((fld_at ev_wINVALID_ADDRESS).symm.trans (eqv_i (Term.int_eval (3)) hn33a))
  have F_wINVALID_ADDRESS_httpStatus := Fld.start ((fld_at ev_wINVALID_ADDRESS).symm.trans (eqv_i (Term.int_eval (400)) hn34a))
  have F_wSERVICE_UNAVAILABLE_httpStatus := Fld.start ((fld_at ev_wSERVICE_UNAVAILABLE).symm.trans (eqv_i (Term.int_eval (503)) hn35a))
  have F_wINTERNAL_FAILURE_httpStatus := Fld.start ((fld_at ev_wINTERNAL_FAILURE).symm.trans (eqv_i (Term.int_eval (500)) hn36a))
  have F_wOVER_LIMIT_ordinal := Fld.start ((fld_at ev_wOVER_LIMIT).symm.trans (eqv_i (Term.int_eval (18)) hn37a))
  have F_wOVER_LIMIT_httpStatus := Fld.start ((fld_at ev_wOVER_LIMIT).symm.trans (eqv_i (Term.int_eval (403)) hn38a))
  have F_wINVALID_ATTRIBUTE_NAME_ordinal := Fld.start ((fld_at ev_wINVALID_ATTRIBUTE_NAME).symm.trans (eqv_i (Term.int_eval (7)) hn39a))
  have F_wINVALID_ATTRIBUTE_NAME_httpStatus := Fld.start ((fld_at ev_wINVALID_ATTRIBUTE_NAME).symm.trans (eqv_i (Term.int_eval (400)) hn40a))
  have F_wMALFORMED_QUERY_STRING_ordinal := Fld.start ((fld_at ev_wMALFORMED_QUERY_STRING).symm.trans (eqv_i (Term.int_eval (2)) hn41a))
  have F_wMALFORMED_QUERY_STRING_httpStatus := Fld.start ((fld_at ev_wMALFORMED_QUERY_STRING).symm.trans (eqv_i (Term.int_eval (400)) hn42a))
  have F_wRECEIPT_HANDLE_IS_INVALID_ordinal := Fld.start ((fld_at ev_wRECEIPT_HANDLE_IS_INVALID).symm.trans (eqv_i (Term.int_eval (11)) hn43a))
  have F_wRECEIPT_HANDLE_IS_INVALID_httpStatus := Fld.start ((fld_at ev_wRECEIPT_HANDLE_IS_INVALID).symm.trans (eqv_i (Term.int_eval (400)) hn44a))
  have F_wREQUEST_EXPIRED_ordinal := Fld.start ((fld_at ev_wREQUEST_EXPIRED).symm.trans (eqv_i (Term.int_eval (24)) hn45a))
  have F_wREQUEST_EXPIRED_httpStatus := Fld.start ((fld_at ev_wREQUEST_EXPIRED).symm.trans (eqv_i (Term.int_eval (400)) hn46a))
  have F_wQUEUE_ALREADY_EXISTS_ordinal := Fld.start ((fld_at ev_wQUEUE_ALREADY_EXISTS).symm.trans (eqv_i (Term.int_eval (8)) hn47a))
  have F_wQUEUE_ALREADY_EXISTS_httpStatus := Fld.start ((fld_at ev_wQUEUE_ALREADY_EXISTS).symm.trans (eqv_i (Term.int_eval (400)) hn48a))
  have F_wINVALID_ACTION_ordinal := Fld.start ((fld_at ev_wINVALID_ACTION).symm.trans (eqv_i (Term.int_eval (1)) hn49a))
  have F_wINVALID_ACTION_httpStatus := Fld.start ((fld_at ev_wINVALID_ACTION).symm.trans (eqv_i (Term.int_eval (400)) hn50a))
  have F_wNON_EXISTENT_QUEUE_ordinal := Fld.start ((fld_at ev_wNON_EXISTENT_QUEUE).symm.trans (eqv_i (Term.int_eval (10)) hn51a))
  have F_wNON_EXISTENT_QUEUE_httpStatus := Fld.start ((fld_at ev_wNON_EXISTENT_QUEUE).symm.trans (eqv_i (Term.int_eval (400)) hn52a))
  have F_wINVALID_MESSAGE_CONTENTS_ordinal := Fld.start ((fld_at ev_wINVALID_MESSAGE_CONTENTS).symm.trans (eqv_i (Term.int_eval (9)) hn53a))
  have F_wINVALID_MESSAGE_CONTENTS_httpStatus := Fld.start ((fld_at ev_wINVALID_MESSAGE_CONTENTS).symm.trans (eqv_i (Term.int_eval (400)) hn54a))
  have F_wRESOURCE_NOT_FOUND_ordinal := Fld.start ((fld_at ev_wRESOURCE_NOT_FOUND).symm.trans (eqv_i (Term.int_eval (19)) hn55a))
  have F_wRESOURCE_NOT_FOUND_httpStatus := Fld.start ((fld_at ev_wRESOURCE_NOT_FOUND).symm.trans (eqv_i (Term.int_eval (400)) hn56a))
  have F_wINVALID_BATCH_ENTRY_ID_ordinal := Fld.start ((fld_at ev_wINVALID_BATCH_ENTRY_ID).symm.trans (eqv_i (Term.int_eval (16)) hn57a))
  have F_wINVALID_BATCH_ENTRY_ID_httpStatus := Fld.start ((fld_at ev_wINVALID_BATCH_ENTRY_ID).symm.trans (eqv_i (Term.int_eval (400)) hn58a))
  have F_wBATCH_ENTRY_IDS_NOT_DISTINCT_ordinal := Fld.start ((fld_at ev_wBATCH_ENTRY_IDS_NOT_DISTINCT).symm.trans (eqv_i (Term.int_eval (15)) hn59a))
  have F_wBATCH_ENTRY_IDS_NOT_DISTINCT_httpStatus := Fld.start ((fld_at ev_wBATCH_ENTRY_IDS_NOT_DISTINCT).symm.trans (eqv_i (Term.int_eval (400)) hn60a))
  have F_wINVALID_ATTRIBUTE_VALUE_ordinal := Fld.start ((fld_at ev_wINVALID_ATTRIBUTE_VALUE).symm.trans (eqv_i (Term.int_eval (6)) hn61a))
  have F_wINVALID_ATTRIBUTE_VALUE_httpStatus := Fld.start ((fld_at ev_wINVALID_ATTRIBUTE_VALUE).symm.trans (eqv_i (Term.int_eval (400)) hn62a))
  have F_wUNSUPPORTED_OPERATION_ordinal := Fld.start ((fld_at ev_wUNSUPPORTED_OPERATION).symm.trans (eqv_i (Term.int_eval (20)) hn63a))
  have F_wUNSUPPORTED_OPERATION_httpStatus := Fld.start ((fld_at ev_wUNSUPPORTED_OPERATION).symm.trans (eqv_i (Term.int_eval (400)) hn64a))
  have F_wINVALID_CLIENT_TOKEN_ID_ordinal := Fld.start ((fld_at ev_wINVALID_CLIENT_TOKEN_ID).symm.trans (eqv_i (Term.int_eval (23)) hn65a))
  have F_wINVALID_CLIENT_TOKEN_ID_httpStatus := Fld.start ((fld_at ev_wINVALID_CLIENT_TOKEN_ID).symm.trans (eqv_i (Term.int_eval (403)) hn66a))
  have F_wEMPTY_BATCH_REQUEST_ordinal := Fld.start ((fld_at ev_wEMPTY_BATCH_REQUEST).symm.trans (eqv_i (Term.int_eval (13)) hn67a))
  have F_wEMPTY_BATCH_REQUEST_httpStatus := Fld.start ((fld_at ev_wEMPTY_BATCH_REQUEST).symm.trans (eqv_i (Term.int_eval (400)) hn68a))
  have F_wMISSING_PARAMETER_ordinal := Fld.start ((fld_at ev_wMISSING_PARAMETER).symm.trans (eqv_i (Term.int_eval (4)) hn69a))
  have F_wMISSING_PARAMETER_httpStatus := Fld.start ((fld_at ev_wMISSING_PARAMETER).symm.trans (eqv_i (Term.int_eval (400)) hn70a))
  have F_wINCOMPLETE_SIGNATURE_ordinal := Fld.start ((fld_at ev_wINCOMPLETE_SIGNATURE).symm.trans (eqv_i (Term.int_eval (22)) hn71a))
  have F_wINCOMPLETE_SIGNATURE_httpStatus := Fld.start ((fld_at ev_wINCOMPLETE_SIGNATURE).symm.trans (eqv_i (Term.int_eval (400)) hn72a))
  have F_wBATCH_REQUEST_TOO_LONG_ordinal := Fld.start ((fld_at ev_wBATCH_REQUEST_TOO_LONG).symm.trans (eqv_i (Term.int_eval (17)) hn73a))
  have F_wBATCH_REQUEST_TOO_LONG_httpStatus := Fld.start ((fld_at ev_wBATCH_REQUEST_TOO_LONG).symm.trans (eqv_i (Term.int_eval (400)) hn74a))
  have F_wTOO_MANY_ENTRIES_IN_BATCH_REQUEST_ordinal := Fld.start ((fld_at ev_wTOO_MANY_ENTRIES_IN_BATCH_REQUEST).symm.trans (eqv_i (Term.int_eval (14)) hn75a))
  have F_wTOO_MANY_ENTRIES_IN_BATCH_REQUEST_httpStatus := Fld.start ((fld_at ev_wTOO_MANY_ENTRIES_IN_BATCH_REQUEST).symm.trans (eqv_i (Term.int_eval (400)) hn76a))
  have F_wINVALID_PARAMETER_VALUE_ordinal := Fld.start ((fld_at ev_wINVALID_PARAMETER_VALUE).symm.trans (eqv_i (Term.int_eval (5)) hn77a))
  have F_wINVALID_PARAMETER_VALUE_httpStatus := Fld.start ((fld_at ev_wINVALID_PARAMETER_VALUE).symm.trans (eqv_i (Term.int_eval (400)) hn78a))
  have F_wMESSAGE_NOT_INFLIGHT_ordinal := Fld.start ((fld_at ev_wMESSAGE_NOT_INFLIGHT).symm.trans (eqv_i (Term.int_eval (12)) hn79a))
  have F_wMESSAGE_NOT_INFLIGHT_httpStatus := Fld.start ((fld_at ev_wMESSAGE_NOT_INFLIGHT).symm.trans (eqv_i (Term.int_eval (400)) hn80a))
  have F_wSIGNATURE_DOES_NOT_MATCH_ordinal := Fld.start ((fld_at ev_wSIGNATURE_DOES_NOT_MATCH).symm.trans (eqv_i (Term.int_eval (25)) hn81a))
  have F_wSIGNATURE_DOES_NOT_MATCH_httpStatus := Fld.start ((fld_at ev_wSIGNATURE_DOES_NOT_MATCH).symm.trans (eqv_i (Term.int_eval (403)) hn82a))
  have F_wMISSING_AUTHENTICATION_TOKEN_ordinal := Fld.start ((fld_at ev_wMISSING_AUTHENTICATION_TOKEN).symm.trans (eqv_i (Term.int_eval (21)) hn83a))
  have F_wMISSING_AUTHENTICATION_TOKEN_httpStatus := Fld.start ((fld_at ev_wMISSING_AUTHENTICATION_TOKEN).symm.trans (eqv_i (Term.int_eval (403)) hn83b))
  have h_own_EN1 : own_EN1 s wMISSING_ACTION := ⟨S_wMISSING_ACTION, E_wMISSING_ACTION, F_wMISSING_ACTION_ordinal, F_wMISSING_ACTION_httpStatus⟩
  have h_own_EN2 : own_EN2 s wINVALID_ACTION := ⟨S_wINVALID_ACTION, E_wINVALID_ACTION, F_wINVALID_ACTION_ordinal, F_wINVALID_ACTION_httpStatus⟩
  have h_own_EN3 : own_EN3 s wMALFORMED_QUERY_STRING := ⟨S_wMALFORMED_QUERY_STRING, E_wMALFORMED_QUERY_STRING, F_wMALFORMED_QUERY_STRING_ordinal, F_wMALFORMED_QUERY_STRING_httpStatus⟩
  have h_own_EN4 : own_EN4 s wINVALID_ADDRESS := ⟨S_wINVALID_ADDRESS, E_wINVALID_ADDRESS, F_wINVALID_ADDRESS_ordinal, F_wINVALID_ADDRESS_httpStatus⟩
  have h_own_EN5 : own_EN5 s wMISSING_PARAMETER := ⟨S_wMISSING_PARAMETER, E_wMISSING_PARAMETER, F_wMISSING_PARAMETER_ordinal, F_wMISSING_PARAMETER_httpStatus⟩
  have h_own_EN6 : own_EN6 s wINVALID_PARAMETER_VALUE := ⟨S_wINVALID_PARAMETER_VALUE, E_wINVALID_PARAMETER_VALUE, F_wINVALID_PARAMETER_VALUE_ordinal, F_wINVALID_PARAMETER_VALUE_httpStatus⟩
  have h_own_EN7 : own_EN7 s wINVALID_ATTRIBUTE_VALUE := ⟨S_wINVALID_ATTRIBUTE_VALUE, E_wINVALID_ATTRIBUTE_VALUE, F_wINVALID_ATTRIBUTE_VALUE_ordinal, F_wINVALID_ATTRIBUTE_VALUE_httpStatus⟩
  have h_own_EN8 : own_EN8 s wINVALID_ATTRIBUTE_NAME := ⟨S_wINVALID_ATTRIBUTE_NAME, E_wINVALID_ATTRIBUTE_NAME, F_wINVALID_ATTRIBUTE_NAME_ordinal, F_wINVALID_ATTRIBUTE_NAME_httpStatus⟩
  have h_own_EN9 : own_EN9 s wQUEUE_ALREADY_EXISTS := ⟨S_wQUEUE_ALREADY_EXISTS, E_wQUEUE_ALREADY_EXISTS, F_wQUEUE_ALREADY_EXISTS_ordinal, F_wQUEUE_ALREADY_EXISTS_httpStatus⟩
  have h_own_EN10 : own_EN10 s wINVALID_MESSAGE_CONTENTS := ⟨S_wINVALID_MESSAGE_CONTENTS, E_wINVALID_MESSAGE_CONTENTS, F_wINVALID_MESSAGE_CONTENTS_ordinal, F_wINVALID_MESSAGE_CONTENTS_httpStatus⟩
  have h_own_EN11 : own_EN11 s wNON_EXISTENT_QUEUE := ⟨S_wNON_EXISTENT_QUEUE, E_wNON_EXISTENT_QUEUE, F_wNON_EXISTENT_QUEUE_ordinal, F_wNON_EXISTENT_QUEUE_httpStatus⟩
  have h_own_EN12 : own_EN12 s wRECEIPT_HANDLE_IS_INVALID := ⟨S_wRECEIPT_HANDLE_IS_INVALID, E_wRECEIPT_HANDLE_IS_INVALID, F_wRECEIPT_HANDLE_IS_INVALID_ordinal, F_wRECEIPT_HANDLE_IS_INVALID_httpStatus⟩
  have h_own_EN13 : own_EN13 s wMESSAGE_NOT_INFLIGHT := ⟨S_wMESSAGE_NOT_INFLIGHT, E_wMESSAGE_NOT_INFLIGHT, F_wMESSAGE_NOT_INFLIGHT_ordinal, F_wMESSAGE_NOT_INFLIGHT_httpStatus⟩
  have h_own_EN14 : own_EN14 s wEMPTY_BATCH_REQUEST := ⟨S_wEMPTY_BATCH_REQUEST, E_wEMPTY_BATCH_REQUEST, F_wEMPTY_BATCH_REQUEST_ordinal, F_wEMPTY_BATCH_REQUEST_httpStatus⟩
  have h_own_EN15 : own_EN15 s wTOO_MANY_ENTRIES_IN_BATCH_REQUEST := ⟨S_wTOO_MANY_ENTRIES_IN_BATCH_REQUEST, E_wTOO_MANY_ENTRIES_IN_BATCH_REQUEST, F_wTOO_MANY_ENTRIES_IN_BATCH_REQUEST_ordinal, F_wTOO_MANY_ENTRIES_IN_BATCH_REQUEST_httpStatus⟩
  have h_own_EN16 : own_EN16 s wBATCH_ENTRY_IDS_NOT_DISTINCT := ⟨S_wBATCH_ENTRY_IDS_NOT_DISTINCT, E_wBATCH_ENTRY_IDS_NOT_DISTINCT, F_wBATCH_ENTRY_IDS_NOT_DISTINCT_ordinal, F_wBATCH_ENTRY_IDS_NOT_DISTINCT_httpStatus⟩
  have h_own_EN17 : own_EN17 s wINVALID_BATCH_ENTRY_ID := ⟨S_wINVALID_BATCH_ENTRY_ID, E_wINVALID_BATCH_ENTRY_ID, F_wINVALID_BATCH_ENTRY_ID_ordinal, F_wINVALID_BATCH_ENTRY_ID_httpStatus⟩
  have h_own_EN18 : own_EN18 s wBATCH_REQUEST_TOO_LONG := ⟨S_wBATCH_REQUEST_TOO_LONG, E_wBATCH_REQUEST_TOO_LONG, F_wBATCH_REQUEST_TOO_LONG_ordinal, F_wBATCH_REQUEST_TOO_LONG_httpStatus⟩
  have h_own_EN19 : own_EN19 s wOVER_LIMIT := ⟨S_wOVER_LIMIT, E_wOVER_LIMIT, F_wOVER_LIMIT_ordinal, F_wOVER_LIMIT_httpStatus⟩
  have h_own_EN20 : own_EN20 s wRESOURCE_NOT_FOUND := ⟨S_wRESOURCE_NOT_FOUND, E_wRESOURCE_NOT_FOUND, F_wRESOURCE_NOT_FOUND_ordinal, F_wRESOURCE_NOT_FOUND_httpStatus⟩
  have h_own_EN21 : own_EN21 s wUNSUPPORTED_OPERATION := ⟨S_wUNSUPPORTED_OPERATION, E_wUNSUPPORTED_OPERATION, F_wUNSUPPORTED_OPERATION_ordinal, F_wUNSUPPORTED_OPERATION_httpStatus⟩
  have h_own_EN22 : own_EN22 s wMISSING_AUTHENTICATION_TOKEN := ⟨S_wMISSING_AUTHENTICATION_TOKEN, E_wMISSING_AUTHENTICATION_TOKEN, F_wMISSING_AUTHENTICATION_TOKEN_ordinal, F_wMISSING_AUTHENTICATION_TOKEN_httpStatus⟩
  have h_own_EN23 : own_EN23 s wINCOMPLETE_SIGNATURE := ⟨S_wINCOMPLETE_SIGNATURE, E_wINCOMPLETE_SIGNATURE, F_wINCOMPLETE_SIGNATURE_ordinal, F_wINCOMPLETE_SIGNATURE_httpStatus⟩
  have h_own_EN24 : own_EN24 s wINVALID_CLIENT_TOKEN_ID := ⟨S_wINVALID_CLIENT_TOKEN_ID, E_wINVALID_CLIENT_TOKEN_ID, F_wINVALID_CLIENT_TOKEN_ID_ordinal, F_wINVALID_CLIENT_TOKEN_ID_httpStatus⟩
  have h_own_EN25 : own_EN25 s wREQUEST_EXPIRED := ⟨S_wREQUEST_EXPIRED, E_wREQUEST_EXPIRED, F_wREQUEST_EXPIRED_ordinal, F_wREQUEST_EXPIRED_httpStatus⟩
  have h_own_EN26 : own_EN26 s wSIGNATURE_DOES_NOT_MATCH := ⟨S_wSIGNATURE_DOES_NOT_MATCH, E_wSIGNATURE_DOES_NOT_MATCH, F_wSIGNATURE_DOES_NOT_MATCH_ordinal, F_wSIGNATURE_DOES_NOT_MATCH_httpStatus⟩
  have h_own_EN27 : own_EN27 s wSERVICE_UNAVAILABLE := ⟨S_wSERVICE_UNAVAILABLE, E_wSERVICE_UNAVAILABLE, F_wSERVICE_UNAVAILABLE_ordinal, F_wSERVICE_UNAVAILABLE_httpStatus⟩
  have h_own_EN28 : own_EN28 s wINTERNAL_FAILURE := ⟨S_wINTERNAL_FAILURE, E_wINTERNAL_FAILURE, F_wINTERNAL_FAILURE_ordinal, F_wINTERNAL_FAILURE_httpStatus⟩
  have EN : own_EN s wMISSING_ACTION wINVALID_ACTION wMALFORMED_QUERY_STRING wINVALID_ADDRESS wMISSING_PARAMETER wINVALID_PARAMETER_VALUE wINVALID_ATTRIBUTE_VALUE wINVALID_ATTRIBUTE_NAME wQUEUE_ALREADY_EXISTS wINVALID_MESSAGE_CONTENTS wNON_EXISTENT_QUEUE wRECEIPT_HANDLE_IS_INVALID wMESSAGE_NOT_INFLIGHT wEMPTY_BATCH_REQUEST wTOO_MANY_ENTRIES_IN_BATCH_REQUEST wBATCH_ENTRY_IDS_NOT_DISTINCT wINVALID_BATCH_ENTRY_ID wBATCH_REQUEST_TOO_LONG wOVER_LIMIT wRESOURCE_NOT_FOUND wUNSUPPORTED_OPERATION wMISSING_AUTHENTICATION_TOKEN wINCOMPLETE_SIGNATURE wINVALID_CLIENT_TOKEN_ID wREQUEST_EXPIRED wSIGNATURE_DOES_NOT_MATCH wSERVICE_UNAVAILABLE wINTERNAL_FAILURE := ⟨h_own_EN1, h_own_EN2, h_own_EN3, h_own_EN4, h_own_EN5, h_own_EN6, h_own_EN7, h_own_EN8, h_own_EN9, h_own_EN10, h_own_EN11, h_own_EN12, h_own_EN13, h_own_EN14, h_own_EN15, h_own_EN16, h_own_EN17, h_own_EN18, h_own_EN19, h_own_EN20, h_own_EN21, h_own_EN22, h_own_EN23, h_own_EN24, h_own_EN25, h_own_EN26, h_own_EN27, h_own_EN28⟩
  obtain ⟨n, o, h1, h2, h3, _, L, rfl, ⟨rfl, N⟩, hq⟩ := own_rm0 l s _ hw tables_1 i0 wMISSING_ACTION wINVALID_ACTION wMALFORMED_QUERY_STRING wINVALID_ADDRESS wMISSING_PARAMETER wINVALID_PARAMETER_VALUE wINVALID_ATTRIBUTE_VALUE wINVALID_ATTRIBUTE_NAME wQUEUE_ALREADY_EXISTS wINVALID_MESSAGE_CONTENTS wNON_EXISTENT_QUEUE wRECEIPT_HANDLE_IS_INVALID wMESSAGE_NOT_INFLIGHT wEMPTY_BATCH_REQUEST wTOO_MANY_ENTRIES_IN_BATCH_REQUEST wBATCH_ENTRY_IDS_NOT_DISTINCT wINVALID_BATCH_ENTRY_ID wBATCH_REQUEST_TOO_LONG wOVER_LIMIT wRESOURCE_NOT_FOUND wUNSUPPORTED_OPERATION wMISSING_AUTHENTICATION_TOKEN wINCOMPLETE_SIGNATURE wINVALID_CLIENT_TOKEN_ID wREQUEST_EXPIRED wSIGNATURE_DOES_NOT_MATCH wSERVICE_UNAVAILABLE wINTERNAL_FAILURE s.heap s.heap.size (Nat.le_refl _) (Old.start s) EN p e ha hc hk s m _ below hf ((Spec.applies_iff_loose hf).mp happ).1 ⟨rfl, State.Warmed39.refl s, rfl⟩ trivial
  refine ⟨n, _, h1, h2, h3, hpost _ _ _ _ _ _ ⟨Cond.after_iff.mpr rfl, Cond.after_iff.mpr (eq_i res_at (Term.int_eval (1)) (congrArg Value.int (rfl))), trivial⟩ ⟨hq.1, hq.2.1, (hq.2.2.sift fun y hy => Or.inr (N y hy)).mono (by decide) (by decide)⟩⟩
theorem main_1_1 : Claimed_1_1 := own_comes fun _ _ _ _ _ _ h hF => ⟨h.1, hF⟩
theorem main_1_2 : Claimed_1_2 := own_comes fun _ _ _ _ _ _ h hF => ⟨h.2.1, hF⟩
end Jvm.Pilot.@@N@@
namespace Jvm.Pilot.@@N@@
open Jvm Jvm.ClassFile Sem Op Lib Jvm.Free Jvm.Stand Jvm.Pilot.@@N@@.Jvm.D
/-! MADE BY PROGRAM (witnessworld.py) out of the Statement's table words and the real class files: 13 classes; the members and pool entries that the words name. The judged class is class 1, her method 1. -/
namespace start1
open Jvm.ClassFile
def u (s : String) : CpInfo := .utf8 (stringToUtf16 s)
/-- a pool by its gaps: so many unusable entries, then the entry; so many at the end -/
def gap : Nat → List CpInfo → List CpInfo
  | 0, r => r
  | n + 1, r => .unusable :: gap n r
def poolList (es : List (Nat × CpInfo)) (last : Nat) : List CpInfo := es.foldr (fun e r => gap e.1 (e.2 :: r)) (gap last [])
def pool (es : List (Nat × CpInfo)) (last : Nat) : Array CpInfo := ⟨poolList es last⟩
def fileOf (pool : Array CpInfo) (this : Nat) (attrs : Array Attribute := #[]) (ms : Array MethodInfo := #[]) (fl : Nat := 33) (sup : Nat := 0) (ifs : Array Nat := #[]) (fds : Array FieldInfo := #[]) : ClassFile where
  minorVersion := 0
  majorVersion := 65
  constantPool := pool
  accessFlags := fl
  thisClass := this
  superClass := sup
  interfaces := ifs
  fields := fds
  methods := ms
  attributes := attrs
def plain (name : String) (sup : Option ClassId) : Class where
  name := name
  kind := .ordinary
  loader := none
  accessFlags := 33
  super := sup
  interfaces := #[]
  cf := none
  fields := #[]
  methods := #[]
  instanceTypes := #[]
  staticTypes := #[]
  resolved := #[]
  callSites := []
  init := .initialized
  statics := none
  mirror := none

def pool0 : Array CpInfo := pool [(5, u "<init>"), (0, u "()V"), (1, .class_ 10), (1, u "java/lang/Object")] 113

def k0m0 : Method := { name := "<init>", desc := "()V", sig := { parameters := [], returnType := none }, accessFlags := 1, code := none }
/-- java/lang/Object -/
def k0 : Class := { plain "java/lang/Object" none with
  accessFlags := 33
  interfaces := #[]
  cf := some (fileOf pool0 8 #[] #[{ accessFlags := 1, nameIndex := 5, descriptorIndex := 6, attributes := #[] }] 33 0 #[] #[])
  fields := #[]
  methods := #[k0m0]
  instanceTypes := #[]
  staticTypes := #[]
  resolved := Array.replicate 124 none
  statics := none }

def pool1 : Array CpInfo := pool [(2, .class_ 4), (1, u "java/lang/Object"), (0, u "<init>"), (0, u "()V"), (0, .class_ 8), (0, u "com/example/buzon/buzon/engine/ApiError"), (0, .fieldref 7 10), (0, .nameAndType 11 12), (0, u "MISSING_ACTION"), (0, u "Lcom/example/buzon/buzon/engine/ApiError;"), (0, .fieldref 7 14), (0, .nameAndType 15 12), (0, u "INVALID_ACTION"), (0, .fieldref 7 17), (0, .nameAndType 18 12), (0, u "MALFORMED_QUERY_STRING"), (0, .fieldref 7 20), (0, .nameAndType 21 12), (0, u "INVALID_ADDRESS"), (0, .fieldref 7 23), (0, .nameAndType 24 12), (0, u "MISSING_PARAMETER"), (0, .fieldref 7 26), (0, .nameAndType 27 12), (0, u "INVALID_PARAMETER_VALUE"), (0, .fieldref 7 29), (0, .nameAndType 30 12), (0, u "INVALID_ATTRIBUTE_VALUE"), (0, .fieldref 7 32), (0, .nameAndType 33 12), (0, u "INVALID_ATTRIBUTE_NAME"), (0, .fieldref 7 35), (0, .nameAndType 36 12), (0, u "QUEUE_ALREADY_EXISTS"), (0, .fieldref 7 38), (0, .nameAndType 39 12), (0, u "INVALID_MESSAGE_CONTENTS"), (0, .fieldref 7 41), (0, .nameAndType 42 12), (0, u "NON_EXISTENT_QUEUE"), (0, .fieldref 7 44), (0, .nameAndType 45 12), (0, u "RECEIPT_HANDLE_IS_INVALID"), (0, .fieldref 7 47), (0, .nameAndType 48 12), (0, u "MESSAGE_NOT_INFLIGHT"), (0, .fieldref 7 50), (0, .nameAndType 51 12), (0, u "EMPTY_BATCH_REQUEST"), (0, .fieldref 7 53), (0, .nameAndType 54 12), (0, u "TOO_MANY_ENTRIES_IN_BATCH_REQUEST"), (0, .fieldref 7 56), (0, .nameAndType 57 12), (0, u "BATCH_ENTRY_IDS_NOT_DISTINCT"), (0, .fieldref 7 59), (0, .nameAndType 60 12), (0, u "INVALID_BATCH_ENTRY_ID"), (0, .fieldref 7 62), (0, .nameAndType 63 12), (0, u "BATCH_REQUEST_TOO_LONG"), (0, .fieldref 7 65), (0, .nameAndType 66 12), (0, u "OVER_LIMIT"), (0, .fieldref 7 68), (0, .nameAndType 69 12), (0, u "RESOURCE_NOT_FOUND"), (0, .fieldref 7 71), (0, .nameAndType 72 12), (0, u "UNSUPPORTED_OPERATION"), (0, .fieldref 7 74), (0, .nameAndType 75 12), (0, u "MISSING_AUTHENTICATION_TOKEN"), (0, .fieldref 7 77), (0, .nameAndType 78 12), (0, u "INCOMPLETE_SIGNATURE"), (0, .fieldref 7 80), (0, .nameAndType 81 12), (0, u "INVALID_CLIENT_TOKEN_ID"), (0, .fieldref 7 83), (0, .nameAndType 84 12), (0, u "REQUEST_EXPIRED"), (0, .fieldref 7 86), (0, .nameAndType 87 12), (0, u "SIGNATURE_DOES_NOT_MATCH"), (0, .fieldref 7 89), (0, .nameAndType 90 12), (0, u "SERVICE_UNAVAILABLE"), (0, .fieldref 7 92), (0, .nameAndType 93 12), (0, u "INTERNAL_FAILURE"), (0, .integer 2147483647), (0, .methodref 7 96), (0, .nameAndType 97 98), (0, u "senderFault"), (0, u "()Z"), (0, .methodref 7 100), (0, .nameAndType 101 102), (0, u "httpStatus"), (0, u "()I"), (0, .class_ 104), (0, u "com/example/buzon/buzon/engine/ApiErrorSenderFaultPinLaw"), (2, u "law"), (0, u "(I)Z")] 5

def k1m0 : Method := { name := "<init>", desc := "()V", sig := { parameters := [], returnType := none }, accessFlags := 1, code := none }
def k1c1 : Code := { maxStack := 4, maxLocals := 7, code := code, exceptionTable := #[], attributes := #[] }
def k1m1 : Method := { name := "law", desc := "(I)Z", sig := { parameters := [.int], returnType := some .boolean }, accessFlags := 9, code := some k1c1 }
/-- com/example/buzon/buzon/engine/ApiErrorSenderFaultPinLaw -/
def k1 : Class := { plain "com/example/buzon/buzon/engine/ApiErrorSenderFaultPinLaw" (some 0) with
  accessFlags := 49
  interfaces := #[]
  cf := some (fileOf pool1 103 #[] #[{ accessFlags := 1, nameIndex := 5, descriptorIndex := 6, attributes := #[] }, { accessFlags := 9, nameIndex := 107, descriptorIndex := 108, attributes := #[] }] 49 2 #[] #[])
  fields := #[]
  methods := #[k1m0, k1m1]
  instanceTypes := #[]
  staticTypes := #[]
  resolved := Array.replicate 114 none
  statics := none }

def pool2 : Array CpInfo := pool [(1, .class_ 2), (0, u "java/lang/constant/Constable"), (0, .class_ 4), (0, u "java/lang/Object")] 6

/-- java/lang/constant/Constable -/
def k2 : Class := { plain "java/lang/constant/Constable" (some 0) with
  accessFlags := 1537
  interfaces := #[]
  cf := some (fileOf pool2 1 #[] #[] 1537 3 #[] #[])
  fields := #[]
  methods := #[]
  instanceTypes := #[]
  staticTypes := #[]
  resolved := Array.replicate 11 none
  statics := none }

def pool3 : Array CpInfo := pool [(1, .class_ 2), (0, u "java/lang/Comparable"), (0, .class_ 4), (0, u "java/lang/Object")] 7

/-- java/lang/Comparable -/
def k3 : Class := { plain "java/lang/Comparable" (some 0) with
  accessFlags := 1537
  interfaces := #[]
  cf := some (fileOf pool3 1 #[] #[] 1537 3 #[] #[])
  fields := #[]
  methods := #[]
  instanceTypes := #[]
  staticTypes := #[]
  resolved := Array.replicate 12 none
  statics := none }

def pool4 : Array CpInfo := pool [(1, .class_ 2), (0, u "java/io/Serializable"), (0, .class_ 4), (0, u "java/lang/Object")] 2

/-- java/io/Serializable -/
def k4 : Class := { plain "java/io/Serializable" (some 0) with
  accessFlags := 1537
  interfaces := #[]
  cf := some (fileOf pool4 1 #[] #[] 1537 3 #[] #[])
  fields := #[]
  methods := #[]
  instanceTypes := #[]
  staticTypes := #[]
  resolved := Array.replicate 7 none
  statics := none }

def pool5 : Array CpInfo := pool [(2, .class_ 4), (1, u "java/lang/Enum"), (0, u "name"), (0, u "Ljava/lang/String;"), (2, u "ordinal"), (0, u "I"), (1, .class_ 14), (1, u "java/lang/Object"), (4, u "hash"), (86, .class_ 108), (1, u "java/lang/Enum$EnumDesc"), (2, .class_ 112), (0, u "java/lang/constant/Constable"), (0, .class_ 114), (0, u "java/lang/Comparable"), (0, .class_ 116), (0, u "java/io/Serializable")] 87

/-- java/lang/Enum -/
def k5 : Class := { plain "java/lang/Enum" (some 0) with
  accessFlags := 1057
  interfaces := #[2, 3, 4]
  cf := some (fileOf pool5 2 #[.nestMembers #[106]] #[] 1057 12 #[111, 113, 115] #[{ accessFlags := 18, nameIndex := 5, descriptorIndex := 6, attributes := #[] }, { accessFlags := 18, nameIndex := 9, descriptorIndex := 10, attributes := #[] }, { accessFlags := 2, nameIndex := 19, descriptorIndex := 10, attributes := #[] }])
  fields := #[{ name := "name", type := (.object "java/lang/String"), accessFlags := 18, slot := 0, constantValue := 0 }, { name := "ordinal", type := .int, accessFlags := 18, slot := 1, constantValue := 0 }, { name := "hash", type := .int, accessFlags := 2, slot := 2, constantValue := 0 }]
  methods := #[]
  instanceTypes := #[(.object "java/lang/String"), .int, .int]
  staticTypes := #[]
  resolved := Array.replicate 204 none
  statics := none }

def pool6 : Array CpInfo := pool [(1, .class_ 2), (0, u "com/example/buzon/buzon/engine/ApiError"), (2, u "MISSING_ACTION"), (0, u "Lcom/example/buzon/buzon/engine/ApiError;"), (2, u "INVALID_ACTION"), (2, u "MALFORMED_QUERY_STRING"), (2, u "INVALID_ADDRESS"), (2, u "MISSING_PARAMETER"), (2, u "INVALID_PARAMETER_VALUE"), (2, u "INVALID_ATTRIBUTE_VALUE"), (2, u "INVALID_ATTRIBUTE_NAME"), (2, u "QUEUE_ALREADY_EXISTS"), (2, u "INVALID_MESSAGE_CONTENTS"), (2, u "NON_EXISTENT_QUEUE"), (2, u "RECEIPT_HANDLE_IS_INVALID"), (2, u "MESSAGE_NOT_INFLIGHT"), (2, u "EMPTY_BATCH_REQUEST"), (2, u "TOO_MANY_ENTRIES_IN_BATCH_REQUEST"), (2, u "BATCH_ENTRY_IDS_NOT_DISTINCT"), (2, u "INVALID_BATCH_ENTRY_ID"), (2, u "BATCH_REQUEST_TOO_LONG"), (2, u "OVER_LIMIT"), (2, u "RESOURCE_NOT_FOUND"), (2, u "UNSUPPORTED_OPERATION"), (2, u "MISSING_AUTHENTICATION_TOKEN"), (2, u "INCOMPLETE_SIGNATURE"), (2, u "INVALID_CLIENT_TOKEN_ID"), (2, u "REQUEST_EXPIRED"), (2, u "SIGNATURE_DOES_NOT_MATCH"), (2, u "SERVICE_UNAVAILABLE"), (2, u "INTERNAL_FAILURE"), (2, u "$VALUES"), (0, u "[Lcom/example/buzon/buzon/engine/ApiError;"), (6, .class_ 100), (1, u "java/lang/Enum"), (8, u "code"), (0, u "Ljava/lang/String;"), (2, u "shapeName"), (0, .fieldref 1 115), (0, .nameAndType 116 117), (0, u "httpStatus"), (0, u "I"), (2, u "senderFault"), (0, u "()Z"), (121, u "()I")] 9

def k6c0 : Code := { maxStack := 1, maxLocals := 1, code := prog_1_method_6_code, exceptionTable := #[], attributes := #[] }
def k6m0 : Method := { name := "httpStatus", desc := "()I", sig := { parameters := [], returnType := some .int }, accessFlags := 1, code := some k6c0 }
def k6c1 : Code := { maxStack := 2, maxLocals := 1, code := prog_1_method_7_code, exceptionTable := #[], attributes := #[] }
def k6m1 : Method := { name := "senderFault", desc := "()Z", sig := { parameters := [], returnType := some .boolean }, accessFlags := 1, code := some k6c1 }
/-- com/example/buzon/buzon/engine/ApiError -/
def k6 : Class := { plain "com/example/buzon/buzon/engine/ApiError" (some 5) with
  accessFlags := 16433
  interfaces := #[]
  cf := some (fileOf pool6 1 #[] #[{ accessFlags := 1, nameIndex := 116, descriptorIndex := 243, attributes := #[] }, { accessFlags := 1, nameIndex := 120, descriptorIndex := 121, attributes := #[] }] 16433 98 #[] #[{ accessFlags := 16409, nameIndex := 5, descriptorIndex := 6, attributes := #[] }, { accessFlags := 16409, nameIndex := 9, descriptorIndex := 6, attributes := #[] }, { accessFlags := 16409, nameIndex := 12, descriptorIndex := 6, attributes := #[] }, { accessFlags := 16409, nameIndex := 15, descriptorIndex := 6, attributes := #[] }, { accessFlags := 16409, nameIndex := 18, descriptorIndex := 6, attributes := #[] }, { accessFlags := 16409, nameIndex := 21, descriptorIndex := 6, attributes := #[] }, { accessFlags := 16409, nameIndex := 24, descriptorIndex := 6, attributes := #[] }, { accessFlags := 16409, nameIndex := 27, descriptorIndex := 6, attributes := #[] }, { accessFlags := 16409, nameIndex := 30, descriptorIndex := 6, attributes := #[] }, { accessFlags := 16409, nameIndex := 33, descriptorIndex := 6, attributes := #[] }, { accessFlags := 16409, nameIndex := 36, descriptorIndex := 6, attributes := #[] }, { accessFlags := 16409, nameIndex := 39, descriptorIndex := 6, attributes := #[] }, { accessFlags := 16409, nameIndex := 42, descriptorIndex := 6, attributes := #[] }, { accessFlags := 16409, nameIndex := 45, descriptorIndex := 6, attributes := #[] }, { accessFlags := 16409, nameIndex := 48, descriptorIndex := 6, attributes := #[] }, { accessFlags := 16409, nameIndex := 51, descriptorIndex := 6, attributes := #[] }, { accessFlags := 16409, nameIndex := 54, descriptorIndex := 6, attributes := #[] }, { accessFlags := 16409, nameIndex := 57, descriptorIndex := 6, attributes := #[] }, { accessFlags := 16409, nameIndex := 60, descriptorIndex := 6, attributes := #[] }, { accessFlags := 16409, nameIndex := 63, descriptorIndex := 6, attributes := #[] }, { accessFlags := 16409, nameIndex := 66, descriptorIndex := 6, attributes := #[] }, { accessFlags := 16409, nameIndex := 69, descriptorIndex := 6, attributes := #[] }, { accessFlags := 16409, nameIndex := 72, descriptorIndex := 6, attributes := #[] }, { accessFlags := 16409, nameIndex := 75, descriptorIndex := 6, attributes := #[] }, { accessFlags := 16409, nameIndex := 78, descriptorIndex := 6, attributes := #[] }, { accessFlags := 16409, nameIndex := 81, descriptorIndex := 6, attributes := #[] }, { accessFlags := 16409, nameIndex := 84, descriptorIndex := 6, attributes := #[] }, { accessFlags := 16409, nameIndex := 87, descriptorIndex := 6, attributes := #[] }, { accessFlags := 18, nameIndex := 109, descriptorIndex := 110, attributes := #[] }, { accessFlags := 18, nameIndex := 113, descriptorIndex := 110, attributes := #[] }, { accessFlags := 18, nameIndex := 116, descriptorIndex := 117, attributes := #[] }, { accessFlags := 4122, nameIndex := 90, descriptorIndex := 91, attributes := #[] }])
  fields := #[{ name := "MISSING_ACTION", type := (.object "com/example/buzon/buzon/engine/ApiError"), accessFlags := 16409, slot := 0, constantValue := 0 }, { name := "INVALID_ACTION", type := (.object "com/example/buzon/buzon/engine/ApiError"), accessFlags := 16409, slot := 1, constantValue := 0 }, { name := "MALFORMED_QUERY_STRING", type := (.object "com/example/buzon/buzon/engine/ApiError"), accessFlags := 16409, slot := 2, constantValue := 0 }, { name := "INVALID_ADDRESS", type := (.object "com/example/buzon/buzon/engine/ApiError"), accessFlags := 16409, slot := 3, constantValue := 0 }, { name := "MISSING_PARAMETER", type := (.object "com/example/buzon/buzon/engine/ApiError"), accessFlags := 16409, slot := 4, constantValue := 0 }, { name := "INVALID_PARAMETER_VALUE", type := (.object "com/example/buzon/buzon/engine/ApiError"), accessFlags := 16409, slot := 5, constantValue := 0 }, { name := "INVALID_ATTRIBUTE_VALUE", type := (.object "com/example/buzon/buzon/engine/ApiError"), accessFlags := 16409, slot := 6, constantValue := 0 }, { name := "INVALID_ATTRIBUTE_NAME", type := (.object "com/example/buzon/buzon/engine/ApiError"), accessFlags := 16409, slot := 7, constantValue := 0 }, { name := "QUEUE_ALREADY_EXISTS", type := (.object "com/example/buzon/buzon/engine/ApiError"), accessFlags := 16409, slot := 8, constantValue := 0 }, { name := "INVALID_MESSAGE_CONTENTS", type := (.object "com/example/buzon/buzon/engine/ApiError"), accessFlags := 16409, slot := 9, constantValue := 0 }, { name := "NON_EXISTENT_QUEUE", type := (.object "com/example/buzon/buzon/engine/ApiError"), accessFlags := 16409, slot := 10, constantValue := 0 }, { name := "RECEIPT_HANDLE_IS_INVALID", type := (.object "com/example/buzon/buzon/engine/ApiError"), accessFlags := 16409, slot := 11, constantValue := 0 }, { name := "MESSAGE_NOT_INFLIGHT", type := (.object "com/example/buzon/buzon/engine/ApiError"), accessFlags := 16409, slot := 12, constantValue := 0 }, { name := "EMPTY_BATCH_REQUEST", type := (.object "com/example/buzon/buzon/engine/ApiError"), accessFlags := 16409, slot := 13, constantValue := 0 }, { name := "TOO_MANY_ENTRIES_IN_BATCH_REQUEST", type := (.object "com/example/buzon/buzon/engine/ApiError"), accessFlags := 16409, slot := 14, constantValue := 0 }, { name := "BATCH_ENTRY_IDS_NOT_DISTINCT", type := (.object "com/example/buzon/buzon/engine/ApiError"), accessFlags := 16409, slot := 15, constantValue := 0 }, { name := "INVALID_BATCH_ENTRY_ID", type := (.object "com/example/buzon/buzon/engine/ApiError"), accessFlags := 16409, slot := 16, constantValue := 0 }, { name := "BATCH_REQUEST_TOO_LONG", type := (.object "com/example/buzon/buzon/engine/ApiError"), accessFlags := 16409, slot := 17, constantValue := 0 }, { name := "OVER_LIMIT", type := (.object "com/example/buzon/buzon/engine/ApiError"), accessFlags := 16409, slot := 18, constantValue := 0 }, { name := "RESOURCE_NOT_FOUND", type := (.object "com/example/buzon/buzon/engine/ApiError"), accessFlags := 16409, slot := 19, constantValue := 0 }, { name := "UNSUPPORTED_OPERATION", type := (.object "com/example/buzon/buzon/engine/ApiError"), accessFlags := 16409, slot := 20, constantValue := 0 }, { name := "MISSING_AUTHENTICATION_TOKEN", type := (.object "com/example/buzon/buzon/engine/ApiError"), accessFlags := 16409, slot := 21, constantValue := 0 }, { name := "INCOMPLETE_SIGNATURE", type := (.object "com/example/buzon/buzon/engine/ApiError"), accessFlags := 16409, slot := 22, constantValue := 0 }, { name := "INVALID_CLIENT_TOKEN_ID", type := (.object "com/example/buzon/buzon/engine/ApiError"), accessFlags := 16409, slot := 23, constantValue := 0 }, { name := "REQUEST_EXPIRED", type := (.object "com/example/buzon/buzon/engine/ApiError"), accessFlags := 16409, slot := 24, constantValue := 0 }, { name := "SIGNATURE_DOES_NOT_MATCH", type := (.object "com/example/buzon/buzon/engine/ApiError"), accessFlags := 16409, slot := 25, constantValue := 0 }, { name := "SERVICE_UNAVAILABLE", type := (.object "com/example/buzon/buzon/engine/ApiError"), accessFlags := 16409, slot := 26, constantValue := 0 }, { name := "INTERNAL_FAILURE", type := (.object "com/example/buzon/buzon/engine/ApiError"), accessFlags := 16409, slot := 27, constantValue := 0 }, { name := "code", type := (.object "java/lang/String"), accessFlags := 18, slot := 3, constantValue := 0 }, { name := "shapeName", type := (.object "java/lang/String"), accessFlags := 18, slot := 4, constantValue := 0 }, { name := "httpStatus", type := .int, accessFlags := 18, slot := 5, constantValue := 0 }, { name := "$VALUES", type := (.array (.object "com/example/buzon/buzon/engine/ApiError")), accessFlags := 4122, slot := 28, constantValue := 0 }]
  methods := #[k6m0, k6m1]
  instanceTypes := #[(.object "java/lang/String"), .int, .int, (.object "java/lang/String"), (.object "java/lang/String"), .int]
  staticTypes := #[(.object "com/example/buzon/buzon/engine/ApiError"), (.object "com/example/buzon/buzon/engine/ApiError"), (.object "com/example/buzon/buzon/engine/ApiError"), (.object "com/example/buzon/buzon/engine/ApiError"), (.object "com/example/buzon/buzon/engine/ApiError"), (.object "com/example/buzon/buzon/engine/ApiError"), (.object "com/example/buzon/buzon/engine/ApiError"), (.object "com/example/buzon/buzon/engine/ApiError"), (.object "com/example/buzon/buzon/engine/ApiError"), (.object "com/example/buzon/buzon/engine/ApiError"), (.object "com/example/buzon/buzon/engine/ApiError"), (.object "com/example/buzon/buzon/engine/ApiError"), (.object "com/example/buzon/buzon/engine/ApiError"), (.object "com/example/buzon/buzon/engine/ApiError"), (.object "com/example/buzon/buzon/engine/ApiError"), (.object "com/example/buzon/buzon/engine/ApiError"), (.object "com/example/buzon/buzon/engine/ApiError"), (.object "com/example/buzon/buzon/engine/ApiError"), (.object "com/example/buzon/buzon/engine/ApiError"), (.object "com/example/buzon/buzon/engine/ApiError"), (.object "com/example/buzon/buzon/engine/ApiError"), (.object "com/example/buzon/buzon/engine/ApiError"), (.object "com/example/buzon/buzon/engine/ApiError"), (.object "com/example/buzon/buzon/engine/ApiError"), (.object "com/example/buzon/buzon/engine/ApiError"), (.object "com/example/buzon/buzon/engine/ApiError"), (.object "com/example/buzon/buzon/engine/ApiError"), (.object "com/example/buzon/buzon/engine/ApiError"), (.array (.object "com/example/buzon/buzon/engine/ApiError"))]
  resolved := Array.replicate 253 none
  statics := some 0 }

def pool7 : Array CpInfo := pool [(1, u "java/lang/Cloneable"), (0, .class_ 1), (0, u "java/lang/Object"), (0, .class_ 3)] 3

/-- java/lang/Cloneable -/
def k7 : Class := { plain "java/lang/Cloneable" (some 0) with
  accessFlags := 1537
  interfaces := #[]
  cf := some (fileOf pool7 2 #[] #[] 1537 4 #[] #[])
  fields := #[]
  methods := #[]
  instanceTypes := #[]
  staticTypes := #[]
  resolved := Array.replicate 8 none
  statics := none }

/-- the primitive byte -/
def k8 : Class := { plain "byte" none with kind := .primitive 'B', accessFlags := 0x411 }
/-- [B -/
def k9 : Class := { plain "[B" (some 0) with kind := .array 8 .byte, interfaces := #[7, 4], accessFlags := 1041 }

/-- the primitive int -/
def k10 : Class := { plain "int" none with kind := .primitive 'I', accessFlags := 0x411 }
/-- [I -/
def k11 : Class := { plain "[I" (some 0) with kind := .array 10 .int, interfaces := #[7, 4], accessFlags := 1041 }

/-- [Lcom/example/buzon/buzon/engine/ApiError; -/
def k12 : Class := { plain "[Lcom/example/buzon/buzon/engine/ApiError;" (some 0) with kind := .array 6 (.object "com/example/buzon/buzon/engine/ApiError"), interfaces := #[7, 4], accessFlags := 1041 }

def heap : Heap := #[{ cls := 6, slots := #[.ref 1, .ref 2, .ref 3, .ref 4, .ref 5, .ref 6, .ref 7, .ref 8, .ref 9, .ref 10, .ref 11, .ref 12, .ref 13, .ref 14, .ref 15, .ref 16, .ref 17, .ref 18, .ref 19, .ref 20, .ref 21, .ref 22, .ref 23, .ref 24, .ref 25, .ref 26, .ref 27, .ref 28, .null], vm := .statics 6 },
  { cls := 6, slots := #[.null, .int 0, .int 0, .null, .null, .int 400], vm := .none },
  { cls := 6, slots := #[.null, .int 1, .int 0, .null, .null, .int 400], vm := .none },
  { cls := 6, slots := #[.null, .int 2, .int 0, .null, .null, .int 400], vm := .none },
  { cls := 6, slots := #[.null, .int 3, .int 0, .null, .null, .int 400], vm := .none },
  { cls := 6, slots := #[.null, .int 4, .int 0, .null, .null, .int 400], vm := .none },
  { cls := 6, slots := #[.null, .int 5, .int 0, .null, .null, .int 400], vm := .none },
  { cls := 6, slots := #[.null, .int 6, .int 0, .null, .null, .int 400], vm := .none },
  { cls := 6, slots := #[.null, .int 7, .int 0, .null, .null, .int 400], vm := .none },
  { cls := 6, slots := #[.null, .int 8, .int 0, .null, .null, .int 400], vm := .none },
  { cls := 6, slots := #[.null, .int 9, .int 0, .null, .null, .int 400], vm := .none },
  { cls := 6, slots := #[.null, .int 10, .int 0, .null, .null, .int 400], vm := .none },
  { cls := 6, slots := #[.null, .int 11, .int 0, .null, .null, .int 400], vm := .none },
  { cls := 6, slots := #[.null, .int 12, .int 0, .null, .null, .int 400], vm := .none },
  { cls := 6, slots := #[.null, .int 13, .int 0, .null, .null, .int 400], vm := .none },
  { cls := 6, slots := #[.null, .int 14, .int 0, .null, .null, .int 400], vm := .none },
  { cls := 6, slots := #[.null, .int 15, .int 0, .null, .null, .int 400], vm := .none },
  { cls := 6, slots := #[.null, .int 16, .int 0, .null, .null, .int 400], vm := .none },
  { cls := 6, slots := #[.null, .int 17, .int 0, .null, .null, .int 400], vm := .none },
  { cls := 6, slots := #[.null, .int 18, .int 0, .null, .null, .int 403], vm := .none },
  { cls := 6, slots := #[.null, .int 19, .int 0, .null, .null, .int 400], vm := .none },
  { cls := 6, slots := #[.null, .int 20, .int 0, .null, .null, .int 400], vm := .none },
  { cls := 6, slots := #[.null, .int 21, .int 0, .null, .null, .int 403], vm := .none },
  { cls := 6, slots := #[.null, .int 22, .int 0, .null, .null, .int 400], vm := .none },
  { cls := 6, slots := #[.null, .int 23, .int 0, .null, .null, .int 403], vm := .none },
  { cls := 6, slots := #[.null, .int 24, .int 0, .null, .null, .int 400], vm := .none },
  { cls := 6, slots := #[.null, .int 25, .int 0, .null, .null, .int 403], vm := .none },
  { cls := 6, slots := #[.null, .int 26, .int 0, .null, .null, .int 503], vm := .none },
  { cls := 6, slots := #[.null, .int 27, .int 0, .null, .null, .int 500], vm := .none }]
def classes : Array Class := #[k0, k1, k2, k3, k4, k5, k6, k7, k8, k9, k10, k11, k12]
def interned : List (Array UInt16 × Addr) := []
def slotsUsed : Nat := 197
def theMethod : MethodId := ⟨1, 1⟩
def args0 : Array Value := #[.int 5]
def aboutOver (below : List Frame) : State where
  vm := { classes := classes, interned := interned.toArray }
  heap := heap
  slotsUsed := slotsUsed
  threads := #[{ frames := .invoking theMethod args0 :: below }]
def below0 : List Frame := [.native { method := ⟨0, 0⟩, args := #[] }]
def about1 : State := aboutOver below0
def p0 : Program := .bare "" "" ""
def e0 : Env := launch0.env 0 0 0
theorem w_frames : about1.frames = Frame.invoking theMethod args0 :: below0 := rfl
set_option maxRecDepth 65536 in
theorem w_args : argsFit about1.vm theMethod args0 = true := by decide +kernel
set_option maxRecDepth 65536 in
theorem w_heap : heapFits about1 = true := by decide +kernel
set_option maxRecDepth 65536 in
theorem w_runnable : about1.curStatus? = some .runnable := by decide +kernel
set_option maxRecDepth 65536 in
theorem w_alone : about1.alone = true := by decide +kernel
set_option maxRecDepth 65536 in
theorem w_named : about1.methodNamed? x = some theMethod := by decide +kernel
set_option maxRecDepth 65536 in
theorem w_hears : about1.hears theMethod below0 = true := by decide +kernel
set_option maxRecDepth 65536 in
theorem w_ripe : about1.ripe theMethod args0 below0 = true := by decide +kernel
theorem w_running : about1.status = .running := rfl
set_option maxRecDepth 65536 in
theorem w_room : about1.hasRoom e0.platform room_1 = true :=
  launch0.hasRoom_least _ room_1 (by decide +kernel) (by decide +kernel) (by decide +kernel) (by decide +kernel) (by decide +kernel) (by decide +kernel)
theorem allAtoms_all (ts : List Jvm.Cond) (a : Array Jvm.Value) (st : Jvm.State) : (allAtoms ts).before a st = ts.all (fun c => c.before a st) := by
  induction ts with
  | nil => rfl
  | cons c t ih =>
    show (Jvm.Cond.and c (allAtoms t)).before a st = _
    rw [Jvm.Cond.before_and, ih, List.all_cons]
def words1 : List Jvm.Cond := Jvm.Cond.code x code maxLocals ret :: tables_1
/-- a 'code' word, met by the world's own term for the bytes: nothing is compared byte by byte -/
theorem code_word {y : MethodName} {bytes : ByteArray} {mx : Nat} {rt : Option FieldType} {a : Array Value} {s : State} {m : MethodId} {meth : Method} {c : Code} (h1 : s.methodNamed? y = some m) (h2 : s.vm.method? m = some meth) (h3 : meth.code = some c) (h4 : c.code = bytes)
    (h5 : (c.maxLocals == mx && c.exceptionTable.isEmpty && decide (c.maxStack ≤ mostOperands) && decide (meth.sig.returnType = rt) && !meth.locks && decide (parseMethodDescriptor y.desc = some meth.sig)) = true) : (Jvm.Cond.code y bytes mx rt).before a s = true := by
  simp only [Bool.and_eq_true, beq_iff_eq, Bool.not_eq_true', decide_eq_true_eq] at h5
  obtain ⟨⟨⟨⟨⟨g1, g2⟩, g3⟩, g4⟩, g5⟩, g6⟩ := h5
  simp [Cond.before, Cond.holds, Cond.value, h1, h2, h3, h4, g1, g2, g3, g4, g5, g6]
def isCode : Jvm.Cond → Bool
  | .code _ _ _ _ => true
  | _ => false
theorem all_split {L : List Jvm.Cond} {P : Jvm.Cond → Bool} (h1 : L.all (fun c => isCode c || P c) = true) (h2 : ∀ c ∈ L.filter isCode, P c = true) : L.all P = true := by
  refine List.all_eq_true.mpr fun c hc => ?_
  have h := List.all_eq_true.mp h1 c hc
  rcases Bool.eq_false_or_eq_true (isCode c) with hi | hi
  · exact h2 c (List.mem_filter.mpr ⟨hc, hi⟩)
  · simpa [hi] using h
set_option maxRecDepth 65536 in
theorem w_c0 : (Jvm.Cond.code x code maxLocals ret).before args0 about1 = true := code_word (m := ⟨1, 1⟩) (meth := k1m1) (c := k1c1) (by decide +kernel) rfl rfl rfl (by decide +kernel)
set_option maxRecDepth 65536 in
theorem w_c1 : (Jvm.Cond.code ({ cls := "com/example/buzon/buzon/engine/ApiError", name := "senderFault", desc := "()Z" } : Jvm.MethodName) prog_1_method_7_code (1 : Nat) (Option.some Jvm.ClassFile.FieldType.boolean)).before args0 about1 = true := code_word (m := ⟨6, 1⟩) (meth := k6m1) (c := k6c1) (by decide +kernel) rfl rfl rfl (by decide +kernel)
set_option maxRecDepth 65536 in
theorem w_c2 : (Jvm.Cond.code ({ cls := "com/example/buzon/buzon/engine/ApiError", name := "httpStatus", desc := "()I" } : Jvm.MethodName) prog_1_method_6_code (1 : Nat) (Option.some Jvm.ClassFile.FieldType.int)).before args0 about1 = true := code_word (m := ⟨6, 0⟩) (meth := k6m0) (c := k6c0) (by decide +kernel) rfl rfl rfl (by decide +kernel)
def codes1 : List Jvm.Cond := [Jvm.Cond.code x code maxLocals ret, Jvm.Cond.code ({ cls := "com/example/buzon/buzon/engine/ApiError", name := "senderFault", desc := "()Z" } : Jvm.MethodName) prog_1_method_7_code (1 : Nat) (Option.some Jvm.ClassFile.FieldType.boolean), Jvm.Cond.code ({ cls := "com/example/buzon/buzon/engine/ApiError", name := "httpStatus", desc := "()I" } : Jvm.MethodName) prog_1_method_6_code (1 : Nat) (Option.some Jvm.ClassFile.FieldType.int)]
set_option maxRecDepth 65536 in
theorem codes_eq : words1.filter isCode = codes1 := rfl
theorem w_codes : ∀ c ∈ words1.filter isCode, c.before args0 about1 = true := by
  rw [codes_eq]
  intro c hc
  simp only [codes1, List.mem_cons, List.not_mem_nil, or_false] at hc
  rcases hc with rfl | rfl | rfl
  · exact w_c0
  · exact w_c1
  · exact w_c2
set_option maxRecDepth 65536 in
theorem w_t1 : (words1.take 24).all (fun c => isCode c || c.before args0 about1) = true := by decide +kernel
set_option maxRecDepth 65536 in
theorem w_t2 : ((words1.drop 24).take 24).all (fun c => isCode c || c.before args0 about1) = true := by decide +kernel
set_option maxRecDepth 65536 in
theorem w_t3 : (((words1.drop 24).drop 24).take 24).all (fun c => isCode c || c.before args0 about1) = true := by decide +kernel
set_option maxRecDepth 65536 in
theorem w_t4 : (((words1.drop 24).drop 24).drop 24).all (fun c => isCode c || c.before args0 about1) = true := by decide +kernel
theorem w_tables : (allAtoms (Jvm.Cond.code x code maxLocals ret :: tables_1)).before args0 about1 = true := by
  rw [allAtoms_all]
  show words1.all (fun c => c.before args0 about1) = true
  refine all_split ?_ w_codes
  rw [← List.take_append_drop 24 words1, List.all_append, w_t1, ← List.take_append_drop 24 (words1.drop 24), List.all_append, w_t2, ← List.take_append_drop 24 ((words1.drop 24).drop 24), List.all_append, w_t3, w_t4]
  rfl
set_option maxRecDepth 65536 in
theorem w_case : (Jvm.Cond.and given_1 narrow_1).before args0 about1 = true := by decide +kernel
theorem w_applies : (headSpec (Jvm.Cond.code x code maxLocals ret :: tables_1) room_1).applies x e0.platform about1 = true :=
  (Spec.applies_iff w_frames).mpr ⟨w_running, w_runnable, w_alone, w_named, w_hears, w_ripe, w_room, w_tables⟩
theorem atStart : AtStart classFile x code maxLocals ret World_1 tables_1 room_1 Calls_1 rest_1 Pre_1 launch0 p0 e0 about1 theMethod args0 below0 :=
  ⟨lists_1, trivial, launch0.admits_env _ _ _, launch0.least_env, fairChoices_fair.cas, fairChoices_fair.clock, w_frames, w_args, w_heap, w_applies, trivial, trivial, w_case⟩
end start1
theorem witness_1 : WitnessClaimed_1 := ⟨start1.p0, start1.e0, start1.about1, start1.theMethod, start1.args0, start1.below0, start1.atStart⟩
end Jvm.Pilot.@@N@@
