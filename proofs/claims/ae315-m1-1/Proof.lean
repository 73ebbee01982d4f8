import JvmDerived
import JvmDerived.Pilot.@@N@@Statement
import JvmDerived.Pilot.@@N@@Code
set_option linter.unusedVariables false
set_option linter.unusedSimpArgs false
namespace Jvm.Pilot.@@N@@
open Jvm Jvm.ClassFile Sem Op Lib Jvm.Free Jvm.Stand Jvm.LawKit Jvm.RoadKit Bundle Jvm.Pilot.@@N@@.Jvm.D
/-- from the frame g at T the run reaches a state of which P holds -/
def own_Go (p : Program) (e : Env) (below : List Frame) (P : State → Outcome → Prop) (T : State) (g : JFrame) : Prop := ∃ t o, Steps p.tables e below (T.setTop g) t ∧ P t o
/-- the run has left the method: what it returned, the heap and the places written are as Q says -/
def own_P (s : State) (below : List Frame) (R : Room) (Q : Option Value → Heap → List Loc → Prop) (t : State) (o : Outcome) : Prop := t.status = .running ∧ Ended t below o ∧ ∃ v L, o = .returned v ∧ Q v t.heap L ∧ FrameEnd s o t L R.cells R.slots
section OwnKit
variable {p : Program} {l : Launch} {e : Env} {R : Room} {s : State} {m : MethodId} {args : Array Value} {below : List Frame} {meth : Method} {c : Code} {T T' : State} {locs : List Loc} {cells slots : Nat} {P : State → Outcome → Prop} {g g' : JFrame}
theorem own_by (k : ∀ t, Steps p.tables e below (T'.setTop g') t → Steps p.tables e below (T.setTop g) t) (h : own_Go p e below P T' g') : own_Go p e below P T g := by
  obtain ⟨t, o, st, q⟩ := h
  exact ⟨t, o, k t st, q⟩
theorem own_via (k : Steps p.tables e below (T.setTop g) (T'.setTop g')) (h : own_Go p e below P T' g') : own_Go p e below P T g := own_by (fun _ st => k.trans st) h
theorem own_in (q : g = g') (h : own_Go p e below P T g') : own_Go p e below P T g := q ▸ h
theorem own_out {v : Option Value} {Q : Option Value → Heap → List Loc → Prop} (X : Stand p l e R s m args below meth c T locs cells slots) (hv : meth.sig.returnType = none → v = none) (hlk : meth.locks = false) (hc : cells ≤ R.cells) (hs : slots ≤ R.slots) (q : Q v T.heap locs)
    (k : ∀ fs, (∀ (f : JFrame) (acts : List Action), f.method = m → f.locked = none → f.entered = [] → (doReturn e (T.setTop f) acts v).1 = T.setFrames fs) → Steps p.tables e below (T.setTop g) (T.setFrames fs)) : own_Go p e below (own_P s below R Q) T g := by
  obtain ⟨fs, hr, hrun, hended, hW, hsame⟩ := X.leave (v := v) hv hlk
  exact ⟨_, _, k fs hr, hrun, hended, _, _, rfl, q, ⟨_, rfl⟩, hW, hsame.mono hc hs⟩
theorem own_some {t : FieldType} {w : Value} (h : meth.sig.returnType = some t) : meth.sig.returnType = none → some w = none := fun q => by rw [h] at q; cases q
theorem own_retN {pc : Nat} {Ls : Array Slot} {z : Int32} {t : FieldType} {rest : List Value} {Q : Option Value → Heap → List Loc → Prop} (X : Stand p l e R s m args below meth c T locs cells slots) (hx : p.tables.exec = Jvm.exec) (hret : meth.sig.returnType = some t) (ht : t = .boolean ∨ t = .byte ∨ t = .char ∨ t = .short)
    (hd : decode c.code pc = .ok (.ireturn, 1)) (hlk : meth.locks = false) (hc : cells ≤ R.cells) (hs : slots ≤ R.slots) (q : Q (some (.int (nar t z))) T.heap locs) : own_Go p e below (own_P s below R Q) T (mkF m pc Ls (.int z :: rest)) :=
  own_out X (own_some hret) hlk hc hs q fun _ hr => retN X hx hret ht hd hr
theorem own_retI {pc : Nat} {Ls : Array Slot} {z : Int32} {rest : List Value} {Q : Option Value → Heap → List Loc → Prop} (X : Stand p l e R s m args below meth c T locs cells slots) (hx : p.tables.exec = Jvm.exec) (hret : meth.sig.returnType = some .int)
    (hd : decode c.code pc = .ok (.ireturn, 1)) (hlk : meth.locks = false) (hc : cells ≤ R.cells) (hs : slots ≤ R.slots) (q : Q (some (.int z)) T.heap locs) : own_Go p e below (own_P s below R Q) T (mkF m pc Ls (.int z :: rest)) :=
  own_out X (own_some hret) hlk hc hs q fun _ hr => retOut X hx hret rfl (Or.inl ⟨rfl, Or.inl rfl, _, rfl⟩) hd hr
theorem own_retJ {pc : Nat} {Ls : Array Slot} {z : Int64} {rest : List Value} {Q : Option Value → Heap → List Loc → Prop} (X : Stand p l e R s m args below meth c T locs cells slots) (hx : p.tables.exec = Jvm.exec) (hret : meth.sig.returnType = some .long)
    (hd : decode c.code pc = .ok (.lreturn, 1)) (hlk : meth.locks = false) (hc : cells ≤ R.cells) (hs : slots ≤ R.slots) (q : Q (some (.long z)) T.heap locs) : own_Go p e below (own_P s below R Q) T (mkF m pc Ls (.long z :: rest)) :=
  own_out X (own_some hret) hlk hc hs q fun _ hr => retOut X hx hret rfl (Or.inr (Or.inl ⟨rfl, rfl, _, rfl⟩)) hd hr
theorem own_retR {pc : Nat} {Ls : Array Slot} {w : Value} {t : FieldType} {rest : List Value} {Q : Option Value → Heap → List Loc → Prop} (X : Stand p l e R s m args below meth c T locs cells slots) (hx : p.tables.exec = Jvm.exec) (hret : meth.sig.returnType = some t) (ht : t.isReference = true) (hw : w.isRef = true) (hn : narrow t w = w)
    (hd : decode c.code pc = .ok (.areturn, 1)) (hlk : meth.locks = false) (hc : cells ≤ R.cells) (hs : slots ≤ R.slots) (q : Q (some w) T.heap locs) : own_Go p e below (own_P s below R Q) T (mkF m pc Ls (w :: rest)) :=
  own_out X (own_some hret) hlk hc hs q fun _ hr => retOut X hx hret hn (Or.inr (Or.inr (Or.inr (Or.inr ⟨rfl, ht, hw⟩)))) hd hr
theorem own_ret0 {pc : Nat} {Ls : Array Slot} {Q : Option Value → Heap → List Loc → Prop} (X : Stand p l e R s m args below meth c T locs cells slots) (hx : p.tables.exec = Jvm.exec) (hret : meth.sig.returnType = none)
    (hd : decode c.code pc = .ok (.return_, 1)) (hlk : meth.locks = false) (hc : cells ≤ R.cells) (hs : slots ≤ R.slots) (q : Q none T.heap locs) : own_Go p e below (own_P s below R Q) T (mkF m pc Ls []) :=
  own_out X (fun _ => rfl) hlk hc hs q fun _ hr => X.returnOut hx hret hd hr
theorem own_hide {n0 : Nat} (X : Stand p l e R s m args below meth c T locs cells slots) (N : Fr n0 locs) : ∃ L, Stand p l e R s m args below meth c T L cells slots ∧ Fr n0 L := ⟨locs, X, N⟩
theorem own_cat1 {v : Value} (h : v.isRef = true) : v.category = 1 := by
  cases v <;> first | rfl | (simp [Value.isRef] at h)
theorem own_fitsR {C : String} {v : Value} (h : v.isRef = true) : fits (.object C) v = true := by
  cases v <;> first | rfl | (simp [Value.isRef] at h)
theorem own_tab (xs : List Int32) (d : Int32) (k : Nat) : (xs.map Value.int).getD k (.int d) = .int (xs.getD k d) := by
  simp only [List.getD_eq_getElem?_getD, List.getElem?_map]
  cases xs[k]? <;> rfl
end OwnKit
/-- as own_P, of a walk that may have loaded String constants: those of EL stay what they say -/
def own_PW (Z : State) (EL : List (String × Nat)) (s : State) (below : List Frame) (R : Room) (Q : Option Value → Heap → List Loc → Prop) (t : State) (o : Outcome) : Prop := t.status = .running ∧ Ended t below o ∧ ∃ v L, o = .returned v ∧ Q v t.heap L ∧ CHr Z EL s.vm s.heap t.vm t.heap ∧ ReturnedEndW s o t L R.cells R.slots
section OwnHeld
variable {p : Program} {l : Launch} {e : Env} {R : Room} {s : State} {m : MethodId} {args : Array Value} {below : List Frame} {meth : Method} {c : Code} {T : State} {locs : List Loc} {cells slots : Nat} {g : JFrame} {Z : State} {a0 : Array Value} {EL : List (String × Nat)} {vm0 : Vm} {k0 : Nat} {h h0 : Heap} {Q : Option Value → Heap → List Loc → Prop}
theorem own_outW {v : Option Value} (X : Stand p l e R (s.setVm vm0) m args below meth c T locs cells slots) (hZ : Z.Warmed39 vm0) (hEL : EW Z a0 EL) (hS : s.Since vm0 k0) (hk : k0 ≤ h.size) (eT : T.heap = h) (C : CHr Z EL s.vm h0 vm0 h) (eh : s.heap = h0) (hv : meth.sig.returnType = none → v = none) (hlk : meth.locks = false) (hc : cells ≤ R.cells) (hs : slots ≤ R.slots) (q : Q v T.heap locs)
    (k : ∀ fs, (∀ (f : JFrame) (acts : List Action), f.method = m → f.locked = none → f.entered = [] → (doReturn e (T.setTop f) acts v).1 = T.setFrames fs) → Steps p.tables e below (T.setTop g) (T.setFrames fs)) : own_Go p e below (own_PW Z EL s below R Q) T g := by
  subst eT eh
  obtain ⟨fs, hr, hrun, hended, hE⟩ := X.leaveW hS hk (v := v) hv hlk
  exact ⟨_, _, k fs hr, hrun, hended, _, _, rfl, q, C.trans (show CHr Z EL vm0 T.heap T.vm T.heap from CHv.at X hZ hEL C.1), hE.1, hE.2.1, hE.2.2.1, hE.2.2.2.mono hc hs⟩
theorem own_retNW {pc : Nat} {Ls : Array Slot} {z : Int32} {t : FieldType} {rest : List Value} (X : Stand p l e R (s.setVm vm0) m args below meth c T locs cells slots) (hZ : Z.Warmed39 vm0) (hEL : EW Z a0 EL) (hS : s.Since vm0 k0) (hk : k0 ≤ h.size) (eT : T.heap = h) (C : CHr Z EL s.vm h0 vm0 h) (eh : s.heap = h0) (hx : p.tables.exec = Jvm.exec) (hret : meth.sig.returnType = some t) (ht : t = .boolean ∨ t = .byte ∨ t = .char ∨ t = .short)
    (hd : decode c.code pc = .ok (.ireturn, 1)) (hlk : meth.locks = false) (hc : cells ≤ R.cells) (hs : slots ≤ R.slots) (q : Q (some (.int (nar t z))) T.heap locs) : own_Go p e below (own_PW Z EL s below R Q) T (mkF m pc Ls (.int z :: rest)) :=
  own_outW X hZ hEL hS hk eT C eh (own_some hret) hlk hc hs q fun _ hr => retN X hx hret ht hd hr
theorem own_retIW {pc : Nat} {Ls : Array Slot} {z : Int32} {rest : List Value} (X : Stand p l e R (s.setVm vm0) m args below meth c T locs cells slots) (hZ : Z.Warmed39 vm0) (hEL : EW Z a0 EL) (hS : s.Since vm0 k0) (hk : k0 ≤ h.size) (eT : T.heap = h) (C : CHr Z EL s.vm h0 vm0 h) (eh : s.heap = h0) (hx : p.tables.exec = Jvm.exec) (hret : meth.sig.returnType = some .int)
    (hd : decode c.code pc = .ok (.ireturn, 1)) (hlk : meth.locks = false) (hc : cells ≤ R.cells) (hs : slots ≤ R.slots) (q : Q (some (.int z)) T.heap locs) : own_Go p e below (own_PW Z EL s below R Q) T (mkF m pc Ls (.int z :: rest)) :=
  own_outW X hZ hEL hS hk eT C eh (own_some hret) hlk hc hs q fun _ hr => retOut X hx hret rfl (Or.inl ⟨rfl, Or.inl rfl, _, rfl⟩) hd hr
theorem own_retRW {pc : Nat} {Ls : Array Slot} {w : Value} {t : FieldType} {rest : List Value} (X : Stand p l e R (s.setVm vm0) m args below meth c T locs cells slots) (hZ : Z.Warmed39 vm0) (hEL : EW Z a0 EL) (hS : s.Since vm0 k0) (hk : k0 ≤ h.size) (eT : T.heap = h) (C : CHr Z EL s.vm h0 vm0 h) (eh : s.heap = h0) (hx : p.tables.exec = Jvm.exec) (hret : meth.sig.returnType = some t) (ht : t.isReference = true) (hw : w.isRef = true) (hn : narrow t w = w)
    (hd : decode c.code pc = .ok (.areturn, 1)) (hlk : meth.locks = false) (hc : cells ≤ R.cells) (hs : slots ≤ R.slots) (q : Q (some w) T.heap locs) : own_Go p e below (own_PW Z EL s below R Q) T (mkF m pc Ls (w :: rest)) :=
  own_outW X hZ hEL hS hk eT C eh (own_some hret) hlk hc hs q fun _ hr => retOut X hx hret hn (Or.inr (Or.inr (Or.inr (Or.inr ⟨rfl, ht, hw⟩)))) hd hr
theorem own_ret0W {pc : Nat} {Ls : Array Slot} (X : Stand p l e R (s.setVm vm0) m args below meth c T locs cells slots) (hZ : Z.Warmed39 vm0) (hEL : EW Z a0 EL) (hS : s.Since vm0 k0) (hk : k0 ≤ h.size) (eT : T.heap = h) (C : CHr Z EL s.vm h0 vm0 h) (eh : s.heap = h0) (hx : p.tables.exec = Jvm.exec) (hret : meth.sig.returnType = none)
    (hd : decode c.code pc = .ok (.return_, 1)) (hlk : meth.locks = false) (hc : cells ≤ R.cells) (hs : slots ≤ R.slots) (q : Q none T.heap locs) : own_Go p e below (own_PW Z EL s below R Q) T (mkF m pc Ls []) :=
  own_outW X hZ hEL hS hk eT C eh (fun _ => rfl) hlk hc hs q fun _ hr => X.returnOut hx hret hd hr
end OwnHeld
theorem own_ew {Z : State} {a0 : Array Value} (hw : ∀ d ∈ tables_1, d.before a0 Z = true) : EW Z a0 consts_1 := (EW.cons (hw _ (List.mem_of_getElem? (i := 9) rfl)) (by decide) EW.nil)
theorem own_atoms {Z : State} {a0 : Array Value} (hw : ∀ d ∈ tables_1, d.before a0 Z = true) : ∀ d ∈ Bundle.stringAtoms, d.before a0 Z = true := fun d hd => hw d ((by decide +kernel : ∀ d ∈ Bundle.stringAtoms, d ∈ tables_1) d hd)
theorem own_sub1 {x : Int32} (h : ¬ x < 1 ∧ ¬ (35 : Int32) < x) : (x - (1 : Int32)).toInt = x.toInt - 1 ∧ 0 ≤ x.toInt - 1 ∧ x.toInt - 1 < 35 := by
  obtain ⟨h1, h2⟩ := h
  rw [Int32.lt_iff_toInt_lt, show (1 : Int32).toInt = 1 from by decide] at h1
  rw [Int32.lt_iff_toInt_lt, show (35 : Int32).toInt = 35 from by decide] at h2
  refine ⟨?_, by omega, by omega⟩
  rw [Int32.toInt_sub, show (1 : Int32).toInt = 1 from by decide, Int.bmod_def]
  split <;> omega
theorem own_i35 {x : Int32} (h : ¬ x < 1 ∧ ¬ (35 : Int32) < x) : (x - (1 : Int32)).toNatClampNeg < 35 := by
  obtain ⟨e, a, b⟩ := own_sub1 h
  show (x - (1 : Int32)).toInt.toNat < 35
  omega
theorem own_j35 {x : Int32} (h : ¬ x < 1 ∧ ¬ (35 : Int32) < x) : x - (1 : Int32) = Int32.ofNat (x - (1 : Int32)).toNatClampNeg := by
  obtain ⟨e, a, b⟩ := own_sub1 h
  have q := own_i35 h
  rw [← Int32.toInt_inj, Int32.toInt_ofNat_of_lt (by omega)]
  show (x - (1 : Int32)).toInt = ((x - (1 : Int32)).toInt.toNat : Int)
  omega
theorem own_b1 {x : Int32} (h1 : ¬ x < 1) (h2 : ¬ (35 : Int32) < x) : ¬ x < 1 ∧ ¬ (35 : Int32) < x := ⟨h1, h2⟩
theorem own_and_le (x m : Int32) (k : Nat) (hm : m.toBitVec.toNat = k) (hk : k < 2147483648) : 0 ≤ (x &&& m).toInt ∧ (x &&& m).toInt ≤ k := by
  have h1 : (x &&& m).toBitVec.toNat ≤ k := by
    rw [Int32.toBitVec_and, BitVec.toNat_and, hm]; exact Nat.and_le_right
  have h2 : (x &&& m).toInt = ((x &&& m).toBitVec.toNat : Int) := BitVec.toInt_eq_toNat_of_lt (by omega)
  omega
theorem own_b2 (x : Int32) : ¬ (((x &&& (2147483647 : Int32)) % (35 : Int32)) + (1 : Int32)) < 1 ∧ ¬ (35 : Int32) < (((x &&& (2147483647 : Int32)) % (35 : Int32)) + (1 : Int32)) := by
  have h := (own_and_le x 2147483647 2147483647 (by decide) (by decide)).1
  generalize (x &&& (2147483647 : Int32)) = y at h ⊢
  have e : (y % 35).toInt = y.toInt % 35 := by
    rw [Int32.toInt_mod, show (35 : Int32).toInt = 35 from by decide, Int.tmod_eq_emod_of_nonneg h]
  have e2 : (y % 35 + 1).toInt = y.toInt % 35 + 1 := by
    rw [Int32.toInt_add, e, show (1 : Int32).toInt = 1 from by decide, Int.bmod_def]
    split <;> omega
  rw [Int32.lt_iff_toInt_lt, Int32.lt_iff_toInt_lt, e2, show (1 : Int32).toInt = 1 from by decide, show (35 : Int32).toInt = 35 from by decide]
  omega
theorem own_b3 {x : Int32} (h : ¬ x < 1 ∧ ¬ (35 : Int32) < x) : ¬ (x - (1 : Int32)) < 0 ∧ (x - (1 : Int32)) < (35 : Int32) := by
  obtain ⟨e, a, b⟩ := own_sub1 h
  rw [Int32.lt_iff_toInt_lt, Int32.lt_iff_toInt_lt, e, show (0 : Int32).toInt = 0 from by decide, show (35 : Int32).toInt = 35 from by decide]
  omega

def own_T : List Int32 := [(49 : Int32), (50 : Int32), (51 : Int32), (52 : Int32), (53 : Int32), (54 : Int32), (55 : Int32), (56 : Int32), (57 : Int32), (65 : Int32), (66 : Int32), (67 : Int32), (68 : Int32), (69 : Int32), (70 : Int32), (71 : Int32), (72 : Int32), (73 : Int32), (74 : Int32), (75 : Int32), (76 : Int32), (77 : Int32), (78 : Int32), (79 : Int32), (80 : Int32), (81 : Int32), (82 : Int32), (83 : Int32), (84 : Int32), (85 : Int32), (86 : Int32), (87 : Int32), (88 : Int32), (89 : Int32), (90 : Int32)]
theorem d1_0 : decode prog_15_method_7_code 0 = .ok (.iload_n 0, 1) := by decide +kernel
theorem d1_1 : decode prog_15_method_7_code 1 = .ok (.bipush 49, 2) := by decide +kernel
theorem d1_3 : decode prog_15_method_7_code 3 = .ok (.if_icmp .lt 14, 3) := by decide +kernel
theorem d1_17 : decode prog_15_method_7_code 17 = .ok (.iload_n 0, 1) := by decide +kernel
theorem d1_18 : decode prog_15_method_7_code 18 = .ok (.bipush 65, 2) := by decide +kernel
theorem d1_20 : decode prog_15_method_7_code 20 = .ok (.if_icmp .lt 19, 3) := by decide +kernel
theorem d1_39 : decode prog_15_method_7_code 39 = .ok (.iconst 0, 1) := by decide +kernel
theorem d1_23 : decode prog_15_method_7_code 23 = .ok (.iload_n 0, 1) := by decide +kernel
theorem d1_24 : decode prog_15_method_7_code 24 = .ok (.bipush 90, 2) := by decide +kernel
theorem d1_26 : decode prog_15_method_7_code 26 = .ok (.if_icmp .gt 13, 3) := by decide +kernel
theorem d1_29 : decode prog_15_method_7_code 29 = .ok (.iload_n 0, 1) := by decide +kernel
theorem d1_30 : decode prog_15_method_7_code 30 = .ok (.bipush 65, 2) := by decide +kernel
theorem d1_32 : decode prog_15_method_7_code 32 = .ok (.isub, 1) := by decide +kernel
theorem d1_33 : decode prog_15_method_7_code 33 = .ok (.bipush 10, 2) := by decide +kernel
theorem d1_35 : decode prog_15_method_7_code 35 = .ok (.iadd, 1) := by decide +kernel
theorem d1_36 : decode prog_15_method_7_code 36 = .ok (.goto 4, 3) := by decide +kernel
theorem d1_40 : decode prog_15_method_7_code 40 = .ok (.ireturn, 1) := by decide +kernel
theorem d1_6 : decode prog_15_method_7_code 6 = .ok (.iload_n 0, 1) := by decide +kernel
theorem d1_7 : decode prog_15_method_7_code 7 = .ok (.bipush 57, 2) := by decide +kernel
theorem d1_9 : decode prog_15_method_7_code 9 = .ok (.if_icmp .gt 8, 3) := by decide +kernel
theorem d1_12 : decode prog_15_method_7_code 12 = .ok (.iload_n 0, 1) := by decide +kernel
theorem d1_13 : decode prog_15_method_7_code 13 = .ok (.bipush 48, 2) := by decide +kernel
theorem d1_15 : decode prog_15_method_7_code 15 = .ok (.isub, 1) := by decide +kernel
theorem d1_16 : decode prog_15_method_7_code 16 = .ok (.ireturn, 1) := by decide +kernel
theorem pn_com_example_yohokit_yohokit_Counts : plainName "com/example/yohokit/yohokit/Counts" = true := by first | (simp [plainName, overriddenIn]; done) | decide +kernel
def own_F1 (p1_0 : Int32) : Int32 := (if p1_0 < (49 : Int32) then (if p1_0 < (65 : Int32) then (0 : Int32) else (if (90 : Int32) < p1_0 then (0 : Int32) else ((p1_0 - (65 : Int32)) + (10 : Int32)))) else (if (57 : Int32) < p1_0 then (if p1_0 < (65 : Int32) then (0 : Int32) else (if (90 : Int32) < p1_0 then (0 : Int32) else ((p1_0 - (65 : Int32)) + (10 : Int32)))) else (p1_0 - (48 : Int32))))
theorem own_ef1 (m : MethodId) (x0 : Int32) : entryFrame m #[(.int x0)] 1 = mkF m 0 #[.val (.int x0)] [] := by first | (simp [entryFrame, mkF, argsToLocals, Value.category]; done) | rfl
def own_Q1 (r : Int32) (h0 : Heap) (n0 : Nat) (v : Option Value) (h : Heap) (L : List Loc) : Prop := v = some (.int r) ∧ Fr n0 L ∧ h = h0
set_option maxRecDepth 65536 in
set_option maxHeartbeats 40000000 in
theorem own_rm1 (l : Launch) (Z : State) (a0 : Array Value) (hw : ∀ d ∈ tables_1, d.before a0 Z = true) (ws : List Jvm.Cond) (p1_0 : Int32) (h0 : Heap) (n0 : Nat) (Z0 : n0 ≤ h0.size) :
    MetFree l (⟨"com/example/yohokit/yohokit/Counts", "number", "(C)I"⟩ : MethodName) (head1 (Jvm.Cond.code (⟨"com/example/yohokit/yohokit/Counts", "number", "(C)I"⟩ : MethodName) prog_15_method_7_code 1 (some .int) :: ws) ({ frames := 0, cells := 0, slots := 0, locals := 0 } : Room)) (fun a U => a = #[(.int p1_0)] ∧ Z.Warmed39 U.vm ∧ U.heap = h0) (fun _ _ _ _ _ => True) (fun _ U o U' => ∃ v L, o = .returned v ∧ own_Q1 (own_F1 p1_0) h0 n0 v U'.heap L ∧ FrameEnd U o U' L ({ frames := 0, cells := 0, slots := 0, locals := 0 } : Room).cells ({ frames := 0, cells := 0, slots := 0, locals := 0 } : Room).slots) := by
  refine MetFree.of_bodySF (plainFor_of_name pn_com_example_yohokit_yohokit_Counts) hisR ?_
  intro p e s m args below meth c s₁ Bd hml0 hP hK
  obtain ⟨rfl, hZ, hh⟩ := hP
  have hx := Bd.exec
  have hby := Bd.bytes
  have hlk : meth.locks = false := BodyLoose.notSynchronized Bd
  have hml : c.maxLocals = 1 := hml0
  have hown : s.vm.findClass "com/example/yohokit/yohokit/Counts" = some m.cls := findClass_of_methodNamed Bd.named
  have hnm := (name_of_methodNamed Bd.named Bd.method).1
  have X0 : Stand p l e ({ frames := 0, cells := 0, slots := 0, locals := 0 } : Room) s m #[(.int p1_0)] below meth c s₁ [] 0 0 := Stand.of_body Bd
  have e0 : s₁.heap = h0 := by rw [← hh, Bd.state]; rfl
  have N0 := Fr.nil n0
  show own_Go p e below (own_P s below ({ frames := 0, cells := 0, slots := 0, locals := 0 } : Room) (own_Q1 (own_F1 p1_0) h0 n0)) s₁ (entryFrame m #[(.int p1_0)] 1)
  refine own_in (own_ef1 m p1_0) ?_
  refine own_by (T' := s₁) (g' := (mkF m 3 #[.val (.int p1_0)] [(.int (49 : Int32)), (.int p1_0)])) (fun t k => ?_) ?_
  · show Steps p.tables e below (s₁.setTop (mkF m 0 #[.val (.int p1_0)] [])) t
    refine XS.iloadN X0.here hx rfl (hb hby d1_0) rfl ?_
    show Steps p.tables e below (s₁.setTop (mkF m 1 #[.val (.int p1_0)] [(.int p1_0)])) t
    refine XS.bipush X0.here hx rfl (hb hby d1_1) ?_
    show Steps p.tables e below (s₁.setTop (mkF m 3 #[.val (.int p1_0)] [(.int (49 : Int32)), (.int p1_0)])) t
    exact k
  by_cases hc1 : p1_0 < (49 : Int32)
  · skip
    refine own_by (T' := s₁) (g' := (mkF m 20 #[.val (.int p1_0)] [(.int (65 : Int32)), (.int p1_0)])) (fun t k => ?_) ?_
    · show Steps p.tables e below (s₁.setTop (mkF m 3 #[.val (.int p1_0)] [(.int (49 : Int32)), (.int p1_0)])) t
      refine XS.icmpYes X0.here hx rfl (pc0 := 3) (pc' := 17) rfl (hb hby d1_3) rfl (tlt hc1).1 (by decide) (by decide) ?_
      show Steps p.tables e below (s₁.setTop (mkF m 17 #[.val (.int p1_0)] [])) t
      refine XS.iloadN X0.here hx rfl (hb hby d1_17) rfl ?_
      show Steps p.tables e below (s₁.setTop (mkF m 18 #[.val (.int p1_0)] [(.int p1_0)])) t
      refine XS.bipush X0.here hx rfl (hb hby d1_18) ?_
      show Steps p.tables e below (s₁.setTop (mkF m 20 #[.val (.int p1_0)] [(.int (65 : Int32)), (.int p1_0)])) t
      exact k
    by_cases hc2 : p1_0 < (65 : Int32)
    · skip
      refine own_by (T' := s₁) (g' := (mkF m 40 #[.val (.int p1_0)] [(.int (0 : Int32))])) (fun t k => ?_) ?_
      · show Steps p.tables e below (s₁.setTop (mkF m 20 #[.val (.int p1_0)] [(.int (65 : Int32)), (.int p1_0)])) t
        refine XS.icmpYes X0.here hx rfl (pc0 := 20) (pc' := 39) rfl (hb hby d1_20) rfl (tlt hc2).1 (by decide) (by decide) ?_
        show Steps p.tables e below (s₁.setTop (mkF m 39 #[.val (.int p1_0)] [])) t
        refine XS.iconst X0.here hx rfl (hb hby d1_39) ?_
        show Steps p.tables e below (s₁.setTop (mkF m 40 #[.val (.int p1_0)] [(.int (0 : Int32))])) t
        exact k
      rw [show own_F1 p1_0 = (0 : Int32) from ((if_pos hc1).trans ((if_pos hc2).trans rfl))]
      exact own_retI X0 hx Bd.returns (hb hby d1_40) hlk (by decide) (by decide) ⟨rfl, N0, e0⟩
    · skip
      refine own_by (T' := s₁) (g' := (mkF m 26 #[.val (.int p1_0)] [(.int (90 : Int32)), (.int p1_0)])) (fun t k => ?_) ?_
      · show Steps p.tables e below (s₁.setTop (mkF m 20 #[.val (.int p1_0)] [(.int (65 : Int32)), (.int p1_0)])) t
        refine XS.icmpNo X0.here hx rfl (hb hby d1_20) rfl (flt hc2).1 ?_
        show Steps p.tables e below (s₁.setTop (mkF m 23 #[.val (.int p1_0)] [])) t
        refine XS.iloadN X0.here hx rfl (hb hby d1_23) rfl ?_
        show Steps p.tables e below (s₁.setTop (mkF m 24 #[.val (.int p1_0)] [(.int p1_0)])) t
        refine XS.bipush X0.here hx rfl (hb hby d1_24) ?_
        show Steps p.tables e below (s₁.setTop (mkF m 26 #[.val (.int p1_0)] [(.int (90 : Int32)), (.int p1_0)])) t
        exact k
      by_cases hc4 : (90 : Int32) < p1_0
      · skip
        refine own_by (T' := s₁) (g' := (mkF m 40 #[.val (.int p1_0)] [(.int (0 : Int32))])) (fun t k => ?_) ?_
        · show Steps p.tables e below (s₁.setTop (mkF m 26 #[.val (.int p1_0)] [(.int (90 : Int32)), (.int p1_0)])) t
          refine XS.icmpYes X0.here hx rfl (pc0 := 26) (pc' := 39) rfl (hb hby d1_26) rfl (tlt hc4).2.2.1 (by decide) (by decide) ?_
          show Steps p.tables e below (s₁.setTop (mkF m 39 #[.val (.int p1_0)] [])) t
          refine XS.iconst X0.here hx rfl (hb hby d1_39) ?_
          show Steps p.tables e below (s₁.setTop (mkF m 40 #[.val (.int p1_0)] [(.int (0 : Int32))])) t
          exact k
        rw [show own_F1 p1_0 = (0 : Int32) from ((if_pos hc1).trans ((if_neg hc2).trans ((if_pos hc4).trans rfl)))]
        exact own_retI X0 hx Bd.returns (hb hby d1_40) hlk (by decide) (by decide) ⟨rfl, N0, e0⟩
      · skip
        refine own_by (T' := s₁) (g' := (mkF m 40 #[.val (.int p1_0)] [(.int ((p1_0 - (65 : Int32)) + (10 : Int32)))])) (fun t k => ?_) ?_
        · show Steps p.tables e below (s₁.setTop (mkF m 26 #[.val (.int p1_0)] [(.int (90 : Int32)), (.int p1_0)])) t
          refine XS.icmpNo X0.here hx rfl (hb hby d1_26) rfl (flt hc4).2.2.1 ?_
          show Steps p.tables e below (s₁.setTop (mkF m 29 #[.val (.int p1_0)] [])) t
          refine XS.iloadN X0.here hx rfl (hb hby d1_29) rfl ?_
          show Steps p.tables e below (s₁.setTop (mkF m 30 #[.val (.int p1_0)] [(.int p1_0)])) t
          refine XS.bipush X0.here hx rfl (hb hby d1_30) ?_
          show Steps p.tables e below (s₁.setTop (mkF m 32 #[.val (.int p1_0)] [(.int (65 : Int32)), (.int p1_0)])) t
          refine XS.isub X0.here hx rfl (hb hby d1_32) rfl ?_
          show Steps p.tables e below (s₁.setTop (mkF m 33 #[.val (.int p1_0)] [(.int (p1_0 - (65 : Int32)))])) t
          refine XS.bipush X0.here hx rfl (hb hby d1_33) ?_
          show Steps p.tables e below (s₁.setTop (mkF m 35 #[.val (.int p1_0)] [(.int (10 : Int32)), (.int (p1_0 - (65 : Int32)))])) t
          refine XS.iadd X0.here hx rfl (hb hby d1_35) rfl ?_
          show Steps p.tables e below (s₁.setTop (mkF m 36 #[.val (.int p1_0)] [(.int ((p1_0 - (65 : Int32)) + (10 : Int32)))])) t
          refine XS.goto X0.here hx rfl (pc0 := 36) (pc' := 40) rfl (hb hby d1_36) (by decide) (by decide) ?_
          show Steps p.tables e below (s₁.setTop (mkF m 40 #[.val (.int p1_0)] [(.int ((p1_0 - (65 : Int32)) + (10 : Int32)))])) t
          exact k
        rw [show own_F1 p1_0 = ((p1_0 - (65 : Int32)) + (10 : Int32)) from ((if_pos hc1).trans ((if_neg hc2).trans ((if_neg hc4).trans rfl)))]
        exact own_retI X0 hx Bd.returns (hb hby d1_40) hlk (by decide) (by decide) ⟨rfl, N0, e0⟩
  · skip
    refine own_by (T' := s₁) (g' := (mkF m 9 #[.val (.int p1_0)] [(.int (57 : Int32)), (.int p1_0)])) (fun t k => ?_) ?_
    · show Steps p.tables e below (s₁.setTop (mkF m 3 #[.val (.int p1_0)] [(.int (49 : Int32)), (.int p1_0)])) t
      refine XS.icmpNo X0.here hx rfl (hb hby d1_3) rfl (flt hc1).1 ?_
      show Steps p.tables e below (s₁.setTop (mkF m 6 #[.val (.int p1_0)] [])) t
      refine XS.iloadN X0.here hx rfl (hb hby d1_6) rfl ?_
      show Steps p.tables e below (s₁.setTop (mkF m 7 #[.val (.int p1_0)] [(.int p1_0)])) t
      refine XS.bipush X0.here hx rfl (hb hby d1_7) ?_
      show Steps p.tables e below (s₁.setTop (mkF m 9 #[.val (.int p1_0)] [(.int (57 : Int32)), (.int p1_0)])) t
      exact k
    by_cases hc5 : (57 : Int32) < p1_0
    · skip
      refine own_by (T' := s₁) (g' := (mkF m 20 #[.val (.int p1_0)] [(.int (65 : Int32)), (.int p1_0)])) (fun t k => ?_) ?_
      · show Steps p.tables e below (s₁.setTop (mkF m 9 #[.val (.int p1_0)] [(.int (57 : Int32)), (.int p1_0)])) t
        refine XS.icmpYes X0.here hx rfl (pc0 := 9) (pc' := 17) rfl (hb hby d1_9) rfl (tlt hc5).2.2.1 (by decide) (by decide) ?_
        show Steps p.tables e below (s₁.setTop (mkF m 17 #[.val (.int p1_0)] [])) t
        refine XS.iloadN X0.here hx rfl (hb hby d1_17) rfl ?_
        show Steps p.tables e below (s₁.setTop (mkF m 18 #[.val (.int p1_0)] [(.int p1_0)])) t
        refine XS.bipush X0.here hx rfl (hb hby d1_18) ?_
        show Steps p.tables e below (s₁.setTop (mkF m 20 #[.val (.int p1_0)] [(.int (65 : Int32)), (.int p1_0)])) t
        exact k
      by_cases hc6 : p1_0 < (65 : Int32)
      · skip
        refine own_by (T' := s₁) (g' := (mkF m 40 #[.val (.int p1_0)] [(.int (0 : Int32))])) (fun t k => ?_) ?_
        · show Steps p.tables e below (s₁.setTop (mkF m 20 #[.val (.int p1_0)] [(.int (65 : Int32)), (.int p1_0)])) t
          refine XS.icmpYes X0.here hx rfl (pc0 := 20) (pc' := 39) rfl (hb hby d1_20) rfl (tlt hc6).1 (by decide) (by decide) ?_
          show Steps p.tables e below (s₁.setTop (mkF m 39 #[.val (.int p1_0)] [])) t
          refine XS.iconst X0.here hx rfl (hb hby d1_39) ?_
          show Steps p.tables e below (s₁.setTop (mkF m 40 #[.val (.int p1_0)] [(.int (0 : Int32))])) t
          exact k
        rw [show own_F1 p1_0 = (0 : Int32) from ((if_neg hc1).trans ((if_pos hc5).trans ((if_pos hc6).trans rfl)))]
        exact own_retI X0 hx Bd.returns (hb hby d1_40) hlk (by decide) (by decide) ⟨rfl, N0, e0⟩
      · skip
        refine own_by (T' := s₁) (g' := (mkF m 26 #[.val (.int p1_0)] [(.int (90 : Int32)), (.int p1_0)])) (fun t k => ?_) ?_
        · show Steps p.tables e below (s₁.setTop (mkF m 20 #[.val (.int p1_0)] [(.int (65 : Int32)), (.int p1_0)])) t
          refine XS.icmpNo X0.here hx rfl (hb hby d1_20) rfl (flt hc6).1 ?_
          show Steps p.tables e below (s₁.setTop (mkF m 23 #[.val (.int p1_0)] [])) t
          refine XS.iloadN X0.here hx rfl (hb hby d1_23) rfl ?_
          show Steps p.tables e below (s₁.setTop (mkF m 24 #[.val (.int p1_0)] [(.int p1_0)])) t
          refine XS.bipush X0.here hx rfl (hb hby d1_24) ?_
          show Steps p.tables e below (s₁.setTop (mkF m 26 #[.val (.int p1_0)] [(.int (90 : Int32)), (.int p1_0)])) t
          exact k
        by_cases hc8 : (90 : Int32) < p1_0
        · skip
          refine own_by (T' := s₁) (g' := (mkF m 40 #[.val (.int p1_0)] [(.int (0 : Int32))])) (fun t k => ?_) ?_
          · show Steps p.tables e below (s₁.setTop (mkF m 26 #[.val (.int p1_0)] [(.int (90 : Int32)), (.int p1_0)])) t
            refine XS.icmpYes X0.here hx rfl (pc0 := 26) (pc' := 39) rfl (hb hby d1_26) rfl (tlt hc8).2.2.1 (by decide) (by decide) ?_
            show Steps p.tables e below (s₁.setTop (mkF m 39 #[.val (.int p1_0)] [])) t
            refine XS.iconst X0.here hx rfl (hb hby d1_39) ?_
            show Steps p.tables e below (s₁.setTop (mkF m 40 #[.val (.int p1_0)] [(.int (0 : Int32))])) t
            exact k
          rw [show own_F1 p1_0 = (0 : Int32) from ((if_neg hc1).trans ((if_pos hc5).trans ((if_neg hc6).trans ((if_pos hc8).trans rfl))))]
          exact own_retI X0 hx Bd.returns (hb hby d1_40) hlk (by decide) (by decide) ⟨rfl, N0, e0⟩
        · skip
          refine own_by (T' := s₁) (g' := (mkF m 40 #[.val (.int p1_0)] [(.int ((p1_0 - (65 : Int32)) + (10 : Int32)))])) (fun t k => ?_) ?_
          · show Steps p.tables e below (s₁.setTop (mkF m 26 #[.val (.int p1_0)] [(.int (90 : Int32)), (.int p1_0)])) t
            refine XS.icmpNo X0.here hx rfl (hb hby d1_26) rfl (flt hc8).2.2.1 ?_
            show Steps p.tables e below (s₁.setTop (mkF m 29 #[.val (.int p1_0)] [])) t
            refine XS.iloadN X0.here hx rfl (hb hby d1_29) rfl ?_
            show Steps p.tables e below (s₁.setTop (mkF m 30 #[.val (.int p1_0)] [(.int p1_0)])) t
            refine XS.bipush X0.here hx rfl (hb hby d1_30) ?_
            show Steps p.tables e below (s₁.setTop (mkF m 32 #[.val (.int p1_0)] [(.int (65 : Int32)), (.int p1_0)])) t
            refine XS.isub X0.here hx rfl (hb hby d1_32) rfl ?_
            show Steps p.tables e below (s₁.setTop (mkF m 33 #[.val (.int p1_0)] [(.int (p1_0 - (65 : Int32)))])) t
            refine XS.bipush X0.here hx rfl (hb hby d1_33) ?_
            show Steps p.tables e below (s₁.setTop (mkF m 35 #[.val (.int p1_0)] [(.int (10 : Int32)), (.int (p1_0 - (65 : Int32)))])) t
            refine XS.iadd X0.here hx rfl (hb hby d1_35) rfl ?_
            show Steps p.tables e below (s₁.setTop (mkF m 36 #[.val (.int p1_0)] [(.int ((p1_0 - (65 : Int32)) + (10 : Int32)))])) t
            refine XS.goto X0.here hx rfl (pc0 := 36) (pc' := 40) rfl (hb hby d1_36) (by decide) (by decide) ?_
            show Steps p.tables e below (s₁.setTop (mkF m 40 #[.val (.int p1_0)] [(.int ((p1_0 - (65 : Int32)) + (10 : Int32)))])) t
            exact k
          rw [show own_F1 p1_0 = ((p1_0 - (65 : Int32)) + (10 : Int32)) from ((if_neg hc1).trans ((if_pos hc5).trans ((if_neg hc6).trans ((if_neg hc8).trans rfl))))]
          exact own_retI X0 hx Bd.returns (hb hby d1_40) hlk (by decide) (by decide) ⟨rfl, N0, e0⟩
    · skip
      refine own_by (T' := s₁) (g' := (mkF m 16 #[.val (.int p1_0)] [(.int (p1_0 - (48 : Int32)))])) (fun t k => ?_) ?_
      · show Steps p.tables e below (s₁.setTop (mkF m 9 #[.val (.int p1_0)] [(.int (57 : Int32)), (.int p1_0)])) t
        refine XS.icmpNo X0.here hx rfl (hb hby d1_9) rfl (flt hc5).2.2.1 ?_
        show Steps p.tables e below (s₁.setTop (mkF m 12 #[.val (.int p1_0)] [])) t
        refine XS.iloadN X0.here hx rfl (hb hby d1_12) rfl ?_
        show Steps p.tables e below (s₁.setTop (mkF m 13 #[.val (.int p1_0)] [(.int p1_0)])) t
        refine XS.bipush X0.here hx rfl (hb hby d1_13) ?_
        show Steps p.tables e below (s₁.setTop (mkF m 15 #[.val (.int p1_0)] [(.int (48 : Int32)), (.int p1_0)])) t
        refine XS.isub X0.here hx rfl (hb hby d1_15) rfl ?_
        show Steps p.tables e below (s₁.setTop (mkF m 16 #[.val (.int p1_0)] [(.int (p1_0 - (48 : Int32)))])) t
        exact k
      rw [show own_F1 p1_0 = (p1_0 - (48 : Int32)) from ((if_neg hc1).trans ((if_neg hc5).trans rfl))]
      exact own_retI X0 hx Bd.returns (hb hby d1_16) hlk (by decide) (by decide) ⟨rfl, N0, e0⟩
theorem d7_0 : decode jdk_41_method_11_code 0 = .ok (.iload_n 0, 1) := by decide +kernel
theorem d7_1 : decode jdk_41_method_11_code 1 = .ok (.ifCond .lt 8, 3) := by decide +kernel
theorem d7_4 : decode jdk_41_method_11_code 4 = .ok (.iload_n 0, 1) := by decide +kernel
theorem d7_5 : decode jdk_41_method_11_code 5 = .ok (.iload_n 1, 1) := by decide +kernel
theorem d7_6 : decode jdk_41_method_11_code 6 = .ok (.if_icmp .lt 10, 3) := by decide +kernel
theorem d7_16 : decode jdk_41_method_11_code 16 = .ok (.iload_n 0, 1) := by decide +kernel
theorem d7_17 : decode jdk_41_method_11_code 17 = .ok (.ireturn, 1) := by decide +kernel
theorem pn_jdk_internal_util_Preconditions : plainName "jdk/internal/util/Preconditions" = true := by first | (simp [plainName, overriddenIn]; done) | decide +kernel
def own_F7 (p7_0 : Int32) (p7_1 : Int32) : Int32 := p7_0
theorem own_ef7 (m : MethodId) (x0 : Int32) (x1 : Int32) (v7_2 : Value) (hr_v7_2 : v7_2.isRef = true) : entryFrame m #[(.int x0), (.int x1), v7_2] 3 = mkF m 0 #[.val (.int x0), .val (.int x1), .val v7_2] [] := by
  rcases ref_cases hr_v7_2 with rfl | ⟨_, rfl⟩ <;> simp [entryFrame, mkF, argsToLocals, Value.category]
def own_Q7 (r : Int32) (h0 : Heap) (n0 : Nat) (v : Option Value) (h : Heap) (L : List Loc) : Prop := v = some (.int r) ∧ Fr n0 L ∧ h = h0
set_option maxRecDepth 65536 in
set_option maxHeartbeats 40000000 in
theorem own_rm7 (l : Launch) (Z : State) (a0 : Array Value) (hw : ∀ d ∈ tables_1, d.before a0 Z = true) (ws : List Jvm.Cond) (p7_0 : Int32) (p7_1 : Int32) (v7_2 : Value) (h0 : Heap) (n0 : Nat) (Z0 : n0 ≤ h0.size) (hr_v7_2 : v7_2.isRef = true) (HB : ¬ p7_0 < 0 ∧ p7_0 < p7_1) :
    MetFree l (⟨"jdk/internal/util/Preconditions", "checkIndex", "(IILjava/util/function/BiFunction;)I"⟩ : MethodName) (head1 (Jvm.Cond.code (⟨"jdk/internal/util/Preconditions", "checkIndex", "(IILjava/util/function/BiFunction;)I"⟩ : MethodName) jdk_41_method_11_code 3 (some .int) :: ws) ({ frames := 0, cells := 0, slots := 0, locals := 0 } : Room)) (fun a U => a = #[(.int p7_0), (.int p7_1), v7_2] ∧ Z.Warmed39 U.vm ∧ U.heap = h0) (fun _ _ _ _ _ => True) (fun _ U o U' => ∃ v L, o = .returned v ∧ own_Q7 (own_F7 p7_0 p7_1) h0 n0 v U'.heap L ∧ FrameEnd U o U' L ({ frames := 0, cells := 0, slots := 0, locals := 0 } : Room).cells ({ frames := 0, cells := 0, slots := 0, locals := 0 } : Room).slots) := by
  refine MetFree.of_bodySF (plainFor_of_name pn_jdk_internal_util_Preconditions) hisR ?_
  intro p e s m args below meth c s₁ Bd hml0 hP hK
  obtain ⟨rfl, hZ, hh⟩ := hP
  have hx := Bd.exec
  have hby := Bd.bytes
  have hlk : meth.locks = false := BodyLoose.notSynchronized Bd
  have hml : c.maxLocals = 3 := hml0
  have hown : s.vm.findClass "jdk/internal/util/Preconditions" = some m.cls := findClass_of_methodNamed Bd.named
  have hnm := (name_of_methodNamed Bd.named Bd.method).1
  have X0 : Stand p l e ({ frames := 0, cells := 0, slots := 0, locals := 0 } : Room) s m #[(.int p7_0), (.int p7_1), v7_2] below meth c s₁ [] 0 0 := Stand.of_body Bd
  have e0 : s₁.heap = h0 := by rw [← hh, Bd.state]; rfl
  have N0 := Fr.nil n0
  show own_Go p e below (own_P s below ({ frames := 0, cells := 0, slots := 0, locals := 0 } : Room) (own_Q7 (own_F7 p7_0 p7_1) h0 n0)) s₁ (entryFrame m #[(.int p7_0), (.int p7_1), v7_2] 3)
  refine own_in (own_ef7 m p7_0 p7_1 v7_2 hr_v7_2) ?_
  refine own_by (T' := s₁) (g' := (mkF m 17 #[.val (.int p7_0), .val (.int p7_1), .val v7_2] [(.int p7_0)])) (fun t k => ?_) ?_
  · show Steps p.tables e below (s₁.setTop (mkF m 0 #[.val (.int p7_0), .val (.int p7_1), .val v7_2] [])) t
    refine XS.iloadN X0.here hx rfl (hb hby d7_0) rfl ?_
    show Steps p.tables e below (s₁.setTop (mkF m 1 #[.val (.int p7_0), .val (.int p7_1), .val v7_2] [(.int p7_0)])) t
    refine XS.ifNo X0.here hx rfl (hb hby d7_1) rfl ((if0 _ _).trans (flt HB.1).1) ?_
    show Steps p.tables e below (s₁.setTop (mkF m 4 #[.val (.int p7_0), .val (.int p7_1), .val v7_2] [])) t
    refine XS.iloadN X0.here hx rfl (hb hby d7_4) rfl ?_
    show Steps p.tables e below (s₁.setTop (mkF m 5 #[.val (.int p7_0), .val (.int p7_1), .val v7_2] [(.int p7_0)])) t
    refine XS.iloadN X0.here hx rfl (hb hby d7_5) rfl ?_
    show Steps p.tables e below (s₁.setTop (mkF m 6 #[.val (.int p7_0), .val (.int p7_1), .val v7_2] [(.int p7_1), (.int p7_0)])) t
    refine XS.icmpYes X0.here hx rfl (pc0 := 6) (pc' := 16) rfl (hb hby d7_6) rfl (tlt HB.2).1 (by decide) (by decide) ?_
    show Steps p.tables e below (s₁.setTop (mkF m 16 #[.val (.int p7_0), .val (.int p7_1), .val v7_2] [])) t
    refine XS.iloadN X0.here hx rfl (hb hby d7_16) rfl ?_
    show Steps p.tables e below (s₁.setTop (mkF m 17 #[.val (.int p7_0), .val (.int p7_1), .val v7_2] [(.int p7_0)])) t
    exact k
  rw [show own_F7 p7_0 p7_1 = p7_0 from rfl]
  exact own_retI X0 hx Bd.returns (hb hby d7_17) hlk (by decide) (by decide) ⟨rfl, N0, e0⟩
theorem d6_0 : decode jdk_42_method_155_code 0 = .ok (.iload_n 0, 1) := by decide +kernel
theorem d6_1 : decode jdk_42_method_155_code 1 = .ok (.iload_n 1, 1) := by decide +kernel
theorem d6_2 : decode jdk_42_method_155_code 2 = .ok (.getstatic 1053, 3) := by decide +kernel
theorem d6_5 : decode jdk_42_method_155_code 5 = .ok (.invokestatic 1059, 3) := by decide +kernel
theorem pd__IILjava_util_function_BiFunction__I : parseMethodDescriptor "(IILjava/util/function/BiFunction;)I" = some ⟨[.int, .int, (.object "java/util/function/BiFunction")], some .int⟩ := by decide +kernel
theorem d6_8 : decode jdk_42_method_155_code 8 = .ok (.pop, 1) := by decide +kernel
theorem d6_9 : decode jdk_42_method_155_code 9 = .ok (.return_, 1) := by decide +kernel
theorem pn_java_lang_String : plainName "java/lang/String" = true := by first | (simp [plainName, overriddenIn]; done) | decide +kernel
theorem own_ef6 (m : MethodId) (x0 : Int32) (x1 : Int32) : entryFrame m #[(.int x0), (.int x1)] 2 = mkF m 0 #[.val (.int x0), .val (.int x1)] [] := by first | (simp [entryFrame, mkF, argsToLocals, Value.category]; done) | rfl
def own_Q6 (Z : State) (p6_0 : Int32) (p6_1 : Int32) (fm : Value) (h0 : Heap) (n0 : Nat) (v : Option Value) (h : Heap) (L : List Loc) : Prop := v = none ∧ Fr n0 L ∧ h = h0
set_option maxRecDepth 65536 in
set_option maxHeartbeats 40000000 in
theorem own_rm6 (l : Launch) (Z : State) (a0 : Array Value) (hw : ∀ d ∈ tables_1, d.before a0 Z = true) (ws : List Jvm.Cond) (p6_0 : Int32) (p6_1 : Int32) (fm : Value) (h0 : Heap) (n0 : Nat) (Z0 : n0 ≤ h0.size) (O0 : Old Z n0 h0) (HB : ¬ p6_0 < 0 ∧ p6_0 < p6_1) (SFm : Sta Z Z.heap "jdk/internal/util/Preconditions" "SIOOBE_FORMATTER" "Ljava/util/function/BiFunction;" fm) (HFm : fm.isRef = true) :
    MetFree l (⟨"java/lang/String", "checkIndex", "(II)V"⟩ : MethodName) (head1 (Jvm.Cond.code (⟨"java/lang/String", "checkIndex", "(II)V"⟩ : MethodName) jdk_42_method_155_code 2 none :: ws) ({ frames := 1, cells := 0, slots := 0, locals := 14 } : Room)) (fun a U => a = #[(.int p6_0), (.int p6_1)] ∧ Z.Warmed39 U.vm ∧ U.heap = h0) (fun _ _ _ _ _ => True) (fun _ U o U' => ∃ v L, o = .returned v ∧ own_Q6 Z p6_0 p6_1 fm h0 n0 v U'.heap L ∧ FrameEnd U o U' L ({ frames := 1, cells := 0, slots := 0, locals := 14 } : Room).cells ({ frames := 1, cells := 0, slots := 0, locals := 14 } : Room).slots) := by
  refine MetFree.of_bodySF (plainFor_of_name pn_java_lang_String) hisR ?_
  intro p e s m args below meth c s₁ Bd hml0 hP hK
  obtain ⟨rfl, hZ, hh⟩ := hP
  have hx := Bd.exec
  have hby := Bd.bytes
  have hlk : meth.locks = false := BodyLoose.notSynchronized Bd
  have hml : c.maxLocals = 2 := hml0
  have hown : s.vm.findClass "java/lang/String" = some m.cls := findClass_of_methodNamed Bd.named
  have hnm := (name_of_methodNamed Bd.named Bd.method).1
  have X0 : Stand p l e ({ frames := 1, cells := 0, slots := 0, locals := 14 } : Room) s m #[(.int p6_0), (.int p6_1)] below meth c s₁ [] 0 0 := Stand.of_body Bd
  have e0 : s₁.heap = h0 := by rw [← hh, Bd.state]; rfl
  have N0 := Fr.nil n0
  show own_Go p e below (own_P s below ({ frames := 1, cells := 0, slots := 0, locals := 14 } : Room) (own_Q6 Z p6_0 p6_1 fm h0 n0)) s₁ (entryFrame m #[(.int p6_0), (.int p6_1)] 2)
  refine own_in (own_ef6 m p6_0 p6_1) ?_
  refine own_by (T' := s₁) (g' := (mkF m 2 #[.val (.int p6_0), .val (.int p6_1)] [(.int p6_1), (.int p6_0)])) (fun t k => ?_) ?_
  · show Steps p.tables e below (s₁.setTop (mkF m 0 #[.val (.int p6_0), .val (.int p6_1)] [])) t
    refine XS.iloadN X0.here hx rfl (hb hby d6_0) rfl ?_
    show Steps p.tables e below (s₁.setTop (mkF m 1 #[.val (.int p6_0), .val (.int p6_1)] [(.int p6_0)])) t
    refine XS.iloadN X0.here hx rfl (hb hby d6_1) rfl ?_
    show Steps p.tables e below (s₁.setTop (mkF m 2 #[.val (.int p6_0), .val (.int p6_1)] [(.int p6_1), (.int p6_0)])) t
    exact k
  obtain ⟨T9, X9, e9, st9⟩ := getS2 X0 hx hZ hown (host := "") (Or.inl (hw _ (List.mem_of_getElem? (i := 37) rfl))) Via.refl e0 (SFm.ext O0.2) (g := (mkF m 2 #[.val (.int p6_0), .val (.int p6_1)] [(.int p6_1), (.int p6_0)])) rfl (hb hby d6_2)
  refine own_by (T' := T9) (g' := (mkF m 5 #[.val (.int p6_0), .val (.int p6_1)] [fm, (.int p6_1), (.int p6_0)])) st9 ?_
  obtain ⟨v10, _, ⟨T10, L10, k10, n10⟩, -, X10, ⟨Lc10, hQ10, l10, y10, z10⟩, st10⟩ := Jvm.LawKit.callS X9 hx (y := (⟨"jdk/internal/util/Preconditions", "checkIndex", "(IILjava/util/function/BiFunction;)I"⟩ : MethodName)) hown (mvT hZ (hw _ (List.mem_of_getElem? (i := 39) rfl))) (mvT hZ (hw _ (List.mem_of_getElem? (i := 40) rfl))) (mvT hZ (hw _ (List.mem_of_getElem? (i := 38) rfl))) (mvT hZ (hw _ (List.mem_of_getElem? (i := 41) rfl))) (by decide) (backOf (W := 0) (own_rm7 l Z a0 hw [] p6_0 p6_1 fm h0 n0 Z0 HFm HB) hZ (hw _ (List.mem_of_getElem? (i := 41) rfl)) (hw _ (List.mem_of_getElem? (i := 38) rfl)) (by decide) (by decide)) (g := (mkF m 5 #[.val (.int p6_0), .val (.int p6_1)] [fm, (.int p6_1), (.int p6_0)])) rfl (by rw [hml]; rfl) (argsL := [(.int p6_0), (.int p6_1), fm]) (rest := []) (lenOf pd__IILjava_util_function_BiFunction__I rfl) rfl (by show 2 * 0 + _ ≤ _; exact Nat.le_of_eq rfl) (hb hby d6_5) (fun _ _ => ⟨rfl, e9, (by decide : 0 + 0 ≤ _), (by decide : 0 + 0 ≤ _)⟩)
  dsimp only [Pt.U, Pt.locs, Pt.cells, Pt.slots] at X10 l10 y10 z10 st10 hQ10
  subst y10 z10
  obtain ⟨rfl, M10, e10⟩ := hQ10
  have N11 : Fr n0 L10 := by rw [l10]; exact Fr.app N0 M10
  refine own_by (T' := T10) (g' := (mkF m 8 #[.val (.int p6_0), .val (.int p6_1)] [(.int (own_F7 p6_0 p6_1))])) st10 ?_
  refine own_by (T' := T10) (g' := (mkF m 9 #[.val (.int p6_0), .val (.int p6_1)] [])) (fun t k => ?_) ?_
  · show Steps p.tables e below (T10.setTop (mkF m 8 #[.val (.int p6_0), .val (.int p6_1)] [(.int (own_F7 p6_0 p6_1))])) t
    refine XS.pop X10.here hx rfl (hb hby d6_8) rfl rfl ?_
    show Steps p.tables e below (T10.setTop (mkF m 9 #[.val (.int p6_0), .val (.int p6_1)] [])) t
    exact k
  exact own_ret0 X10 hx Bd.returns (hb hby d6_9) hlk (by decide) (by decide) ⟨rfl, N11, e10⟩
theorem d5_0 : decode jdk_43_method_2_code 0 = .ok (.iload_n 1, 1) := by decide +kernel
theorem d5_1 : decode jdk_43_method_2_code 1 = .ok (.aload_n 0, 1) := by decide +kernel
theorem d5_2 : decode jdk_43_method_2_code 2 = .ok (.arraylength, 1) := by decide +kernel
theorem d5_3 : decode jdk_43_method_2_code 3 = .ok (.invokestatic 9, 3) := by decide +kernel
theorem pd__II_V : parseMethodDescriptor "(II)V" = some ⟨[.int, .int], none⟩ := by decide +kernel
theorem d5_6 : decode jdk_43_method_2_code 6 = .ok (.aload_n 0, 1) := by decide +kernel
theorem d5_7 : decode jdk_43_method_2_code 7 = .ok (.iload_n 1, 1) := by decide +kernel
theorem d5_8 : decode jdk_43_method_2_code 8 = .ok (.baload, 1) := by decide +kernel
theorem d5_9 : decode jdk_43_method_2_code 9 = .ok (.sipush 255, 3) := by decide +kernel
theorem d5_12 : decode jdk_43_method_2_code 12 = .ok (.iand, 1) := by decide +kernel
theorem d5_13 : decode jdk_43_method_2_code 13 = .ok (.i2c, 1) := by decide +kernel
theorem d5_14 : decode jdk_43_method_2_code 14 = .ok (.ireturn, 1) := by decide +kernel
theorem pn_java_lang_StringLatin1 : plainName "java/lang/StringLatin1" = true := by first | (simp [plainName, overriddenIn]; done) | decide +kernel
def own_T5_8 : List Int32 := [(49 : Int32), (50 : Int32), (51 : Int32), (52 : Int32), (53 : Int32), (54 : Int32), (55 : Int32), (56 : Int32), (57 : Int32), (65 : Int32), (66 : Int32), (67 : Int32), (68 : Int32), (69 : Int32), (70 : Int32), (71 : Int32), (72 : Int32), (73 : Int32), (74 : Int32), (75 : Int32), (76 : Int32), (77 : Int32), (78 : Int32), (79 : Int32), (80 : Int32), (81 : Int32), (82 : Int32), (83 : Int32), (84 : Int32), (85 : Int32), (86 : Int32), (87 : Int32), (88 : Int32), (89 : Int32), (90 : Int32)]
def own_F5 (p5_1 : Int32) : Int32 := (nar .char (((own_T5_8.getD (p5_1).toNatClampNeg (0 : Int32)) &&& (255 : Int32)).toUInt32.toUInt16.toUInt32.toInt32))
theorem own_ef5 (m : MethodId) (x0 : Addr) (x1 : Int32) : entryFrame m #[(.ref x0), (.int x1)] 2 = mkF m 0 #[.val (.ref x0), .val (.int x1)] [] := by first | (simp [entryFrame, mkF, argsToLocals, Value.category]; done) | rfl
def own_Q5 (r : Int32) (h0 : Heap) (n0 : Nat) (v : Option Value) (h : Heap) (L : List Loc) : Prop := v = some (.int r) ∧ Fr n0 L ∧ h = h0
set_option maxRecDepth 65536 in
set_option maxHeartbeats 40000000 in
theorem own_rm5 (l : Launch) (Z : State) (a0 : Array Value) (hw : ∀ d ∈ tables_1, d.before a0 Z = true) (ws : List Jvm.Cond) (a5_0 : Addr) (p5_1 : Int32) (kb : ClassId) (fm : Value) (h0 : Heap) (n0 : Nat) (Z0 : n0 ≤ h0.size) (O0 : Old Z n0 h0) (HA : Arv Z h0 a5_0 kb .byte (35 : Int32) [(.int (49 : Int32)), (.int (50 : Int32)), (.int (51 : Int32)), (.int (52 : Int32)), (.int (53 : Int32)), (.int (54 : Int32)), (.int (55 : Int32)), (.int (56 : Int32)), (.int (57 : Int32)), (.int (65 : Int32)), (.int (66 : Int32)), (.int (67 : Int32)), (.int (68 : Int32)), (.int (69 : Int32)), (.int (70 : Int32)), (.int (71 : Int32)), (.int (72 : Int32)), (.int (73 : Int32)), (.int (74 : Int32)), (.int (75 : Int32)), (.int (76 : Int32)), (.int (77 : Int32)), (.int (78 : Int32)), (.int (79 : Int32)), (.int (80 : Int32)), (.int (81 : Int32)), (.int (82 : Int32)), (.int (83 : Int32)), (.int (84 : Int32)), (.int (85 : Int32)), (.int (86 : Int32)), (.int (87 : Int32)), (.int (88 : Int32)), (.int (89 : Int32)), (.int (90 : Int32))] (.int 0)) (HB : ¬ p5_1 < 0 ∧ p5_1 < (35 : Int32)) (SFm : Sta Z Z.heap "jdk/internal/util/Preconditions" "SIOOBE_FORMATTER" "Ljava/util/function/BiFunction;" fm) (HFm : fm.isRef = true) :
    MetFree l (⟨"java/lang/StringLatin1", "charAt", "([BI)C"⟩ : MethodName) (head1 (Jvm.Cond.code (⟨"java/lang/StringLatin1", "charAt", "([BI)C"⟩ : MethodName) jdk_43_method_2_code 2 (some .char) :: ws) ({ frames := 2, cells := 0, slots := 0, locals := 27 } : Room)) (fun a U => a = #[(.ref a5_0), (.int p5_1)] ∧ Z.Warmed39 U.vm ∧ U.heap = h0) (fun _ _ _ _ _ => True) (fun _ U o U' => ∃ v L, o = .returned v ∧ own_Q5 (own_F5 p5_1) h0 n0 v U'.heap L ∧ FrameEnd U o U' L ({ frames := 2, cells := 0, slots := 0, locals := 27 } : Room).cells ({ frames := 2, cells := 0, slots := 0, locals := 27 } : Room).slots) := by
  refine MetFree.of_bodySF (plainFor_of_name pn_java_lang_StringLatin1) hisR ?_
  intro p e s m args below meth c s₁ Bd hml0 hP hK
  obtain ⟨rfl, hZ, hh⟩ := hP
  have hx := Bd.exec
  have hby := Bd.bytes
  have hlk : meth.locks = false := BodyLoose.notSynchronized Bd
  have hml : c.maxLocals = 2 := hml0
  have hown : s.vm.findClass "java/lang/StringLatin1" = some m.cls := findClass_of_methodNamed Bd.named
  have hnm := (name_of_methodNamed Bd.named Bd.method).1
  have X0 : Stand p l e ({ frames := 2, cells := 0, slots := 0, locals := 27 } : Room) s m #[(.ref a5_0), (.int p5_1)] below meth c s₁ [] 0 0 := Stand.of_body Bd
  have e0 : s₁.heap = h0 := by rw [← hh, Bd.state]; rfl
  have N0 := Fr.nil n0
  show own_Go p e below (own_P s below ({ frames := 2, cells := 0, slots := 0, locals := 27 } : Room) (own_Q5 (own_F5 p5_1) h0 n0)) s₁ (entryFrame m #[(.ref a5_0), (.int p5_1)] 2)
  refine own_in (own_ef5 m a5_0 p5_1) ?_
  refine own_by (T' := s₁) (g' := (mkF m 2 #[.val (.ref a5_0), .val (.int p5_1)] [(.ref a5_0), (.int p5_1)])) (fun t k => ?_) ?_
  · show Steps p.tables e below (s₁.setTop (mkF m 0 #[.val (.ref a5_0), .val (.int p5_1)] [])) t
    refine XS.iloadN X0.here hx rfl (hb hby d5_0) rfl ?_
    show Steps p.tables e below (s₁.setTop (mkF m 1 #[.val (.ref a5_0), .val (.int p5_1)] [(.int p5_1)])) t
    refine XS.aloadN X0.here hx rfl (hb hby d5_1) rfl rfl ?_
    show Steps p.tables e below (s₁.setTop (mkF m 2 #[.val (.ref a5_0), .val (.int p5_1)] [(.ref a5_0), (.int p5_1)])) t
    exact k
  obtain ⟨cl12, Ar12, q12, S12, N12, H12, G12⟩ := id HA
  refine own_by (T' := s₁) (g' := (mkF m 3 #[.val (.ref a5_0), .val (.int p5_1)] [(.int (35 : Int32)), (.int p5_1)])) (fun t k => X0.arraylength hx (by rw [e0]; exact Ar12.1) (State.isArrayOf_alike hZ.alike Ar12.2.1) (g := (mkF m 2 #[.val (.ref a5_0), .val (.int p5_1)] [(.ref a5_0), (.int p5_1)])) rfl rfl (hb hby d5_2) t (by rw [len_of S12 N12]; exact k)) ?_
  obtain ⟨v13, _, ⟨T13, L13, k13, n13⟩, -, X13, ⟨Lc13, hQ13, l13, y13, z13⟩, st13⟩ := Jvm.LawKit.callS X0 hx (y := (⟨"java/lang/String", "checkIndex", "(II)V"⟩ : MethodName)) hown (mvT hZ (hw _ (List.mem_of_getElem? (i := 34) rfl))) (mvT hZ (hw _ (List.mem_of_getElem? (i := 35) rfl))) (mvT hZ (hw _ (List.mem_of_getElem? (i := 10) rfl))) (mvT hZ (hw _ (List.mem_of_getElem? (i := 36) rfl))) (by decide) (backOf (W := 0) (own_rm6 l Z a0 hw [] p5_1 (35 : Int32) fm h0 n0 Z0 O0 HB SFm HFm) hZ (hw _ (List.mem_of_getElem? (i := 36) rfl)) (hw _ (List.mem_of_getElem? (i := 10) rfl)) (by decide) (by decide)) (g := (mkF m 3 #[.val (.ref a5_0), .val (.int p5_1)] [(.int (35 : Int32)), (.int p5_1)])) rfl (by rw [hml]; rfl) (argsL := [(.int p5_1), (.int (35 : Int32))]) (rest := []) (lenOf pd__II_V rfl) rfl (by show 2 * 0 + _ ≤ _; exact Nat.le_of_eq rfl) (hb hby d5_3) (fun _ _ => ⟨rfl, e0, (by decide : 0 + 0 ≤ _), (by decide : 0 + 0 ≤ _)⟩)
  dsimp only [Pt.U, Pt.locs, Pt.cells, Pt.slots] at X13 l13 y13 z13 st13 hQ13
  subst y13 z13
  obtain ⟨rfl, M13, e13⟩ := hQ13
  have N14 : Fr n0 L13 := by rw [l13]; exact Fr.app N0 M13
  refine own_by (T' := T13) (g' := (mkF m 6 #[.val (.ref a5_0), .val (.int p5_1)] [])) st13 ?_
  refine own_by (T' := T13) (g' := (mkF m 8 #[.val (.ref a5_0), .val (.int p5_1)] [(.int p5_1), (.ref a5_0)])) (fun t k => ?_) ?_
  · show Steps p.tables e below (T13.setTop (mkF m 6 #[.val (.ref a5_0), .val (.int p5_1)] [])) t
    refine XS.aloadN X13.here hx rfl (hb hby d5_6) rfl rfl ?_
    show Steps p.tables e below (T13.setTop (mkF m 7 #[.val (.ref a5_0), .val (.int p5_1)] [(.ref a5_0)])) t
    refine XS.iloadN X13.here hx rfl (hb hby d5_7) rfl ?_
    show Steps p.tables e below (T13.setTop (mkF m 8 #[.val (.ref a5_0), .val (.int p5_1)] [(.int p5_1), (.ref a5_0)])) t
    exact k
  obtain ⟨cl15, Ar15, q15, S15, N15, H15, G15⟩ := id HA
  have hin15 := inb_of S15 (j := p5_1) HB
  refine own_by (T' := T13) (g' := (mkF m 9 #[.val (.ref a5_0), .val (.int p5_1)] [(.int (own_T5_8.getD (p5_1).toNatClampNeg (0 : Int32)))])) (fun t k => X13.baloadBytes hx (j := p5_1) (v := (.int (own_T5_8.getD (p5_1).toNatClampNeg (0 : Int32)))) (by rw [e13]; exact Ar15.1) (State.isArrayOf_alike hZ.alike Ar15.2.1) Ar15.2.2 hin15 (H15.at hin15 (own_tab own_T5_8 (0 : Int32) _)) (g := (mkF m 8 #[.val (.ref a5_0), .val (.int p5_1)] [(.int p5_1), (.ref a5_0)])) rfl rfl (hb hby d5_8) t k) ?_
  refine own_by (T' := T13) (g' := (mkF m 14 #[.val (.ref a5_0), .val (.int p5_1)] [(.int (((own_T5_8.getD (p5_1).toNatClampNeg (0 : Int32)) &&& (255 : Int32)).toUInt32.toUInt16.toUInt32.toInt32))])) (fun t k => ?_) ?_
  · show Steps p.tables e below (T13.setTop (mkF m 9 #[.val (.ref a5_0), .val (.int p5_1)] [(.int (own_T5_8.getD (p5_1).toNatClampNeg (0 : Int32)))])) t
    refine XS.sipush X13.here hx rfl (hb hby d5_9) ?_
    show Steps p.tables e below (T13.setTop (mkF m 12 #[.val (.ref a5_0), .val (.int p5_1)] [(.int (255 : Int32)), (.int (own_T5_8.getD (p5_1).toNatClampNeg (0 : Int32)))])) t
    refine XS.iand X13.here hx rfl (hb hby d5_12) rfl ?_
    show Steps p.tables e below (T13.setTop (mkF m 13 #[.val (.ref a5_0), .val (.int p5_1)] [(.int ((own_T5_8.getD (p5_1).toNatClampNeg (0 : Int32)) &&& (255 : Int32)))])) t
    refine XS.i2c X13.here hx rfl (hb hby d5_13) rfl ?_
    show Steps p.tables e below (T13.setTop (mkF m 14 #[.val (.ref a5_0), .val (.int p5_1)] [(.int (((own_T5_8.getD (p5_1).toNatClampNeg (0 : Int32)) &&& (255 : Int32)).toUInt32.toUInt16.toUInt32.toInt32))])) t
    exact k
  rw [show own_F5 p5_1 = (nar .char (((own_T5_8.getD (p5_1).toNatClampNeg (0 : Int32)) &&& (255 : Int32)).toUInt32.toUInt16.toUInt32.toInt32)) from rfl]
  exact own_retN X13 hx (t := .char) Bd.returns (by simp) (hb hby d5_14) hlk (by decide) (by decide) ⟨rfl, N14, e13⟩
theorem d4_0 : decode jdk_42_method_154_code 0 = .ok (.getstatic 38, 3) := by decide +kernel
theorem d4_3 : decode jdk_42_method_154_code 3 = .ok (.ifCond .eq 14, 3) := by decide +kernel
theorem d4_6 : decode jdk_42_method_154_code 6 = .ok (.aload_n 0, 1) := by decide +kernel
theorem d4_7 : decode jdk_42_method_154_code 7 = .ok (.getfield 15, 3) := by decide +kernel
theorem d4_10 : decode jdk_42_method_154_code 10 = .ok (.ifCond .ne 7, 3) := by decide +kernel
theorem d4_13 : decode jdk_42_method_154_code 13 = .ok (.iconst 1, 1) := by decide +kernel
theorem d4_14 : decode jdk_42_method_154_code 14 = .ok (.goto 4, 3) := by decide +kernel
theorem d4_18 : decode jdk_42_method_154_code 18 = .ok (.ireturn, 1) := by decide +kernel
def own_F4  : Int32 := (1 : Int32)
theorem own_ef4 (m : MethodId) (x0 : Addr) : entryFrame m #[(.ref x0)] 1 = mkF m 0 #[.val (.ref x0)] [] := by first | (simp [entryFrame, mkF, argsToLocals, Value.category]; done) | rfl
def own_Q4 (r : Int32) (h0 : Heap) (n0 : Nat) (v : Option Value) (h : Heap) (L : List Loc) : Prop := v = some (.int r) ∧ Fr n0 L ∧ h = h0
set_option maxRecDepth 65536 in
set_option maxHeartbeats 40000000 in
theorem own_rm4 (l : Launch) (Z : State) (a0 : Array Value) (hw : ∀ d ∈ tables_1, d.before a0 Z = true) (ws : List Jvm.Cond) (a4_0 : Addr) (cs : Int32) (h0 : Heap) (n0 : Nat) (Z0 : n0 ≤ h0.size) (O0 : Old Z n0 h0) (F_coder_a4_0 : Fld Z h0 a4_0 "java/lang/String" "coder" "B" (.int (0 : Int32))) (SC : Sta Z Z.heap "java/lang/String" "COMPACT_STRINGS" "Z" (.int cs)) (HCS : ¬ (cs = (0 : Int32))) :
    MetFree l (⟨"java/lang/String", "isLatin1", "()Z"⟩ : MethodName) (head1 (Jvm.Cond.code (⟨"java/lang/String", "isLatin1", "()Z"⟩ : MethodName) jdk_42_method_154_code 1 (some .boolean) :: ws) ({ frames := 0, cells := 0, slots := 0, locals := 0 } : Room)) (fun a U => a = #[(.ref a4_0)] ∧ Z.Warmed39 U.vm ∧ U.heap = h0) (fun _ _ _ _ _ => True) (fun _ U o U' => ∃ v L, o = .returned v ∧ own_Q4 (own_F4) h0 n0 v U'.heap L ∧ FrameEnd U o U' L ({ frames := 0, cells := 0, slots := 0, locals := 0 } : Room).cells ({ frames := 0, cells := 0, slots := 0, locals := 0 } : Room).slots) := by
  refine MetFree.of_bodySF (plainFor_of_name pn_java_lang_String) hisR ?_
  intro p e s m args below meth c s₁ Bd hml0 hP hK
  obtain ⟨rfl, hZ, hh⟩ := hP
  have hx := Bd.exec
  have hby := Bd.bytes
  have hlk : meth.locks = false := BodyLoose.notSynchronized Bd
  have hml : c.maxLocals = 1 := hml0
  have hown : s.vm.findClass "java/lang/String" = some m.cls := findClass_of_methodNamed Bd.named
  have hnm := (name_of_methodNamed Bd.named Bd.method).1
  have X0 : Stand p l e ({ frames := 0, cells := 0, slots := 0, locals := 0 } : Room) s m #[(.ref a4_0)] below meth c s₁ [] 0 0 := Stand.of_body Bd
  have e0 : s₁.heap = h0 := by rw [← hh, Bd.state]; rfl
  have N0 := Fr.nil n0
  show own_Go p e below (own_P s below ({ frames := 0, cells := 0, slots := 0, locals := 0 } : Room) (own_Q4 (own_F4) h0 n0)) s₁ (entryFrame m #[(.ref a4_0)] 1)
  refine own_in (own_ef4 m a4_0) ?_
  obtain ⟨T16, X16, e16, st16⟩ := getS2 X0 hx hZ hown (host := "") (Or.inl (hw _ (List.mem_of_getElem? (i := 27) rfl))) Via.refl e0 (SC.ext O0.2) (g := (mkF m 0 #[.val (.ref a4_0)] [])) rfl (hb hby d4_0)
  refine own_by (T' := T16) (g' := (mkF m 3 #[.val (.ref a4_0)] [(.int cs)])) st16 ?_
  refine own_by (T' := T16) (g' := (mkF m 7 #[.val (.ref a4_0)] [(.ref a4_0)])) (fun t k => ?_) ?_
  · show Steps p.tables e below (T16.setTop (mkF m 3 #[.val (.ref a4_0)] [(.int cs)])) t
    refine XS.ifNo X16.here hx rfl (hb hby d4_3) rfl ((if0 _ _).trans (feq HCS).1) ?_
    show Steps p.tables e below (T16.setTop (mkF m 6 #[.val (.ref a4_0)] [])) t
    refine XS.aloadN X16.here hx rfl (hb hby d4_6) rfl rfl ?_
    show Steps p.tables e below (T16.setTop (mkF m 7 #[.val (.ref a4_0)] [(.ref a4_0)])) t
    exact k
  obtain ⟨T17, X17, e17, st17⟩ := getF X16 hx hZ hown (host := "") (Or.inl (hw _ (List.mem_of_getElem? (i := 28) rfl))) Via.refl e16 F_coder_a4_0 (g := (mkF m 7 #[.val (.ref a4_0)] [(.ref a4_0)])) rfl rfl (hb hby d4_7)
  refine own_by (T' := T17) (g' := (mkF m 10 #[.val (.ref a4_0)] [(.int (0 : Int32))])) st17 ?_
  refine own_by (T' := T17) (g' := (mkF m 18 #[.val (.ref a4_0)] [(.int (1 : Int32))])) (fun t k => ?_) ?_
  · show Steps p.tables e below (T17.setTop (mkF m 10 #[.val (.ref a4_0)] [(.int (0 : Int32))])) t
    refine XS.ifNo X17.here hx rfl (hb hby d4_10) rfl ((if0 _ _).trans (teq (by decide : (0 : Int32) = (0 : Int32))).2) ?_
    show Steps p.tables e below (T17.setTop (mkF m 13 #[.val (.ref a4_0)] [])) t
    refine XS.iconst X17.here hx rfl (hb hby d4_13) ?_
    show Steps p.tables e below (T17.setTop (mkF m 14 #[.val (.ref a4_0)] [(.int (1 : Int32))])) t
    refine XS.goto X17.here hx rfl (pc0 := 14) (pc' := 18) rfl (hb hby d4_14) (by decide) (by decide) ?_
    show Steps p.tables e below (T17.setTop (mkF m 18 #[.val (.ref a4_0)] [(.int (1 : Int32))])) t
    exact k
  rw [show own_F4 = (1 : Int32) from rfl]
  exact own_retN X17 hx (t := .boolean) Bd.returns (by simp) (hb hby d4_18) hlk (by decide) (by decide) ⟨rfl, N0, e17⟩
theorem d3_0 : decode jdk_42_method_56_code 0 = .ok (.aload_n 0, 1) := by decide +kernel
theorem d3_1 : decode jdk_42_method_56_code 1 = .ok (.invokevirtual 492, 3) := by decide +kernel
theorem pd___Z : parseMethodDescriptor "()Z" = some ⟨[], some .boolean⟩ := by decide +kernel
theorem d3_4 : decode jdk_42_method_56_code 4 = .ok (.ifCond .eq 12, 3) := by decide +kernel
theorem d3_7 : decode jdk_42_method_56_code 7 = .ok (.aload_n 0, 1) := by decide +kernel
theorem d3_8 : decode jdk_42_method_56_code 8 = .ok (.getfield 9, 3) := by decide +kernel
theorem d3_11 : decode jdk_42_method_56_code 11 = .ok (.iload_n 1, 1) := by decide +kernel
theorem d3_12 : decode jdk_42_method_56_code 12 = .ok (.invokestatic 495, 3) := by decide +kernel
theorem pd___BI_C : parseMethodDescriptor "([BI)C" = some ⟨[(.array .byte), .int], some .char⟩ := by decide +kernel
theorem d3_15 : decode jdk_42_method_56_code 15 = .ok (.ireturn, 1) := by decide +kernel
def own_F3 (p3_1 : Int32) : Int32 := (nar .char (own_F5 p3_1))
theorem own_ef3 (m : MethodId) (x0 : Addr) (x1 : Int32) : entryFrame m #[(.ref x0), (.int x1)] 2 = mkF m 0 #[.val (.ref x0), .val (.int x1)] [] := by first | (simp [entryFrame, mkF, argsToLocals, Value.category]; done) | rfl
def own_Q3 (r : Int32) (h0 : Heap) (n0 : Nat) (v : Option Value) (h : Heap) (L : List Loc) : Prop := v = some (.int r) ∧ Fr n0 L ∧ h = h0
set_option maxRecDepth 65536 in
set_option maxHeartbeats 40000000 in
theorem own_rm3 (l : Launch) (Z : State) (a0 : Array Value) (hw : ∀ d ∈ tables_1, d.before a0 Z = true) (ws : List Jvm.Cond) (a3_0 : Addr) (p3_1 : Int32) (kb : ClassId) (w_value_a3_0 : Addr) (cs : Int32) (fm : Value) (h0 : Heap) (n0 : Nat) (Z0 : n0 ≤ h0.size) (O0 : Old Z n0 h0) (HA : Arv Z h0 w_value_a3_0 kb .byte (35 : Int32) [(.int (49 : Int32)), (.int (50 : Int32)), (.int (51 : Int32)), (.int (52 : Int32)), (.int (53 : Int32)), (.int (54 : Int32)), (.int (55 : Int32)), (.int (56 : Int32)), (.int (57 : Int32)), (.int (65 : Int32)), (.int (66 : Int32)), (.int (67 : Int32)), (.int (68 : Int32)), (.int (69 : Int32)), (.int (70 : Int32)), (.int (71 : Int32)), (.int (72 : Int32)), (.int (73 : Int32)), (.int (74 : Int32)), (.int (75 : Int32)), (.int (76 : Int32)), (.int (77 : Int32)), (.int (78 : Int32)), (.int (79 : Int32)), (.int (80 : Int32)), (.int (81 : Int32)), (.int (82 : Int32)), (.int (83 : Int32)), (.int (84 : Int32)), (.int (85 : Int32)), (.int (86 : Int32)), (.int (87 : Int32)), (.int (88 : Int32)), (.int (89 : Int32)), (.int (90 : Int32))] (.int 0)) (HB : ¬ p3_1 < 0 ∧ p3_1 < (35 : Int32)) (E_a3_0 : Exa Z h0 a3_0 "java/lang/String") (F_coder_a3_0 : Fld Z h0 a3_0 "java/lang/String" "coder" "B" (.int (0 : Int32))) (F_value_a3_0 : Fld Z h0 a3_0 "java/lang/String" "value" "[B" (.ref w_value_a3_0)) (SC : Sta Z Z.heap "java/lang/String" "COMPACT_STRINGS" "Z" (.int cs)) (HCS : ¬ (cs = (0 : Int32))) (SFm : Sta Z Z.heap "jdk/internal/util/Preconditions" "SIOOBE_FORMATTER" "Ljava/util/function/BiFunction;" fm) (HFm : fm.isRef = true) :
    MetFree l (⟨"java/lang/String", "charAt", "(I)C"⟩ : MethodName) (head1 (Jvm.Cond.code (⟨"java/lang/String", "charAt", "(I)C"⟩ : MethodName) jdk_42_method_56_code 2 (some .char) :: ws) ({ frames := 3, cells := 0, slots := 0, locals := 40 } : Room)) (fun a U => a = #[(.ref a3_0), (.int p3_1)] ∧ Z.Warmed39 U.vm ∧ U.heap = h0) (fun _ _ _ _ _ => True) (fun _ U o U' => ∃ v L, o = .returned v ∧ own_Q3 (own_F3 p3_1) h0 n0 v U'.heap L ∧ FrameEnd U o U' L ({ frames := 3, cells := 0, slots := 0, locals := 40 } : Room).cells ({ frames := 3, cells := 0, slots := 0, locals := 40 } : Room).slots) := by
  refine MetFree.of_bodySF (plainFor_of_name pn_java_lang_String) hisR ?_
  intro p e s m args below meth c s₁ Bd hml0 hP hK
  obtain ⟨rfl, hZ, hh⟩ := hP
  have hx := Bd.exec
  have hby := Bd.bytes
  have hlk : meth.locks = false := BodyLoose.notSynchronized Bd
  have hml : c.maxLocals = 2 := hml0
  have hown : s.vm.findClass "java/lang/String" = some m.cls := findClass_of_methodNamed Bd.named
  have hnm := (name_of_methodNamed Bd.named Bd.method).1
  have X0 : Stand p l e ({ frames := 3, cells := 0, slots := 0, locals := 40 } : Room) s m #[(.ref a3_0), (.int p3_1)] below meth c s₁ [] 0 0 := Stand.of_body Bd
  have e0 : s₁.heap = h0 := by rw [← hh, Bd.state]; rfl
  have N0 := Fr.nil n0
  show own_Go p e below (own_P s below ({ frames := 3, cells := 0, slots := 0, locals := 40 } : Room) (own_Q3 (own_F3 p3_1) h0 n0)) s₁ (entryFrame m #[(.ref a3_0), (.int p3_1)] 2)
  refine own_in (own_ef3 m a3_0 p3_1) ?_
  refine own_by (T' := s₁) (g' := (mkF m 1 #[.val (.ref a3_0), .val (.int p3_1)] [(.ref a3_0)])) (fun t k => ?_) ?_
  · show Steps p.tables e below (s₁.setTop (mkF m 0 #[.val (.ref a3_0), .val (.int p3_1)] [])) t
    refine XS.aloadN X0.here hx rfl (hb hby d3_0) rfl rfl ?_
    show Steps p.tables e below (s₁.setTop (mkF m 1 #[.val (.ref a3_0), .val (.int p3_1)] [(.ref a3_0)])) t
    exact k
  obtain ⟨cq18, kq18, q18a, q18b, q18c⟩ := isOf hZ e0 E_a3_0
  obtain ⟨v18, _, ⟨T18, L18, k18, n18⟩, -, X18, ⟨Lc18, hQ18, l18, y18, z18⟩, st18⟩ := X0.virtualBack hx (y := (⟨"java/lang/String", "isLatin1", "()Z"⟩ : MethodName)) (z := (⟨"java/lang/String", "isLatin1", "()Z"⟩ : MethodName)) hown (mvT hZ (hw _ (List.mem_of_getElem? (i := 22) rfl))) (mvT hZ (hw _ (List.mem_of_getElem? (i := 23) rfl))) (notFace_of_selects (args := #[]) (mvT hZ (hw _ (List.mem_of_getElem? (i := 25) rfl)))) (mvT hZ (hw _ (List.mem_of_getElem? (i := 25) rfl))) (mvT hZ (hw _ (List.mem_of_getElem? (i := 24) rfl))) (by decide) (backOf (W := 0) (own_rm4 l Z a0 hw [] a3_0 cs h0 n0 Z0 O0 F_coder_a3_0 SC HCS) hZ (hw _ (List.mem_of_getElem? (i := 26) rfl)) (hw _ (List.mem_of_getElem? (i := 10) rfl)) (by decide) (by decide)) q18a q18c (g := (mkF m 1 #[.val (.ref a3_0), .val (.int p3_1)] [(.ref a3_0)])) rfl (by rw [hml]; rfl) (Steps.refl _) (argsL := []) (rest := []) (lenOf pd___Z rfl) rfl (by show 2 * 0 + _ ≤ _; exact Nat.le_of_eq rfl) (hb hby d3_1) (fun _ _ => ⟨rfl, e0, (by decide : 0 + 0 ≤ _), (by decide : 0 + 0 ≤ _)⟩)
  dsimp only [Pt.U, Pt.locs, Pt.cells, Pt.slots] at X18 l18 y18 z18 st18 hQ18
  subst y18 z18
  obtain ⟨rfl, M18, e18⟩ := hQ18
  have N19 : Fr n0 L18 := by rw [l18]; exact Fr.app N0 M18
  refine own_via (T' := T18) (g' := (mkF m 4 #[.val (.ref a3_0), .val (.int p3_1)] [(.int (own_F4))])) st18 ?_
  refine own_by (T' := T18) (g' := (mkF m 8 #[.val (.ref a3_0), .val (.int p3_1)] [(.ref a3_0)])) (fun t k => ?_) ?_
  · show Steps p.tables e below (T18.setTop (mkF m 4 #[.val (.ref a3_0), .val (.int p3_1)] [(.int (own_F4))])) t
    refine XS.ifNo X18.here hx rfl (hb hby d3_4) rfl ((if0 _ _).trans (feq (by decide : ¬ ((own_F4) = (0 : Int32)))).1) ?_
    show Steps p.tables e below (T18.setTop (mkF m 7 #[.val (.ref a3_0), .val (.int p3_1)] [])) t
    refine XS.aloadN X18.here hx rfl (hb hby d3_7) rfl rfl ?_
    show Steps p.tables e below (T18.setTop (mkF m 8 #[.val (.ref a3_0), .val (.int p3_1)] [(.ref a3_0)])) t
    exact k
  obtain ⟨T20, X20, e20, st20⟩ := getF X18 hx hZ hown (host := "") (Or.inl (hw _ (List.mem_of_getElem? (i := 29) rfl))) Via.refl e18 F_value_a3_0 (g := (mkF m 8 #[.val (.ref a3_0), .val (.int p3_1)] [(.ref a3_0)])) rfl rfl (hb hby d3_8)
  refine own_by (T' := T20) (g' := (mkF m 11 #[.val (.ref a3_0), .val (.int p3_1)] [(.ref w_value_a3_0)])) st20 ?_
  refine own_by (T' := T20) (g' := (mkF m 12 #[.val (.ref a3_0), .val (.int p3_1)] [(.int p3_1), (.ref w_value_a3_0)])) (fun t k => ?_) ?_
  · show Steps p.tables e below (T20.setTop (mkF m 11 #[.val (.ref a3_0), .val (.int p3_1)] [(.ref w_value_a3_0)])) t
    refine XS.iloadN X20.here hx rfl (hb hby d3_11) rfl ?_
    show Steps p.tables e below (T20.setTop (mkF m 12 #[.val (.ref a3_0), .val (.int p3_1)] [(.int p3_1), (.ref w_value_a3_0)])) t
    exact k
  obtain ⟨v21, _, ⟨T21, L21, k21, n21⟩, -, X21, ⟨Lc21, hQ21, l21, y21, z21⟩, st21⟩ := Jvm.LawKit.callS X20 hx (y := (⟨"java/lang/StringLatin1", "charAt", "([BI)C"⟩ : MethodName)) hown (mvT hZ (hw _ (List.mem_of_getElem? (i := 30) rfl))) (mvT hZ (hw _ (List.mem_of_getElem? (i := 31) rfl))) (mvT hZ (hw _ (List.mem_of_getElem? (i := 32) rfl))) (mvT hZ (hw _ (List.mem_of_getElem? (i := 33) rfl))) (by decide) (backOf (W := 0) (own_rm5 l Z a0 hw [] w_value_a3_0 p3_1 kb fm h0 n0 Z0 O0 HA HB SFm HFm) hZ (hw _ (List.mem_of_getElem? (i := 33) rfl)) (hw _ (List.mem_of_getElem? (i := 32) rfl)) (by decide) (by decide)) (g := (mkF m 12 #[.val (.ref a3_0), .val (.int p3_1)] [(.int p3_1), (.ref w_value_a3_0)])) rfl (by rw [hml]; rfl) (argsL := [(.ref w_value_a3_0), (.int p3_1)]) (rest := []) (lenOf pd___BI_C rfl) rfl (by show 2 * 0 + _ ≤ _; exact Nat.le_of_eq rfl) (hb hby d3_12) (fun _ _ => ⟨rfl, e20, (by decide : 0 + 0 ≤ _), (by decide : 0 + 0 ≤ _)⟩)
  dsimp only [Pt.U, Pt.locs, Pt.cells, Pt.slots] at X21 l21 y21 z21 st21 hQ21
  subst y21 z21
  obtain ⟨rfl, M21, e21⟩ := hQ21
  have N22 : Fr n0 L21 := by rw [l21]; exact Fr.app N19 M21
  refine own_by (T' := T21) (g' := (mkF m 15 #[.val (.ref a3_0), .val (.int p3_1)] [(.int (own_F5 p3_1))])) st21 ?_
  rw [show own_F3 p3_1 = (nar .char (own_F5 p3_1)) from rfl]
  exact own_retN X21 hx (t := .char) Bd.returns (by simp) (hb hby d3_15) hlk (by decide) (by decide) ⟨rfl, N22, e21⟩
theorem own_ascii : (([49, 50, 51, 52, 53, 54, 55, 56, 57, 65, 66, 67, 68, 69, 70, 71, 72, 73, 74, 75, 76, 77, 78, 79, 80, 81, 82, 83, 84, 85, 86, 87, 88, 89, 90] : List Int32).map (fun c => c.toInt8.toInt32)) = own_T := by decide
theorem d2_0 : decode prog_15_method_4_code 0 = .ok (.ldc 21, 2) := by decide +kernel
theorem d2_2 : decode prog_15_method_4_code 2 = .ok (.iload_n 0, 1) := by decide +kernel
theorem d2_3 : decode prog_15_method_4_code 3 = .ok (.iconst 1, 1) := by decide +kernel
theorem d2_4 : decode prog_15_method_4_code 4 = .ok (.isub, 1) := by decide +kernel
theorem d2_5 : decode prog_15_method_4_code 5 = .ok (.invokevirtual 23, 3) := by decide +kernel
theorem pd__I_C : parseMethodDescriptor "(I)C" = some ⟨[.int], some .char⟩ := by decide +kernel
theorem d2_8 : decode prog_15_method_4_code 8 = .ok (.ireturn, 1) := by decide +kernel
def own_F2 (p2_0 : Int32) : Int32 := (nar .char (own_F3 (p2_0 - (1 : Int32))))
theorem own_ef2 (m : MethodId) (x0 : Int32) : entryFrame m #[(.int x0)] 1 = mkF m 0 #[.val (.int x0)] [] := by first | (simp [entryFrame, mkF, argsToLocals, Value.category]; done) | rfl
def own_Q2 (r : Int32) (h0 : Heap) (n0 : Nat) (v : Option Value) (h : Heap) (L : List Loc) : Prop := v = some (.int r) ∧ Fr n0 L ∧ Keep h0 h []
set_option maxRecDepth 65536 in
set_option maxHeartbeats 40000000 in
theorem own_rm2 (l : Launch) (Z : State) (a0 : Array Value) (hw : ∀ d ∈ tables_1, d.before a0 Z = true) (ws : List Jvm.Cond) (p2_0 : Int32) (cs : Int32) (fm : Value) (h0 : Heap) (n0 : Nat) (Z0 : n0 ≤ h0.size) (O0 : Old Z n0 h0) (HB : ¬ p2_0 < 1 ∧ ¬ (35 : Int32) < p2_0) (SC : Sta Z Z.heap "java/lang/String" "COMPACT_STRINGS" "Z" (.int cs)) (HCS : ¬ (cs = (0 : Int32))) (SFm : Sta Z Z.heap "jdk/internal/util/Preconditions" "SIOOBE_FORMATTER" "Ljava/util/function/BiFunction;" fm) (HFm : fm.isRef = true) :
    MetFree l (⟨"com/example/yohokit/yohokit/Counts", "character", "(I)C"⟩ : MethodName) (head1 (Jvm.Cond.code (⟨"com/example/yohokit/yohokit/Counts", "character", "(I)C"⟩ : MethodName) prog_15_method_4_code 1 (some .char) :: ws) ({ frames := 4, cells := 2, slots := 144, locals := 53 } : Room)) (fun a U => a = #[(.int p2_0)] ∧ Z.Warmed39 U.vm ∧ U.heap = h0 ∧ CHv Z consts_1 U.vm h0) (fun _ _ _ _ _ => True) (fun _ U o U' => ∃ v L, o = .returned v ∧ own_Q2 (own_F2 p2_0) h0 n0 v U'.heap L ∧ CHr Z consts_1 U.vm U.heap U'.vm U'.heap ∧ ReturnedEndW U o U' L ({ frames := 4, cells := 2, slots := 144, locals := 53 } : Room).cells ({ frames := 4, cells := 2, slots := 144, locals := 53 } : Room).slots) := by
  refine MetFree.of_bodySF (plainFor_of_name pn_com_example_yohokit_yohokit_Counts) hisR ?_
  intro p e s m args below meth c s₁ Bd hml0 hP hK
  obtain ⟨rfl, hZ, hh, hCH⟩ := hP
  have hx := Bd.exec
  have hby := Bd.bytes
  have hlk : meth.locks = false := BodyLoose.notSynchronized Bd
  have hml : c.maxLocals = 1 := hml0
  have hown : s.vm.findClass "com/example/yohokit/yohokit/Counts" = some m.cls := findClass_of_methodNamed Bd.named
  have hnm := (name_of_methodNamed Bd.named Bd.method).1
  have X0 : Stand p l e ({ frames := 4, cells := 2, slots := 144, locals := 53 } : Room) (s.setVm s.vm) m #[(.int p2_0)] below meth c s₁ [] 0 0 := Stand.of_body Bd
  have e0 : s₁.heap = h0 := by rw [← hh, Bd.state]; rfl
  have N0 := Fr.nil n0
  have hS0 : s.Since s.vm 0 := (State.WarmedH.refl s).since 0
  have hk0 : 0 ≤ h0.size := Nat.zero_le _
  have CR0 : CHr Z consts_1 s.vm h0 s.vm h0 := CHr.refl hCH
  show own_Go p e below (own_PW Z consts_1 s below ({ frames := 4, cells := 2, slots := 144, locals := 53 } : Room) (own_Q2 (own_F2 p2_0) h0 n0)) s₁ (entryFrame m #[(.int p2_0)] 1)
  refine own_in (own_ef2 m p2_0) ?_
  obtain ⟨b23, T23, h23, k123, t23, kb23, X23, e23, E23, hS23, hk23, hZ, hown, fe23, fc23, fv23, fa23, -, -, CR23, -, -, st23⟩ := ldcCH X0 hx hZ hown (hw _ (List.mem_of_getElem? (i := 9) rfl)) (own_atoms hw) e0 hS0 hk0 (own_ew hw) (List.mem_of_getElem? (i := 0) rfl) CR0.1 (vs := (([49, 50, 51, 52, 53, 54, 55, 56, 57, 65, 66, 67, 68, 69, 70, 71, 72, 73, 74, 75, 76, 77, 78, 79, 80, 81, 82, 83, 84, 85, 86, 87, 88, 89, 90] : List Int32).map (fun c => c.toInt8.toInt32)).map Value.int) (z := (35 : Int32)) ⟨by decide, by decide⟩ (by decide) rfl (g := (mkF m 0 #[.val (.int p2_0)] [])) rfl (hb hby d2_0) (n := 140) (by decide) (by decide) (by decide) (by decide)
  have K24 : Keep h0 h23 [] := (Keep.refl h0 []).ext E23
  have O25 := O0.ext E23
  have Z26 := Nat.le_trans Z0 E23.1
  have CQ23 := CR0.trans CR23
  refine own_by (T' := T23) (g' := (mkF m 2 #[.val (.int p2_0)] [(.ref b23)])) st23 ?_
  refine own_by (T' := T23) (g' := (mkF m 5 #[.val (.int p2_0)] [(.int (p2_0 - (1 : Int32))), (.ref b23)])) (fun t k => ?_) ?_
  · show Steps p.tables e below (T23.setTop (mkF m 2 #[.val (.int p2_0)] [(.ref b23)])) t
    refine XS.iloadN X23.here hx rfl (hb hby d2_2) rfl ?_
    show Steps p.tables e below (T23.setTop (mkF m 3 #[.val (.int p2_0)] [(.int p2_0), (.ref b23)])) t
    refine XS.iconst X23.here hx rfl (hb hby d2_3) ?_
    show Steps p.tables e below (T23.setTop (mkF m 4 #[.val (.int p2_0)] [(.int (1 : Int32)), (.int p2_0), (.ref b23)])) t
    refine XS.isub X23.here hx rfl (hb hby d2_4) rfl ?_
    show Steps p.tables e below (T23.setTop (mkF m 5 #[.val (.int p2_0)] [(.int (p2_0 - (1 : Int32))), (.ref b23)])) t
    exact k
  have f27 : Arv Z h23 t23 kb23 .byte (35 : Int32) [(.int (49 : Int32)), (.int (50 : Int32)), (.int (51 : Int32)), (.int (52 : Int32)), (.int (53 : Int32)), (.int (54 : Int32)), (.int (55 : Int32)), (.int (56 : Int32)), (.int (57 : Int32)), (.int (65 : Int32)), (.int (66 : Int32)), (.int (67 : Int32)), (.int (68 : Int32)), (.int (69 : Int32)), (.int (70 : Int32)), (.int (71 : Int32)), (.int (72 : Int32)), (.int (73 : Int32)), (.int (74 : Int32)), (.int (75 : Int32)), (.int (76 : Int32)), (.int (77 : Int32)), (.int (78 : Int32)), (.int (79 : Int32)), (.int (80 : Int32)), (.int (81 : Int32)), (.int (82 : Int32)), (.int (83 : Int32)), (.int (84 : Int32)), (.int (85 : Int32)), (.int (86 : Int32)), (.int (87 : Int32)), (.int (88 : Int32)), (.int (89 : Int32)), (.int (90 : Int32))] (.int 0) := by have q := fa23; rw [own_ascii] at q; exact q
  obtain ⟨cq28, kq28, q28a, q28b, q28c⟩ := isOf hZ e23 fe23
  obtain ⟨v28, _, ⟨T28, L28, k28, n28⟩, -, X28, ⟨Lc28, hQ28, l28, y28, z28⟩, st28⟩ := X23.virtualBack hx (y := (⟨"java/lang/String", "charAt", "(I)C"⟩ : MethodName)) (z := (⟨"java/lang/String", "charAt", "(I)C"⟩ : MethodName)) hown (mvT hZ (hw _ (List.mem_of_getElem? (i := 17) rfl))) (mvT hZ (hw _ (List.mem_of_getElem? (i := 18) rfl))) (notFace_of_selects (args := #[]) (mvT hZ (hw _ (List.mem_of_getElem? (i := 20) rfl)))) (mvT hZ (hw _ (List.mem_of_getElem? (i := 20) rfl))) (mvT hZ (hw _ (List.mem_of_getElem? (i := 19) rfl))) (by decide) (backOf (W := 0) (own_rm3 l Z a0 hw [] b23 (p2_0 - (1 : Int32)) kb23 t23 cs fm h23 n0 Z26 O25 f27 (own_b3 HB) fe23 fc23 fv23 SC HCS SFm HFm) hZ (hw _ (List.mem_of_getElem? (i := 21) rfl)) (hw _ (List.mem_of_getElem? (i := 10) rfl)) (by decide) (by decide)) q28a q28c (g := (mkF m 5 #[.val (.int p2_0)] [(.int (p2_0 - (1 : Int32))), (.ref b23)])) rfl (by rw [hml]; rfl) (Steps.refl _) (argsL := [(.int (p2_0 - (1 : Int32)))]) (rest := []) (lenOf pd__I_C rfl) rfl (by show 2 * 0 + _ ≤ _; exact Nat.le_of_eq rfl) (hb hby d2_5) (fun _ _ => ⟨rfl, e23, (by decide : 2 + 0 ≤ _), (by decide : 144 + 0 ≤ _)⟩)
  dsimp only [Pt.U, Pt.locs, Pt.cells, Pt.slots] at X28 l28 y28 z28 st28 hQ28
  subst y28 z28
  obtain ⟨rfl, M28, e28⟩ := hQ28
  have N29 : Fr n0 L28 := by rw [l28]; exact Fr.app N0 M28
  refine own_via (T' := T28) (g' := (mkF m 8 #[.val (.int p2_0)] [(.int (own_F3 (p2_0 - (1 : Int32))))])) st28 ?_
  rw [show own_F2 p2_0 = (nar .char (own_F3 (p2_0 - (1 : Int32)))) from rfl]
  exact own_retNW X28 hZ (own_ew hw) hS23 hk23 e28 CQ23 hh hx (t := .char) Bd.returns (by simp) (hb hby d2_8) hlk (by decide) (by decide) ⟨rfl, N29, (by rw [e28]; exact K24)⟩
theorem pd__C_I : parseMethodDescriptor "(C)I" = some ⟨[.char], some .int⟩ := by decide +kernel
theorem pn_com_example_yohokit_yohokit_CountsNumberPinLaw : plainName "com/example/yohokit/yohokit/CountsNumberPinLaw" = true := by first | (simp [plainName, overriddenIn]; done) | decide +kernel
def own_F0_114_3 (p0_0 : Int32) (p0_1 : Int32) (i31 : Int32) (i34 : Int32) (i47 : Int32) : Int32 := (if i47 = (0 : Int32) then (0 : Int32) else (1 : Int32))
def own_F0_114_4 (p0_0 : Int32) (p0_1 : Int32) (i31 : Int32) (i34 : Int32) (i59 : Int32) : Int32 := (0 : Int32)
def own_F0_114_5 (p0_0 : Int32) (p0_1 : Int32) (i31 : Int32) (i34 : Int32) (i70 : Int32) : Int32 := (0 : Int32)
def own_F0_114_6 (p0_0 : Int32) (p0_1 : Int32) (i31 : Int32) (i34 : Int32) (i86 : Int32) : Int32 := (if i86 = (0 : Int32) then (0 : Int32) else (1 : Int32))
def own_F0_114_7 (p0_0 : Int32) (p0_1 : Int32) (i31 : Int32) (i34 : Int32) (i97 : Int32) : Int32 := (0 : Int32)
def own_F0_32_2 (p0_0 : Int32) (p0_1 : Int32) (i31 : Int32) (i34 : Int32) : Int32 := (if (own_F1 i34) = (0 : Int32) then (if (own_F1 (own_F2 (((p0_1 &&& (2147483647 : Int32)) % (35 : Int32)) + (1 : Int32)))) = (((p0_1 &&& (2147483647 : Int32)) % (35 : Int32)) + (1 : Int32)) then (own_F0_114_3 p0_0 p0_1 i31 i34 (1 : Int32)) else (own_F0_114_3 p0_0 p0_1 i31 i34 (0 : Int32))) else (if (own_F1 i34) < (1 : Int32) then (if (own_F1 (own_F2 (((p0_1 &&& (2147483647 : Int32)) % (35 : Int32)) + (1 : Int32)))) = (((p0_1 &&& (2147483647 : Int32)) % (35 : Int32)) + (1 : Int32)) then (own_F0_114_4 p0_0 p0_1 i31 i34 (1 : Int32)) else (own_F0_114_4 p0_0 p0_1 i31 i34 (0 : Int32))) else (if (35 : Int32) < (own_F1 i34) then (if (own_F1 (own_F2 (((p0_1 &&& (2147483647 : Int32)) % (35 : Int32)) + (1 : Int32)))) = (((p0_1 &&& (2147483647 : Int32)) % (35 : Int32)) + (1 : Int32)) then (own_F0_114_5 p0_0 p0_1 i31 i34 (1 : Int32)) else (own_F0_114_5 p0_0 p0_1 i31 i34 (0 : Int32))) else (if (own_F2 (own_F1 i34)) = i34 then (if (own_F1 (own_F2 (((p0_1 &&& (2147483647 : Int32)) % (35 : Int32)) + (1 : Int32)))) = (((p0_1 &&& (2147483647 : Int32)) % (35 : Int32)) + (1 : Int32)) then (own_F0_114_6 p0_0 p0_1 i31 i34 (1 : Int32)) else (own_F0_114_6 p0_0 p0_1 i31 i34 (0 : Int32))) else (if (own_F1 (own_F2 (((p0_1 &&& (2147483647 : Int32)) % (35 : Int32)) + (1 : Int32)))) = (((p0_1 &&& (2147483647 : Int32)) % (35 : Int32)) + (1 : Int32)) then (own_F0_114_7 p0_0 p0_1 i31 i34 (1 : Int32)) else (own_F0_114_7 p0_0 p0_1 i31 i34 (0 : Int32)))))))
def own_F0_14_1 (p0_0 : Int32) (p0_1 : Int32) (i31 : Int32) : Int32 := (if i31 = (0 : Int32) then (own_F0_32_2 p0_0 p0_1 i31 ((p0_0 &&& (65535 : Int32)).toUInt32.toUInt16.toUInt32.toInt32)) else (own_F0_32_2 p0_0 p0_1 i31 ((p0_0 &&& (127 : Int32)).toUInt32.toUInt16.toUInt32.toInt32)))
def own_F0 (p0_0 : Int32) (p0_1 : Int32) : Int32 := (if (((p0_0.toUInt32 >>> ((16 : Int32) &&& 31).toUInt32).toInt32) &&& (1 : Int32)) = (0 : Int32) then (own_F0_14_1 p0_0 p0_1 (0 : Int32)) else (own_F0_14_1 p0_0 p0_1 (1 : Int32)))
theorem own_ef0 (m : MethodId) (x0 : Int32) (x1 : Int32) : entryFrame m #[(.int x0), (.int x1)] maxLocals = mkF m 0 #[.val (.int x0), .val (.int x1), .unset, .unset, .unset, .unset, .unset, .unset] [] := by first | (simp [entryFrame, mkF, argsToLocals, Value.category, maxLocals]; done) | rfl
def own_Q0 (r : Int32) (h0 : Heap) (n0 : Nat) (v : Option Value) (h : Heap) (L : List Loc) : Prop := v = some (.int r) ∧ Fr n0 L
set_option maxRecDepth 65536 in
set_option maxHeartbeats 40000000 in
theorem own_rm0 (l : Launch) (Z : State) (a0 : Array Value) (hw : ∀ d ∈ tables_1, d.before a0 Z = true) (ws : List Jvm.Cond) (p0_0 : Int32) (p0_1 : Int32) (cs : Int32) (fm : Value) (h0 : Heap) (n0 : Nat) (Z0 : n0 ≤ h0.size) (O0 : Old Z n0 h0) (SC : Sta Z Z.heap "java/lang/String" "COMPACT_STRINGS" "Z" (.int cs)) (HCS : ¬ (cs = (0 : Int32))) (SFm : Sta Z Z.heap "jdk/internal/util/Preconditions" "SIOOBE_FORMATTER" "Ljava/util/function/BiFunction;" fm) (HFm : fm.isRef = true) :
    MetFree l x (head1 (Jvm.Cond.code x code maxLocals ret :: ws) room_1) (fun a U => a = #[(.int p0_0), (.int p0_1)] ∧ Z.Warmed39 U.vm ∧ U.heap = h0 ∧ CHv Z consts_1 U.vm h0) (fun _ _ _ _ _ => True) (fun _ U o U' => ∃ v L, o = .returned v ∧ own_Q0 (own_F0 p0_0 p0_1) h0 n0 v U'.heap L ∧ CHr Z consts_1 U.vm U.heap U'.vm U'.heap ∧ ReturnedEndW U o U' L room_1.cells room_1.slots) := by
  refine MetFree.of_bodySF (plainFor_of_name pn_com_example_yohokit_yohokit_CountsNumberPinLaw) hisR ?_
  intro p e s m args below meth c s₁ Bd hml0 hP hK
  obtain ⟨rfl, hZ, hh, hCH⟩ := hP
  have hx := Bd.exec
  have hby := Bd.bytes
  have hlk : meth.locks = false := BodyLoose.notSynchronized Bd
  have hml : c.maxLocals = 8 := hml0
  have hown : s.vm.findClass "com/example/yohokit/yohokit/CountsNumberPinLaw" = some m.cls := findClass_of_methodNamed Bd.named
  have hnm := (name_of_methodNamed Bd.named Bd.method).1
  have X0 : Stand p l e room_1 (s.setVm s.vm) m #[(.int p0_0), (.int p0_1)] below meth c s₁ [] 0 0 := Stand.of_body Bd
  have e0 : s₁.heap = h0 := by rw [← hh, Bd.state]; rfl
  have N0 := Fr.nil n0
  have hS0 : s.Since s.vm 0 := (State.WarmedH.refl s).since 0
  have hk0 : 0 ≤ h0.size := Nat.zero_le _
  have CR0 : CHr Z consts_1 s.vm h0 s.vm h0 := CHr.refl hCH
  show own_Go p e below (own_PW Z consts_1 s below room_1 (own_Q0 (own_F0 p0_0 p0_1) h0 n0)) s₁ (entryFrame m #[(.int p0_0), (.int p0_1)] maxLocals)
  refine own_in (own_ef0 m p0_0 p0_1) ?_
  refine own_by (T' := s₁) (g' := (mkF m 6 #[.val (.int p0_0), .val (.int p0_1), .unset, .unset, .unset, .unset, .unset, .unset] [(.int (((p0_0.toUInt32 >>> ((16 : Int32) &&& 31).toUInt32).toInt32) &&& (1 : Int32)))])) (fun t k => ?_) ?_
  · show Steps p.tables e below (s₁.setTop (mkF m 0 #[.val (.int p0_0), .val (.int p0_1), .unset, .unset, .unset, .unset, .unset, .unset] [])) t
    refine XS.iloadN X0.here hx rfl (hb hby at_0) rfl ?_
    show Steps p.tables e below (s₁.setTop (mkF m 1 #[.val (.int p0_0), .val (.int p0_1), .unset, .unset, .unset, .unset, .unset, .unset] [(.int p0_0)])) t
    refine XS.bipush X0.here hx rfl (hb hby at_1) ?_
    show Steps p.tables e below (s₁.setTop (mkF m 3 #[.val (.int p0_0), .val (.int p0_1), .unset, .unset, .unset, .unset, .unset, .unset] [(.int (16 : Int32)), (.int p0_0)])) t
    refine XS.iushr X0.here hx rfl (hb hby at_3) rfl ?_
    show Steps p.tables e below (s₁.setTop (mkF m 4 #[.val (.int p0_0), .val (.int p0_1), .unset, .unset, .unset, .unset, .unset, .unset] [(.int ((p0_0.toUInt32 >>> ((16 : Int32) &&& 31).toUInt32).toInt32))])) t
    refine XS.iconst X0.here hx rfl (hb hby at_4) ?_
    show Steps p.tables e below (s₁.setTop (mkF m 5 #[.val (.int p0_0), .val (.int p0_1), .unset, .unset, .unset, .unset, .unset, .unset] [(.int (1 : Int32)), (.int ((p0_0.toUInt32 >>> ((16 : Int32) &&& 31).toUInt32).toInt32))])) t
    refine XS.iand X0.here hx rfl (hb hby at_5) rfl ?_
    show Steps p.tables e below (s₁.setTop (mkF m 6 #[.val (.int p0_0), .val (.int p0_1), .unset, .unset, .unset, .unset, .unset, .unset] [(.int (((p0_0.toUInt32 >>> ((16 : Int32) &&& 31).toUInt32).toInt32) &&& (1 : Int32)))])) t
    exact k
  have J0_1 : ∀ (T32 : State) (L32 : List Loc) (i31 : Int32), Stand p l e room_1 (s.setVm s.vm) m #[(.int p0_0), (.int p0_1)] below meth c T32 L32 0 0 → T32.heap = h0 → Fr n0 L32 → own_Go p e below (own_PW Z consts_1 s below room_1 (own_Q0 (own_F0_14_1 p0_0 p0_1 i31) h0 n0)) T32 (mkF m 14 #[.val (.int p0_0), .val (.int p0_1), .unset, .unset, .unset, .unset, .unset, .unset] [(.int i31)]) := by
    intro T32 L32 i31 X32 e32 N32
    refine own_by (T' := T32) (g' := (mkF m 16 #[.val (.int p0_0), .val (.int p0_1), .val (.int i31), .unset, .unset, .unset, .unset, .unset] [(.int i31)])) (fun t k => ?_) ?_
    · show Steps p.tables e below (T32.setTop (mkF m 14 #[.val (.int p0_0), .val (.int p0_1), .unset, .unset, .unset, .unset, .unset, .unset] [(.int i31)])) t
      refine XS.istoreN X32.here hx rfl (hb hby at_14) rfl (l' := #[.val (.int p0_0), .val (.int p0_1), .val (.int i31), .unset, .unset, .unset, .unset, .unset]) rfl ?_
      show Steps p.tables e below (T32.setTop (mkF m 15 #[.val (.int p0_0), .val (.int p0_1), .val (.int i31), .unset, .unset, .unset, .unset, .unset] [])) t
      refine XS.iloadN X32.here hx rfl (hb hby at_15) rfl ?_
      show Steps p.tables e below (T32.setTop (mkF m 16 #[.val (.int p0_0), .val (.int p0_1), .val (.int i31), .unset, .unset, .unset, .unset, .unset] [(.int i31)])) t
      exact k
    have J0_2 : ∀ (T35 : State) (L35 : List Loc) (i34 : Int32), Stand p l e room_1 (s.setVm s.vm) m #[(.int p0_0), (.int p0_1)] below meth c T35 L35 0 0 → T35.heap = h0 → Fr n0 L35 → own_Go p e below (own_PW Z consts_1 s below room_1 (own_Q0 (own_F0_32_2 p0_0 p0_1 i31 i34) h0 n0)) T35 (mkF m 32 #[.val (.int p0_0), .val (.int p0_1), .val (.int i31), .unset, .unset, .unset, .unset, .unset] [(.int i34)]) := by
      intro T35 L35 i34 X35 e35 N35
      refine own_by (T' := T35) (g' := (mkF m 34 #[.val (.int p0_0), .val (.int p0_1), .val (.int i31), .val (.int i34), .unset, .unset, .unset, .unset] [(.int i34)])) (fun t k => ?_) ?_
      · show Steps p.tables e below (T35.setTop (mkF m 32 #[.val (.int p0_0), .val (.int p0_1), .val (.int i31), .unset, .unset, .unset, .unset, .unset] [(.int i34)])) t
        refine XS.istoreN X35.here hx rfl (hb hby at_32) rfl (l' := #[.val (.int p0_0), .val (.int p0_1), .val (.int i31), .val (.int i34), .unset, .unset, .unset, .unset]) rfl ?_
        show Steps p.tables e below (T35.setTop (mkF m 33 #[.val (.int p0_0), .val (.int p0_1), .val (.int i31), .val (.int i34), .unset, .unset, .unset, .unset] [])) t
        refine XS.iloadN X35.here hx rfl (hb hby at_33) rfl ?_
        show Steps p.tables e below (T35.setTop (mkF m 34 #[.val (.int p0_0), .val (.int p0_1), .val (.int i31), .val (.int i34), .unset, .unset, .unset, .unset] [(.int i34)])) t
        exact k
      obtain ⟨v36, _, ⟨T36, L36, k36, n36⟩, -, X36, ⟨Lc36, hQ36, l36, y36, z36⟩, st36⟩ := Jvm.LawKit.callS X35 hx (y := (⟨"com/example/yohokit/yohokit/Counts", "number", "(C)I"⟩ : MethodName)) hown (mvT hZ (hw _ (List.mem_of_getElem? (i := 1) rfl))) (mvT hZ (hw _ (List.mem_of_getElem? (i := 2) rfl))) (mvT hZ (hw _ (List.mem_of_getElem? (i := 3) rfl))) (mvT hZ (hw _ (List.mem_of_getElem? (i := 4) rfl))) (by decide) (backOf (W := 0) (own_rm1 l Z a0 hw [] i34 h0 n0 Z0) hZ (hw _ (List.mem_of_getElem? (i := 4) rfl)) (hw _ (List.mem_of_getElem? (i := 3) rfl)) (by decide) (by decide)) (g := (mkF m 34 #[.val (.int p0_0), .val (.int p0_1), .val (.int i31), .val (.int i34), .unset, .unset, .unset, .unset] [(.int i34)])) rfl (by rw [hml]; rfl) (argsL := [(.int i34)]) (rest := []) (lenOf pd__C_I rfl) rfl (by show 2 * 0 + _ ≤ _; exact Nat.le_of_eq rfl) (hb hby at_34) (fun _ _ => ⟨rfl, e35, (by decide : 0 + 0 ≤ _), (by decide : 0 + 0 ≤ _)⟩)
      dsimp only [Pt.U, Pt.locs, Pt.cells, Pt.slots] at X36 l36 y36 z36 st36 hQ36
      subst y36 z36
      obtain ⟨rfl, M36, e36⟩ := hQ36
      have N37 : Fr n0 L36 := by rw [l36]; exact Fr.app N35 M36
      refine own_by (T' := T36) (g' := (mkF m 37 #[.val (.int p0_0), .val (.int p0_1), .val (.int i31), .val (.int i34), .unset, .unset, .unset, .unset] [(.int (own_F1 i34))])) st36 ?_
      refine own_by (T' := T36) (g' := (mkF m 41 #[.val (.int p0_0), .val (.int p0_1), .val (.int i31), .val (.int i34), .val (.int (own_F1 i34)), .unset, .unset, .unset] [(.int (own_F1 i34))])) (fun t k => ?_) ?_
      · show Steps p.tables e below (T36.setTop (mkF m 37 #[.val (.int p0_0), .val (.int p0_1), .val (.int i31), .val (.int i34), .unset, .unset, .unset, .unset] [(.int (own_F1 i34))])) t
        refine XS.istore X36.here hx rfl (hb hby at_37) rfl (l' := #[.val (.int p0_0), .val (.int p0_1), .val (.int i31), .val (.int i34), .val (.int (own_F1 i34)), .unset, .unset, .unset]) rfl ?_
        show Steps p.tables e below (T36.setTop (mkF m 39 #[.val (.int p0_0), .val (.int p0_1), .val (.int i31), .val (.int i34), .val (.int (own_F1 i34)), .unset, .unset, .unset] [])) t
        refine XS.iload X36.here hx rfl (hb hby at_39) rfl ?_
        show Steps p.tables e below (T36.setTop (mkF m 41 #[.val (.int p0_0), .val (.int p0_1), .val (.int i31), .val (.int i34), .val (.int (own_F1 i34)), .unset, .unset, .unset] [(.int (own_F1 i34))])) t
        exact k
      by_cases hc38 : (own_F1 i34) = (0 : Int32)
      · skip
        refine own_by (T' := T36) (g' := (mkF m 98 #[.val (.int p0_0), .val (.int p0_1), .val (.int i31), .val (.int i34), .val (.int (own_F1 i34)), .val (.int (1 : Int32)), .val (.int (((p0_1 &&& (2147483647 : Int32)) % (35 : Int32)) + (1 : Int32))), .unset] [(.int (((p0_1 &&& (2147483647 : Int32)) % (35 : Int32)) + (1 : Int32)))])) (fun t k => ?_) ?_
        · show Steps p.tables e below (T36.setTop (mkF m 41 #[.val (.int p0_0), .val (.int p0_1), .val (.int i31), .val (.int i34), .val (.int (own_F1 i34)), .unset, .unset, .unset] [(.int (own_F1 i34))])) t
          refine XS.ifNo X36.here hx rfl (hb hby at_41) rfl ((if0 _ _).trans (teq hc38).2) ?_
          show Steps p.tables e below (T36.setTop (mkF m 44 #[.val (.int p0_0), .val (.int p0_1), .val (.int i31), .val (.int i34), .val (.int (own_F1 i34)), .unset, .unset, .unset] [])) t
          refine XS.iconst X36.here hx rfl (hb hby at_44) ?_
          show Steps p.tables e below (T36.setTop (mkF m 45 #[.val (.int p0_0), .val (.int p0_1), .val (.int i31), .val (.int i34), .val (.int (own_F1 i34)), .unset, .unset, .unset] [(.int (1 : Int32))])) t
          refine XS.istore X36.here hx rfl (hb hby at_45) rfl (l' := #[.val (.int p0_0), .val (.int p0_1), .val (.int i31), .val (.int i34), .val (.int (own_F1 i34)), .val (.int (1 : Int32)), .unset, .unset]) rfl ?_
          show Steps p.tables e below (T36.setTop (mkF m 47 #[.val (.int p0_0), .val (.int p0_1), .val (.int i31), .val (.int i34), .val (.int (own_F1 i34)), .val (.int (1 : Int32)), .unset, .unset] [])) t
          refine XS.goto X36.here hx rfl (pc0 := 47) (pc' := 85) rfl (hb hby at_47) (by decide) (by decide) ?_
          show Steps p.tables e below (T36.setTop (mkF m 85 #[.val (.int p0_0), .val (.int p0_1), .val (.int i31), .val (.int i34), .val (.int (own_F1 i34)), .val (.int (1 : Int32)), .unset, .unset] [])) t
          refine XS.iloadN X36.here hx rfl (hb hby at_85) rfl ?_
          show Steps p.tables e below (T36.setTop (mkF m 86 #[.val (.int p0_0), .val (.int p0_1), .val (.int i31), .val (.int i34), .val (.int (own_F1 i34)), .val (.int (1 : Int32)), .unset, .unset] [(.int p0_1)])) t
          refine X36.ldcInt hx hown (mvT hZ (hw _ (List.mem_of_getElem? (i := 5) rfl))) (g := (mkF m 86 #[.val (.int p0_0), .val (.int p0_1), .val (.int i31), .val (.int i34), .val (.int (own_F1 i34)), .val (.int (1 : Int32)), .unset, .unset] [(.int p0_1)])) rfl (hb hby at_86) _ ?_
          show Steps p.tables e below (T36.setTop (mkF m 88 #[.val (.int p0_0), .val (.int p0_1), .val (.int i31), .val (.int i34), .val (.int (own_F1 i34)), .val (.int (1 : Int32)), .unset, .unset] [(.int (2147483647 : Int32)), (.int p0_1)])) t
          refine XS.iand X36.here hx rfl (hb hby at_88) rfl ?_
          show Steps p.tables e below (T36.setTop (mkF m 89 #[.val (.int p0_0), .val (.int p0_1), .val (.int i31), .val (.int i34), .val (.int (own_F1 i34)), .val (.int (1 : Int32)), .unset, .unset] [(.int (p0_1 &&& (2147483647 : Int32)))])) t
          refine XS.bipush X36.here hx rfl (hb hby at_89) ?_
          show Steps p.tables e below (T36.setTop (mkF m 91 #[.val (.int p0_0), .val (.int p0_1), .val (.int i31), .val (.int i34), .val (.int (own_F1 i34)), .val (.int (1 : Int32)), .unset, .unset] [(.int (35 : Int32)), (.int (p0_1 &&& (2147483647 : Int32)))])) t
          refine iremM (g := (mkF m 91 #[.val (.int p0_0), .val (.int p0_1), .val (.int i31), .val (.int i34), .val (.int (own_F1 i34)), .val (.int (1 : Int32)), .unset, .unset] [(.int (35 : Int32)), (.int (p0_1 &&& (2147483647 : Int32)))])) X36 hx rfl (hb hby at_91) rfl (by decide) ?_
          show Steps p.tables e below (T36.setTop (mkF m 92 #[.val (.int p0_0), .val (.int p0_1), .val (.int i31), .val (.int i34), .val (.int (own_F1 i34)), .val (.int (1 : Int32)), .unset, .unset] [(.int ((p0_1 &&& (2147483647 : Int32)) % (35 : Int32)))])) t
          refine XS.iconst X36.here hx rfl (hb hby at_92) ?_
          show Steps p.tables e below (T36.setTop (mkF m 93 #[.val (.int p0_0), .val (.int p0_1), .val (.int i31), .val (.int i34), .val (.int (own_F1 i34)), .val (.int (1 : Int32)), .unset, .unset] [(.int (1 : Int32)), (.int ((p0_1 &&& (2147483647 : Int32)) % (35 : Int32)))])) t
          refine XS.iadd X36.here hx rfl (hb hby at_93) rfl ?_
          show Steps p.tables e below (T36.setTop (mkF m 94 #[.val (.int p0_0), .val (.int p0_1), .val (.int i31), .val (.int i34), .val (.int (own_F1 i34)), .val (.int (1 : Int32)), .unset, .unset] [(.int (((p0_1 &&& (2147483647 : Int32)) % (35 : Int32)) + (1 : Int32)))])) t
          refine XS.istore X36.here hx rfl (hb hby at_94) rfl (l' := #[.val (.int p0_0), .val (.int p0_1), .val (.int i31), .val (.int i34), .val (.int (own_F1 i34)), .val (.int (1 : Int32)), .val (.int (((p0_1 &&& (2147483647 : Int32)) % (35 : Int32)) + (1 : Int32))), .unset]) rfl ?_
          show Steps p.tables e below (T36.setTop (mkF m 96 #[.val (.int p0_0), .val (.int p0_1), .val (.int i31), .val (.int i34), .val (.int (own_F1 i34)), .val (.int (1 : Int32)), .val (.int (((p0_1 &&& (2147483647 : Int32)) % (35 : Int32)) + (1 : Int32))), .unset] [])) t
          refine XS.iload X36.here hx rfl (hb hby at_96) rfl ?_
          show Steps p.tables e below (T36.setTop (mkF m 98 #[.val (.int p0_0), .val (.int p0_1), .val (.int i31), .val (.int i34), .val (.int (own_F1 i34)), .val (.int (1 : Int32)), .val (.int (((p0_1 &&& (2147483647 : Int32)) % (35 : Int32)) + (1 : Int32))), .unset] [(.int (((p0_1 &&& (2147483647 : Int32)) % (35 : Int32)) + (1 : Int32)))])) t
          exact k
        obtain ⟨v39, _, ⟨T39, L39, k39, n39⟩, -, X39, hS39', hk39', ⟨Lc39, hQ39, l39, y39, z39, CR39⟩, st39⟩ := callSS X36 hx (y := (⟨"com/example/yohokit/yohokit/Counts", "character", "(I)C"⟩ : MethodName)) hown (mvT hZ (hw _ (List.mem_of_getElem? (i := 6) rfl))) (mvT hZ (hw _ (List.mem_of_getElem? (i := 7) rfl))) (mvT hZ (hw _ (List.mem_of_getElem? (i := 3) rfl))) (mvT hZ (hw _ (List.mem_of_getElem? (i := 8) rfl))) (by decide) (backOfSH (W := 0) (own_rm2 l Z a0 hw [] (((p0_1 &&& (2147483647 : Int32)) % (35 : Int32)) + (1 : Int32)) cs fm h0 n0 Z0 O0 (own_b2 p0_1) SC HCS SFm HFm) hZ (hw _ (List.mem_of_getElem? (i := 8) rfl)) (hw _ (List.mem_of_getElem? (i := 3) rfl)) (by decide) (by decide) (own_ew hw) CR0.1) (g := (mkF m 98 #[.val (.int p0_0), .val (.int p0_1), .val (.int i31), .val (.int i34), .val (.int (own_F1 i34)), .val (.int (1 : Int32)), .val (.int (((p0_1 &&& (2147483647 : Int32)) % (35 : Int32)) + (1 : Int32))), .unset] [(.int (((p0_1 &&& (2147483647 : Int32)) % (35 : Int32)) + (1 : Int32)))])) rfl (by rw [hml]; rfl) (argsL := [(.int (((p0_1 &&& (2147483647 : Int32)) % (35 : Int32)) + (1 : Int32)))]) (rest := []) (lenOf pd__I_C rfl) rfl (by show 2 * 0 + _ ≤ _; exact Nat.le_of_eq rfl) (hb hby at_98) (fun _ _ => ⟨rfl, e36, (by decide : 0 + 2 ≤ _), (by decide : 0 + 144 ≤ _)⟩)
        dsimp only [Pt.U, Pt.locs, Pt.cells, Pt.slots] at X39 l39 y39 z39 st39 hQ39
        subst y39 z39
        obtain ⟨X39, hS39, hZ, hown⟩ := rebS hS0 (show _ ≤ T36.heap.size from by rw [e36]; exact hk0) X39 hS39' hk39' hZ hown
        have CQ39 := CR0.trans CR39
        obtain ⟨rfl, M39, K39⟩ := hQ39
        have K40 : Keep h0 T39.heap [] := (Keep.refl h0 []).trans K39 all0
        have O41 := O0.keep K39 all0
        have Z42 := Nat.le_trans Z0 K39.1
        have N43 : Fr n0 L39 := by rw [l39]; exact Fr.app N37 M39
        refine own_via (T' := T39) (g' := (mkF m 101 #[.val (.int p0_0), .val (.int p0_1), .val (.int i31), .val (.int i34), .val (.int (own_F1 i34)), .val (.int (1 : Int32)), .val (.int (((p0_1 &&& (2147483647 : Int32)) % (35 : Int32)) + (1 : Int32))), .unset] [(.int (own_F2 (((p0_1 &&& (2147483647 : Int32)) % (35 : Int32)) + (1 : Int32))))])) st39 ?_
        obtain ⟨v44, _, ⟨T44, L44, k44, n44⟩, -, X44, ⟨Lc44, hQ44, l44, y44, z44⟩, st44⟩ := Jvm.LawKit.callS X39 hx (y := (⟨"com/example/yohokit/yohokit/Counts", "number", "(C)I"⟩ : MethodName)) hown (mvT hZ (hw _ (List.mem_of_getElem? (i := 1) rfl))) (mvT hZ (hw _ (List.mem_of_getElem? (i := 2) rfl))) (mvT hZ (hw _ (List.mem_of_getElem? (i := 3) rfl))) (mvT hZ (hw _ (List.mem_of_getElem? (i := 4) rfl))) (by decide) (backOf (W := 0) (own_rm1 l Z a0 hw [] (own_F2 (((p0_1 &&& (2147483647 : Int32)) % (35 : Int32)) + (1 : Int32))) T39.heap n0 Z42) hZ (hw _ (List.mem_of_getElem? (i := 4) rfl)) (hw _ (List.mem_of_getElem? (i := 3) rfl)) (by decide) (by decide)) (g := (mkF m 101 #[.val (.int p0_0), .val (.int p0_1), .val (.int i31), .val (.int i34), .val (.int (own_F1 i34)), .val (.int (1 : Int32)), .val (.int (((p0_1 &&& (2147483647 : Int32)) % (35 : Int32)) + (1 : Int32))), .unset] [(.int (own_F2 (((p0_1 &&& (2147483647 : Int32)) % (35 : Int32)) + (1 : Int32))))])) rfl (by rw [hml]; rfl) (argsL := [(.int (own_F2 (((p0_1 &&& (2147483647 : Int32)) % (35 : Int32)) + (1 : Int32))))]) (rest := []) (lenOf pd__C_I rfl) rfl (by show 2 * 0 + _ ≤ _; exact Nat.le_of_eq rfl) (hb hby at_101) (fun _ _ => ⟨rfl, rfl, (by decide : 2 + 0 ≤ _), (by decide : 144 + 0 ≤ _)⟩)
        dsimp only [Pt.U, Pt.locs, Pt.cells, Pt.slots] at X44 l44 y44 z44 st44 hQ44
        subst y44 z44
        obtain ⟨rfl, M44, e44⟩ := hQ44
        have N45 : Fr n0 L44 := by rw [l44]; exact Fr.app N43 M44
        refine own_by (T' := T44) (g' := (mkF m 104 #[.val (.int p0_0), .val (.int p0_1), .val (.int i31), .val (.int i34), .val (.int (own_F1 i34)), .val (.int (1 : Int32)), .val (.int (((p0_1 &&& (2147483647 : Int32)) % (35 : Int32)) + (1 : Int32))), .unset] [(.int (own_F1 (own_F2 (((p0_1 &&& (2147483647 : Int32)) % (35 : Int32)) + (1 : Int32)))))])) st44 ?_
        refine own_by (T' := T44) (g' := (mkF m 106 #[.val (.int p0_0), .val (.int p0_1), .val (.int i31), .val (.int i34), .val (.int (own_F1 i34)), .val (.int (1 : Int32)), .val (.int (((p0_1 &&& (2147483647 : Int32)) % (35 : Int32)) + (1 : Int32))), .unset] [(.int (((p0_1 &&& (2147483647 : Int32)) % (35 : Int32)) + (1 : Int32))), (.int (own_F1 (own_F2 (((p0_1 &&& (2147483647 : Int32)) % (35 : Int32)) + (1 : Int32)))))])) (fun t k => ?_) ?_
        · show Steps p.tables e below (T44.setTop (mkF m 104 #[.val (.int p0_0), .val (.int p0_1), .val (.int i31), .val (.int i34), .val (.int (own_F1 i34)), .val (.int (1 : Int32)), .val (.int (((p0_1 &&& (2147483647 : Int32)) % (35 : Int32)) + (1 : Int32))), .unset] [(.int (own_F1 (own_F2 (((p0_1 &&& (2147483647 : Int32)) % (35 : Int32)) + (1 : Int32)))))])) t
          refine XS.iload X44.here hx rfl (hb hby at_104) rfl ?_
          show Steps p.tables e below (T44.setTop (mkF m 106 #[.val (.int p0_0), .val (.int p0_1), .val (.int i31), .val (.int i34), .val (.int (own_F1 i34)), .val (.int (1 : Int32)), .val (.int (((p0_1 &&& (2147483647 : Int32)) % (35 : Int32)) + (1 : Int32))), .unset] [(.int (((p0_1 &&& (2147483647 : Int32)) % (35 : Int32)) + (1 : Int32))), (.int (own_F1 (own_F2 (((p0_1 &&& (2147483647 : Int32)) % (35 : Int32)) + (1 : Int32)))))])) t
          exact k
        have J0_3 : ∀ (T48 : State) (L48 : List Loc) (i47 : Int32), Stand p l e room_1 (s.setVm T39.vm) m #[(.int p0_0), (.int p0_1)] below meth c T48 L48 2 144 → T48.heap = T39.heap → Fr n0 L48 → own_Go p e below (own_PW Z consts_1 s below room_1 (own_Q0 (own_F0_114_3 p0_0 p0_1 i31 i34 i47) h0 n0)) T48 (mkF m 114 #[.val (.int p0_0), .val (.int p0_1), .val (.int i31), .val (.int i34), .val (.int (own_F1 i34)), .val (.int (1 : Int32)), .val (.int (((p0_1 &&& (2147483647 : Int32)) % (35 : Int32)) + (1 : Int32))), .unset] [(.int i47)]) := by
          intro T48 L48 i47 X48 e48 N48
          refine own_by (T' := T48) (g' := (mkF m 123 #[.val (.int p0_0), .val (.int p0_1), .val (.int i31), .val (.int i34), .val (.int (own_F1 i34)), .val (.int (1 : Int32)), .val (.int (((p0_1 &&& (2147483647 : Int32)) % (35 : Int32)) + (1 : Int32))), .val (.int i47)] [(.int i47)])) (fun t k => ?_) ?_
          · show Steps p.tables e below (T48.setTop (mkF m 114 #[.val (.int p0_0), .val (.int p0_1), .val (.int i31), .val (.int i34), .val (.int (own_F1 i34)), .val (.int (1 : Int32)), .val (.int (((p0_1 &&& (2147483647 : Int32)) % (35 : Int32)) + (1 : Int32))), .unset] [(.int i47)])) t
            refine XS.istore X48.here hx rfl (hb hby at_114) rfl (l' := #[.val (.int p0_0), .val (.int p0_1), .val (.int i31), .val (.int i34), .val (.int (own_F1 i34)), .val (.int (1 : Int32)), .val (.int (((p0_1 &&& (2147483647 : Int32)) % (35 : Int32)) + (1 : Int32))), .val (.int i47)]) rfl ?_
            show Steps p.tables e below (T48.setTop (mkF m 116 #[.val (.int p0_0), .val (.int p0_1), .val (.int i31), .val (.int i34), .val (.int (own_F1 i34)), .val (.int (1 : Int32)), .val (.int (((p0_1 &&& (2147483647 : Int32)) % (35 : Int32)) + (1 : Int32))), .val (.int i47)] [])) t
            refine XS.iload X48.here hx rfl (hb hby at_116) rfl ?_
            show Steps p.tables e below (T48.setTop (mkF m 118 #[.val (.int p0_0), .val (.int p0_1), .val (.int i31), .val (.int i34), .val (.int (own_F1 i34)), .val (.int (1 : Int32)), .val (.int (((p0_1 &&& (2147483647 : Int32)) % (35 : Int32)) + (1 : Int32))), .val (.int i47)] [(.int (1 : Int32))])) t
            refine XS.ifNo X48.here hx rfl (hb hby at_118) rfl ((if0 _ _).trans (feq (by decide : ¬ ((1 : Int32) = (0 : Int32)))).1) ?_
            show Steps p.tables e below (T48.setTop (mkF m 121 #[.val (.int p0_0), .val (.int p0_1), .val (.int i31), .val (.int i34), .val (.int (own_F1 i34)), .val (.int (1 : Int32)), .val (.int (((p0_1 &&& (2147483647 : Int32)) % (35 : Int32)) + (1 : Int32))), .val (.int i47)] [])) t
            refine XS.iload X48.here hx rfl (hb hby at_121) rfl ?_
            show Steps p.tables e below (T48.setTop (mkF m 123 #[.val (.int p0_0), .val (.int p0_1), .val (.int i31), .val (.int i34), .val (.int (own_F1 i34)), .val (.int (1 : Int32)), .val (.int (((p0_1 &&& (2147483647 : Int32)) % (35 : Int32)) + (1 : Int32))), .val (.int i47)] [(.int i47)])) t
            exact k
          by_cases hc49 : i47 = (0 : Int32)
          · skip
            refine own_by (T' := T48) (g' := (mkF m 131 #[.val (.int p0_0), .val (.int p0_1), .val (.int i31), .val (.int i34), .val (.int (own_F1 i34)), .val (.int (1 : Int32)), .val (.int (((p0_1 &&& (2147483647 : Int32)) % (35 : Int32)) + (1 : Int32))), .val (.int i47)] [(.int (0 : Int32))])) (fun t k => ?_) ?_
            · show Steps p.tables e below (T48.setTop (mkF m 123 #[.val (.int p0_0), .val (.int p0_1), .val (.int i31), .val (.int i34), .val (.int (own_F1 i34)), .val (.int (1 : Int32)), .val (.int (((p0_1 &&& (2147483647 : Int32)) % (35 : Int32)) + (1 : Int32))), .val (.int i47)] [(.int i47)])) t
              refine XS.ifYes X48.here hx rfl (pc0 := 123) (pc' := 130) rfl (hb hby at_123) rfl ((if0 _ _).trans (teq hc49).1) (by decide) (by decide) ?_
              show Steps p.tables e below (T48.setTop (mkF m 130 #[.val (.int p0_0), .val (.int p0_1), .val (.int i31), .val (.int i34), .val (.int (own_F1 i34)), .val (.int (1 : Int32)), .val (.int (((p0_1 &&& (2147483647 : Int32)) % (35 : Int32)) + (1 : Int32))), .val (.int i47)] [])) t
              refine XS.iconst X48.here hx rfl (hb hby at_130) ?_
              show Steps p.tables e below (T48.setTop (mkF m 131 #[.val (.int p0_0), .val (.int p0_1), .val (.int i31), .val (.int i34), .val (.int (own_F1 i34)), .val (.int (1 : Int32)), .val (.int (((p0_1 &&& (2147483647 : Int32)) % (35 : Int32)) + (1 : Int32))), .val (.int i47)] [(.int (0 : Int32))])) t
              exact k
            rw [show own_F0_114_3 p0_0 p0_1 i31 i34 i47 = (0 : Int32) from ((if_pos hc49).trans rfl)]
            exact own_retNW X48 hZ (own_ew hw) hS39 (Nat.le_refl _) e48 CQ39 hh hx (t := .boolean) Bd.returns (by simp) (hb hby at_131) hlk (by decide) (by decide) ⟨rfl, N48⟩
          · skip
            refine own_by (T' := T48) (g' := (mkF m 131 #[.val (.int p0_0), .val (.int p0_1), .val (.int i31), .val (.int i34), .val (.int (own_F1 i34)), .val (.int (1 : Int32)), .val (.int (((p0_1 &&& (2147483647 : Int32)) % (35 : Int32)) + (1 : Int32))), .val (.int i47)] [(.int (1 : Int32))])) (fun t k => ?_) ?_
            · show Steps p.tables e below (T48.setTop (mkF m 123 #[.val (.int p0_0), .val (.int p0_1), .val (.int i31), .val (.int i34), .val (.int (own_F1 i34)), .val (.int (1 : Int32)), .val (.int (((p0_1 &&& (2147483647 : Int32)) % (35 : Int32)) + (1 : Int32))), .val (.int i47)] [(.int i47)])) t
              refine XS.ifNo X48.here hx rfl (hb hby at_123) rfl ((if0 _ _).trans (feq hc49).1) ?_
              show Steps p.tables e below (T48.setTop (mkF m 126 #[.val (.int p0_0), .val (.int p0_1), .val (.int i31), .val (.int i34), .val (.int (own_F1 i34)), .val (.int (1 : Int32)), .val (.int (((p0_1 &&& (2147483647 : Int32)) % (35 : Int32)) + (1 : Int32))), .val (.int i47)] [])) t
              refine XS.iconst X48.here hx rfl (hb hby at_126) ?_
              show Steps p.tables e below (T48.setTop (mkF m 127 #[.val (.int p0_0), .val (.int p0_1), .val (.int i31), .val (.int i34), .val (.int (own_F1 i34)), .val (.int (1 : Int32)), .val (.int (((p0_1 &&& (2147483647 : Int32)) % (35 : Int32)) + (1 : Int32))), .val (.int i47)] [(.int (1 : Int32))])) t
              refine XS.goto X48.here hx rfl (pc0 := 127) (pc' := 131) rfl (hb hby at_127) (by decide) (by decide) ?_
              show Steps p.tables e below (T48.setTop (mkF m 131 #[.val (.int p0_0), .val (.int p0_1), .val (.int i31), .val (.int i34), .val (.int (own_F1 i34)), .val (.int (1 : Int32)), .val (.int (((p0_1 &&& (2147483647 : Int32)) % (35 : Int32)) + (1 : Int32))), .val (.int i47)] [(.int (1 : Int32))])) t
              exact k
            rw [show own_F0_114_3 p0_0 p0_1 i31 i34 i47 = (1 : Int32) from ((if_neg hc49).trans rfl)]
            exact own_retNW X48 hZ (own_ew hw) hS39 (Nat.le_refl _) e48 CQ39 hh hx (t := .boolean) Bd.returns (by simp) (hb hby at_131) hlk (by decide) (by decide) ⟨rfl, N48⟩
        by_cases hc46 : (own_F1 (own_F2 (((p0_1 &&& (2147483647 : Int32)) % (35 : Int32)) + (1 : Int32)))) = (((p0_1 &&& (2147483647 : Int32)) % (35 : Int32)) + (1 : Int32))
        · skip
          refine own_by (T' := T44) (g' := (mkF m 114 #[.val (.int p0_0), .val (.int p0_1), .val (.int i31), .val (.int i34), .val (.int (own_F1 i34)), .val (.int (1 : Int32)), .val (.int (((p0_1 &&& (2147483647 : Int32)) % (35 : Int32)) + (1 : Int32))), .unset] [(.int (1 : Int32))])) (fun t k => ?_) ?_
          · show Steps p.tables e below (T44.setTop (mkF m 106 #[.val (.int p0_0), .val (.int p0_1), .val (.int i31), .val (.int i34), .val (.int (own_F1 i34)), .val (.int (1 : Int32)), .val (.int (((p0_1 &&& (2147483647 : Int32)) % (35 : Int32)) + (1 : Int32))), .unset] [(.int (((p0_1 &&& (2147483647 : Int32)) % (35 : Int32)) + (1 : Int32))), (.int (own_F1 (own_F2 (((p0_1 &&& (2147483647 : Int32)) % (35 : Int32)) + (1 : Int32)))))])) t
            refine XS.icmpNo X44.here hx rfl (hb hby at_106) rfl (teq hc46).2 ?_
            show Steps p.tables e below (T44.setTop (mkF m 109 #[.val (.int p0_0), .val (.int p0_1), .val (.int i31), .val (.int i34), .val (.int (own_F1 i34)), .val (.int (1 : Int32)), .val (.int (((p0_1 &&& (2147483647 : Int32)) % (35 : Int32)) + (1 : Int32))), .unset] [])) t
            refine XS.iconst X44.here hx rfl (hb hby at_109) ?_
            show Steps p.tables e below (T44.setTop (mkF m 110 #[.val (.int p0_0), .val (.int p0_1), .val (.int i31), .val (.int i34), .val (.int (own_F1 i34)), .val (.int (1 : Int32)), .val (.int (((p0_1 &&& (2147483647 : Int32)) % (35 : Int32)) + (1 : Int32))), .unset] [(.int (1 : Int32))])) t
            refine XS.goto X44.here hx rfl (pc0 := 110) (pc' := 114) rfl (hb hby at_110) (by decide) (by decide) ?_
            show Steps p.tables e below (T44.setTop (mkF m 114 #[.val (.int p0_0), .val (.int p0_1), .val (.int i31), .val (.int i34), .val (.int (own_F1 i34)), .val (.int (1 : Int32)), .val (.int (((p0_1 &&& (2147483647 : Int32)) % (35 : Int32)) + (1 : Int32))), .unset] [(.int (1 : Int32))])) t
            exact k
          rw [show own_F0_32_2 p0_0 p0_1 i31 i34 = (own_F0_114_3 p0_0 p0_1 i31 i34 (1 : Int32)) from ((if_pos hc38).trans ((if_pos hc46).trans rfl))]
          exact J0_3 _ _ (1 : Int32) X44 e44 N45
        · skip
          refine own_by (T' := T44) (g' := (mkF m 114 #[.val (.int p0_0), .val (.int p0_1), .val (.int i31), .val (.int i34), .val (.int (own_F1 i34)), .val (.int (1 : Int32)), .val (.int (((p0_1 &&& (2147483647 : Int32)) % (35 : Int32)) + (1 : Int32))), .unset] [(.int (0 : Int32))])) (fun t k => ?_) ?_
          · show Steps p.tables e below (T44.setTop (mkF m 106 #[.val (.int p0_0), .val (.int p0_1), .val (.int i31), .val (.int i34), .val (.int (own_F1 i34)), .val (.int (1 : Int32)), .val (.int (((p0_1 &&& (2147483647 : Int32)) % (35 : Int32)) + (1 : Int32))), .unset] [(.int (((p0_1 &&& (2147483647 : Int32)) % (35 : Int32)) + (1 : Int32))), (.int (own_F1 (own_F2 (((p0_1 &&& (2147483647 : Int32)) % (35 : Int32)) + (1 : Int32)))))])) t
            refine XS.icmpYes X44.here hx rfl (pc0 := 106) (pc' := 113) rfl (hb hby at_106) rfl (feq hc46).2 (by decide) (by decide) ?_
            show Steps p.tables e below (T44.setTop (mkF m 113 #[.val (.int p0_0), .val (.int p0_1), .val (.int i31), .val (.int i34), .val (.int (own_F1 i34)), .val (.int (1 : Int32)), .val (.int (((p0_1 &&& (2147483647 : Int32)) % (35 : Int32)) + (1 : Int32))), .unset] [])) t
            refine XS.iconst X44.here hx rfl (hb hby at_113) ?_
            show Steps p.tables e below (T44.setTop (mkF m 114 #[.val (.int p0_0), .val (.int p0_1), .val (.int i31), .val (.int i34), .val (.int (own_F1 i34)), .val (.int (1 : Int32)), .val (.int (((p0_1 &&& (2147483647 : Int32)) % (35 : Int32)) + (1 : Int32))), .unset] [(.int (0 : Int32))])) t
            exact k
          rw [show own_F0_32_2 p0_0 p0_1 i31 i34 = (own_F0_114_3 p0_0 p0_1 i31 i34 (0 : Int32)) from ((if_pos hc38).trans ((if_neg hc46).trans rfl))]
          exact J0_3 _ _ (0 : Int32) X44 e44 N45
      · skip
        refine own_by (T' := T36) (g' := (mkF m 53 #[.val (.int p0_0), .val (.int p0_1), .val (.int i31), .val (.int i34), .val (.int (own_F1 i34)), .unset, .unset, .unset] [(.int (1 : Int32)), (.int (own_F1 i34))])) (fun t k => ?_) ?_
        · show Steps p.tables e below (T36.setTop (mkF m 41 #[.val (.int p0_0), .val (.int p0_1), .val (.int i31), .val (.int i34), .val (.int (own_F1 i34)), .unset, .unset, .unset] [(.int (own_F1 i34))])) t
          refine XS.ifYes X36.here hx rfl (pc0 := 41) (pc' := 50) rfl (hb hby at_41) rfl ((if0 _ _).trans (feq hc38).2) (by decide) (by decide) ?_
          show Steps p.tables e below (T36.setTop (mkF m 50 #[.val (.int p0_0), .val (.int p0_1), .val (.int i31), .val (.int i34), .val (.int (own_F1 i34)), .unset, .unset, .unset] [])) t
          refine XS.iload X36.here hx rfl (hb hby at_50) rfl ?_
          show Steps p.tables e below (T36.setTop (mkF m 52 #[.val (.int p0_0), .val (.int p0_1), .val (.int i31), .val (.int i34), .val (.int (own_F1 i34)), .unset, .unset, .unset] [(.int (own_F1 i34))])) t
          refine XS.iconst X36.here hx rfl (hb hby at_52) ?_
          show Steps p.tables e below (T36.setTop (mkF m 53 #[.val (.int p0_0), .val (.int p0_1), .val (.int i31), .val (.int i34), .val (.int (own_F1 i34)), .unset, .unset, .unset] [(.int (1 : Int32)), (.int (own_F1 i34))])) t
          exact k
        by_cases hc50 : (own_F1 i34) < (1 : Int32)
        · skip
          refine own_by (T' := T36) (g' := (mkF m 98 #[.val (.int p0_0), .val (.int p0_1), .val (.int i31), .val (.int i34), .val (.int (own_F1 i34)), .val (.int (0 : Int32)), .val (.int (((p0_1 &&& (2147483647 : Int32)) % (35 : Int32)) + (1 : Int32))), .unset] [(.int (((p0_1 &&& (2147483647 : Int32)) % (35 : Int32)) + (1 : Int32)))])) (fun t k => ?_) ?_
          · show Steps p.tables e below (T36.setTop (mkF m 53 #[.val (.int p0_0), .val (.int p0_1), .val (.int i31), .val (.int i34), .val (.int (own_F1 i34)), .unset, .unset, .unset] [(.int (1 : Int32)), (.int (own_F1 i34))])) t
            refine XS.icmpYes X36.here hx rfl (pc0 := 53) (pc' := 82) rfl (hb hby at_53) rfl (tlt hc50).1 (by decide) (by decide) ?_
            show Steps p.tables e below (T36.setTop (mkF m 82 #[.val (.int p0_0), .val (.int p0_1), .val (.int i31), .val (.int i34), .val (.int (own_F1 i34)), .unset, .unset, .unset] [])) t
            refine XS.iconst X36.here hx rfl (hb hby at_82) ?_
            show Steps p.tables e below (T36.setTop (mkF m 83 #[.val (.int p0_0), .val (.int p0_1), .val (.int i31), .val (.int i34), .val (.int (own_F1 i34)), .unset, .unset, .unset] [(.int (0 : Int32))])) t
            refine XS.istore X36.here hx rfl (hb hby at_83) rfl (l' := #[.val (.int p0_0), .val (.int p0_1), .val (.int i31), .val (.int i34), .val (.int (own_F1 i34)), .val (.int (0 : Int32)), .unset, .unset]) rfl ?_
            show Steps p.tables e below (T36.setTop (mkF m 85 #[.val (.int p0_0), .val (.int p0_1), .val (.int i31), .val (.int i34), .val (.int (own_F1 i34)), .val (.int (0 : Int32)), .unset, .unset] [])) t
            refine XS.iloadN X36.here hx rfl (hb hby at_85) rfl ?_
            show Steps p.tables e below (T36.setTop (mkF m 86 #[.val (.int p0_0), .val (.int p0_1), .val (.int i31), .val (.int i34), .val (.int (own_F1 i34)), .val (.int (0 : Int32)), .unset, .unset] [(.int p0_1)])) t
            refine X36.ldcInt hx hown (mvT hZ (hw _ (List.mem_of_getElem? (i := 5) rfl))) (g := (mkF m 86 #[.val (.int p0_0), .val (.int p0_1), .val (.int i31), .val (.int i34), .val (.int (own_F1 i34)), .val (.int (0 : Int32)), .unset, .unset] [(.int p0_1)])) rfl (hb hby at_86) _ ?_
            show Steps p.tables e below (T36.setTop (mkF m 88 #[.val (.int p0_0), .val (.int p0_1), .val (.int i31), .val (.int i34), .val (.int (own_F1 i34)), .val (.int (0 : Int32)), .unset, .unset] [(.int (2147483647 : Int32)), (.int p0_1)])) t
            refine XS.iand X36.here hx rfl (hb hby at_88) rfl ?_
            show Steps p.tables e below (T36.setTop (mkF m 89 #[.val (.int p0_0), .val (.int p0_1), .val (.int i31), .val (.int i34), .val (.int (own_F1 i34)), .val (.int (0 : Int32)), .unset, .unset] [(.int (p0_1 &&& (2147483647 : Int32)))])) t
            refine XS.bipush X36.here hx rfl (hb hby at_89) ?_
            show Steps p.tables e below (T36.setTop (mkF m 91 #[.val (.int p0_0), .val (.int p0_1), .val (.int i31), .val (.int i34), .val (.int (own_F1 i34)), .val (.int (0 : Int32)), .unset, .unset] [(.int (35 : Int32)), (.int (p0_1 &&& (2147483647 : Int32)))])) t
            refine iremM (g := (mkF m 91 #[.val (.int p0_0), .val (.int p0_1), .val (.int i31), .val (.int i34), .val (.int (own_F1 i34)), .val (.int (0 : Int32)), .unset, .unset] [(.int (35 : Int32)), (.int (p0_1 &&& (2147483647 : Int32)))])) X36 hx rfl (hb hby at_91) rfl (by decide) ?_
            show Steps p.tables e below (T36.setTop (mkF m 92 #[.val (.int p0_0), .val (.int p0_1), .val (.int i31), .val (.int i34), .val (.int (own_F1 i34)), .val (.int (0 : Int32)), .unset, .unset] [(.int ((p0_1 &&& (2147483647 : Int32)) % (35 : Int32)))])) t
            refine XS.iconst X36.here hx rfl (hb hby at_92) ?_
            show Steps p.tables e below (T36.setTop (mkF m 93 #[.val (.int p0_0), .val (.int p0_1), .val (.int i31), .val (.int i34), .val (.int (own_F1 i34)), .val (.int (0 : Int32)), .unset, .unset] [(.int (1 : Int32)), (.int ((p0_1 &&& (2147483647 : Int32)) % (35 : Int32)))])) t
            refine XS.iadd X36.here hx rfl (hb hby at_93) rfl ?_
            show Steps p.tables e below (T36.setTop (mkF m 94 #[.val (.int p0_0), .val (.int p0_1), .val (.int i31), .val (.int i34), .val (.int (own_F1 i34)), .val (.int (0 : Int32)), .unset, .unset] [(.int (((p0_1 &&& (2147483647 : Int32)) % (35 : Int32)) + (1 : Int32)))])) t
            refine XS.istore X36.here hx rfl (hb hby at_94) rfl (l' := #[.val (.int p0_0), .val (.int p0_1), .val (.int i31), .val (.int i34), .val (.int (own_F1 i34)), .val (.int (0 : Int32)), .val (.int (((p0_1 &&& (2147483647 : Int32)) % (35 : Int32)) + (1 : Int32))), .unset]) rfl ?_
            show Steps p.tables e below (T36.setTop (mkF m 96 #[.val (.int p0_0), .val (.int p0_1), .val (.int i31), .val (.int i34), .val (.int (own_F1 i34)), .val (.int (0 : Int32)), .val (.int (((p0_1 &&& (2147483647 : Int32)) % (35 : Int32)) + (1 : Int32))), .unset] [])) t
            refine XS.iload X36.here hx rfl (hb hby at_96) rfl ?_
            show Steps p.tables e below (T36.setTop (mkF m 98 #[.val (.int p0_0), .val (.int p0_1), .val (.int i31), .val (.int i34), .val (.int (own_F1 i34)), .val (.int (0 : Int32)), .val (.int (((p0_1 &&& (2147483647 : Int32)) % (35 : Int32)) + (1 : Int32))), .unset] [(.int (((p0_1 &&& (2147483647 : Int32)) % (35 : Int32)) + (1 : Int32)))])) t
            exact k
          obtain ⟨v51, _, ⟨T51, L51, k51, n51⟩, -, X51, hS51', hk51', ⟨Lc51, hQ51, l51, y51, z51, CR51⟩, st51⟩ := callSS X36 hx (y := (⟨"com/example/yohokit/yohokit/Counts", "character", "(I)C"⟩ : MethodName)) hown (mvT hZ (hw _ (List.mem_of_getElem? (i := 6) rfl))) (mvT hZ (hw _ (List.mem_of_getElem? (i := 7) rfl))) (mvT hZ (hw _ (List.mem_of_getElem? (i := 3) rfl))) (mvT hZ (hw _ (List.mem_of_getElem? (i := 8) rfl))) (by decide) (backOfSH (W := 0) (own_rm2 l Z a0 hw [] (((p0_1 &&& (2147483647 : Int32)) % (35 : Int32)) + (1 : Int32)) cs fm h0 n0 Z0 O0 (own_b2 p0_1) SC HCS SFm HFm) hZ (hw _ (List.mem_of_getElem? (i := 8) rfl)) (hw _ (List.mem_of_getElem? (i := 3) rfl)) (by decide) (by decide) (own_ew hw) CR0.1) (g := (mkF m 98 #[.val (.int p0_0), .val (.int p0_1), .val (.int i31), .val (.int i34), .val (.int (own_F1 i34)), .val (.int (0 : Int32)), .val (.int (((p0_1 &&& (2147483647 : Int32)) % (35 : Int32)) + (1 : Int32))), .unset] [(.int (((p0_1 &&& (2147483647 : Int32)) % (35 : Int32)) + (1 : Int32)))])) rfl (by rw [hml]; rfl) (argsL := [(.int (((p0_1 &&& (2147483647 : Int32)) % (35 : Int32)) + (1 : Int32)))]) (rest := []) (lenOf pd__I_C rfl) rfl (by show 2 * 0 + _ ≤ _; exact Nat.le_of_eq rfl) (hb hby at_98) (fun _ _ => ⟨rfl, e36, (by decide : 0 + 2 ≤ _), (by decide : 0 + 144 ≤ _)⟩)
          dsimp only [Pt.U, Pt.locs, Pt.cells, Pt.slots] at X51 l51 y51 z51 st51 hQ51
          subst y51 z51
          obtain ⟨X51, hS51, hZ, hown⟩ := rebS hS0 (show _ ≤ T36.heap.size from by rw [e36]; exact hk0) X51 hS51' hk51' hZ hown
          have CQ51 := CR0.trans CR51
          obtain ⟨rfl, M51, K51⟩ := hQ51
          have K52 : Keep h0 T51.heap [] := (Keep.refl h0 []).trans K51 all0
          have O53 := O0.keep K51 all0
          have Z54 := Nat.le_trans Z0 K51.1
          have N55 : Fr n0 L51 := by rw [l51]; exact Fr.app N37 M51
          refine own_via (T' := T51) (g' := (mkF m 101 #[.val (.int p0_0), .val (.int p0_1), .val (.int i31), .val (.int i34), .val (.int (own_F1 i34)), .val (.int (0 : Int32)), .val (.int (((p0_1 &&& (2147483647 : Int32)) % (35 : Int32)) + (1 : Int32))), .unset] [(.int (own_F2 (((p0_1 &&& (2147483647 : Int32)) % (35 : Int32)) + (1 : Int32))))])) st51 ?_
          obtain ⟨v56, _, ⟨T56, L56, k56, n56⟩, -, X56, ⟨Lc56, hQ56, l56, y56, z56⟩, st56⟩ := Jvm.LawKit.callS X51 hx (y := (⟨"com/example/yohokit/yohokit/Counts", "number", "(C)I"⟩ : MethodName)) hown (mvT hZ (hw _ (List.mem_of_getElem? (i := 1) rfl))) (mvT hZ (hw _ (List.mem_of_getElem? (i := 2) rfl))) (mvT hZ (hw _ (List.mem_of_getElem? (i := 3) rfl))) (mvT hZ (hw _ (List.mem_of_getElem? (i := 4) rfl))) (by decide) (backOf (W := 0) (own_rm1 l Z a0 hw [] (own_F2 (((p0_1 &&& (2147483647 : Int32)) % (35 : Int32)) + (1 : Int32))) T51.heap n0 Z54) hZ (hw _ (List.mem_of_getElem? (i := 4) rfl)) (hw _ (List.mem_of_getElem? (i := 3) rfl)) (by decide) (by decide)) (g := (mkF m 101 #[.val (.int p0_0), .val (.int p0_1), .val (.int i31), .val (.int i34), .val (.int (own_F1 i34)), .val (.int (0 : Int32)), .val (.int (((p0_1 &&& (2147483647 : Int32)) % (35 : Int32)) + (1 : Int32))), .unset] [(.int (own_F2 (((p0_1 &&& (2147483647 : Int32)) % (35 : Int32)) + (1 : Int32))))])) rfl (by rw [hml]; rfl) (argsL := [(.int (own_F2 (((p0_1 &&& (2147483647 : Int32)) % (35 : Int32)) + (1 : Int32))))]) (rest := []) (lenOf pd__C_I rfl) rfl (by show 2 * 0 + _ ≤ _; exact Nat.le_of_eq rfl) (hb hby at_101) (fun _ _ => ⟨rfl, rfl, (by decide : 2 + 0 ≤ _), (by decide : 144 + 0 ≤ _)⟩)
          dsimp only [Pt.U, Pt.locs, Pt.cells, Pt.slots] at X56 l56 y56 z56 st56 hQ56
          subst y56 z56
          obtain ⟨rfl, M56, e56⟩ := hQ56
          have N57 : Fr n0 L56 := by rw [l56]; exact Fr.app N55 M56
          refine own_by (T' := T56) (g' := (mkF m 104 #[.val (.int p0_0), .val (.int p0_1), .val (.int i31), .val (.int i34), .val (.int (own_F1 i34)), .val (.int (0 : Int32)), .val (.int (((p0_1 &&& (2147483647 : Int32)) % (35 : Int32)) + (1 : Int32))), .unset] [(.int (own_F1 (own_F2 (((p0_1 &&& (2147483647 : Int32)) % (35 : Int32)) + (1 : Int32)))))])) st56 ?_
          refine own_by (T' := T56) (g' := (mkF m 106 #[.val (.int p0_0), .val (.int p0_1), .val (.int i31), .val (.int i34), .val (.int (own_F1 i34)), .val (.int (0 : Int32)), .val (.int (((p0_1 &&& (2147483647 : Int32)) % (35 : Int32)) + (1 : Int32))), .unset] [(.int (((p0_1 &&& (2147483647 : Int32)) % (35 : Int32)) + (1 : Int32))), (.int (own_F1 (own_F2 (((p0_1 &&& (2147483647 : Int32)) % (35 : Int32)) + (1 : Int32)))))])) (fun t k => ?_) ?_
          · show Steps p.tables e below (T56.setTop (mkF m 104 #[.val (.int p0_0), .val (.int p0_1), .val (.int i31), .val (.int i34), .val (.int (own_F1 i34)), .val (.int (0 : Int32)), .val (.int (((p0_1 &&& (2147483647 : Int32)) % (35 : Int32)) + (1 : Int32))), .unset] [(.int (own_F1 (own_F2 (((p0_1 &&& (2147483647 : Int32)) % (35 : Int32)) + (1 : Int32)))))])) t
            refine XS.iload X56.here hx rfl (hb hby at_104) rfl ?_
            show Steps p.tables e below (T56.setTop (mkF m 106 #[.val (.int p0_0), .val (.int p0_1), .val (.int i31), .val (.int i34), .val (.int (own_F1 i34)), .val (.int (0 : Int32)), .val (.int (((p0_1 &&& (2147483647 : Int32)) % (35 : Int32)) + (1 : Int32))), .unset] [(.int (((p0_1 &&& (2147483647 : Int32)) % (35 : Int32)) + (1 : Int32))), (.int (own_F1 (own_F2 (((p0_1 &&& (2147483647 : Int32)) % (35 : Int32)) + (1 : Int32)))))])) t
            exact k
          have J0_4 : ∀ (T60 : State) (L60 : List Loc) (i59 : Int32), Stand p l e room_1 (s.setVm T51.vm) m #[(.int p0_0), (.int p0_1)] below meth c T60 L60 2 144 → T60.heap = T51.heap → Fr n0 L60 → own_Go p e below (own_PW Z consts_1 s below room_1 (own_Q0 (own_F0_114_4 p0_0 p0_1 i31 i34 i59) h0 n0)) T60 (mkF m 114 #[.val (.int p0_0), .val (.int p0_1), .val (.int i31), .val (.int i34), .val (.int (own_F1 i34)), .val (.int (0 : Int32)), .val (.int (((p0_1 &&& (2147483647 : Int32)) % (35 : Int32)) + (1 : Int32))), .unset] [(.int i59)]) := by
            intro T60 L60 i59 X60 e60 N60
            refine own_by (T' := T60) (g' := (mkF m 131 #[.val (.int p0_0), .val (.int p0_1), .val (.int i31), .val (.int i34), .val (.int (own_F1 i34)), .val (.int (0 : Int32)), .val (.int (((p0_1 &&& (2147483647 : Int32)) % (35 : Int32)) + (1 : Int32))), .val (.int i59)] [(.int (0 : Int32))])) (fun t k => ?_) ?_
            · show Steps p.tables e below (T60.setTop (mkF m 114 #[.val (.int p0_0), .val (.int p0_1), .val (.int i31), .val (.int i34), .val (.int (own_F1 i34)), .val (.int (0 : Int32)), .val (.int (((p0_1 &&& (2147483647 : Int32)) % (35 : Int32)) + (1 : Int32))), .unset] [(.int i59)])) t
              refine XS.istore X60.here hx rfl (hb hby at_114) rfl (l' := #[.val (.int p0_0), .val (.int p0_1), .val (.int i31), .val (.int i34), .val (.int (own_F1 i34)), .val (.int (0 : Int32)), .val (.int (((p0_1 &&& (2147483647 : Int32)) % (35 : Int32)) + (1 : Int32))), .val (.int i59)]) rfl ?_
              show Steps p.tables e below (T60.setTop (mkF m 116 #[.val (.int p0_0), .val (.int p0_1), .val (.int i31), .val (.int i34), .val (.int (own_F1 i34)), .val (.int (0 : Int32)), .val (.int (((p0_1 &&& (2147483647 : Int32)) % (35 : Int32)) + (1 : Int32))), .val (.int i59)] [])) t
              refine XS.iload X60.here hx rfl (hb hby at_116) rfl ?_
              show Steps p.tables e below (T60.setTop (mkF m 118 #[.val (.int p0_0), .val (.int p0_1), .val (.int i31), .val (.int i34), .val (.int (own_F1 i34)), .val (.int (0 : Int32)), .val (.int (((p0_1 &&& (2147483647 : Int32)) % (35 : Int32)) + (1 : Int32))), .val (.int i59)] [(.int (0 : Int32))])) t
              refine XS.ifYes X60.here hx rfl (pc0 := 118) (pc' := 130) rfl (hb hby at_118) rfl ((if0 _ _).trans (teq (by decide : (0 : Int32) = (0 : Int32))).1) (by decide) (by decide) ?_
              show Steps p.tables e below (T60.setTop (mkF m 130 #[.val (.int p0_0), .val (.int p0_1), .val (.int i31), .val (.int i34), .val (.int (own_F1 i34)), .val (.int (0 : Int32)), .val (.int (((p0_1 &&& (2147483647 : Int32)) % (35 : Int32)) + (1 : Int32))), .val (.int i59)] [])) t
              refine XS.iconst X60.here hx rfl (hb hby at_130) ?_
              show Steps p.tables e below (T60.setTop (mkF m 131 #[.val (.int p0_0), .val (.int p0_1), .val (.int i31), .val (.int i34), .val (.int (own_F1 i34)), .val (.int (0 : Int32)), .val (.int (((p0_1 &&& (2147483647 : Int32)) % (35 : Int32)) + (1 : Int32))), .val (.int i59)] [(.int (0 : Int32))])) t
              exact k
            rw [show own_F0_114_4 p0_0 p0_1 i31 i34 i59 = (0 : Int32) from rfl]
            exact own_retNW X60 hZ (own_ew hw) hS51 (Nat.le_refl _) e60 CQ51 hh hx (t := .boolean) Bd.returns (by simp) (hb hby at_131) hlk (by decide) (by decide) ⟨rfl, N60⟩
          by_cases hc58 : (own_F1 (own_F2 (((p0_1 &&& (2147483647 : Int32)) % (35 : Int32)) + (1 : Int32)))) = (((p0_1 &&& (2147483647 : Int32)) % (35 : Int32)) + (1 : Int32))
          · skip
            refine own_by (T' := T56) (g' := (mkF m 114 #[.val (.int p0_0), .val (.int p0_1), .val (.int i31), .val (.int i34), .val (.int (own_F1 i34)), .val (.int (0 : Int32)), .val (.int (((p0_1 &&& (2147483647 : Int32)) % (35 : Int32)) + (1 : Int32))), .unset] [(.int (1 : Int32))])) (fun t k => ?_) ?_
            · show Steps p.tables e below (T56.setTop (mkF m 106 #[.val (.int p0_0), .val (.int p0_1), .val (.int i31), .val (.int i34), .val (.int (own_F1 i34)), .val (.int (0 : Int32)), .val (.int (((p0_1 &&& (2147483647 : Int32)) % (35 : Int32)) + (1 : Int32))), .unset] [(.int (((p0_1 &&& (2147483647 : Int32)) % (35 : Int32)) + (1 : Int32))), (.int (own_F1 (own_F2 (((p0_1 &&& (2147483647 : Int32)) % (35 : Int32)) + (1 : Int32)))))])) t
              refine XS.icmpNo X56.here hx rfl (hb hby at_106) rfl (teq hc58).2 ?_
              show Steps p.tables e below (T56.setTop (mkF m 109 #[.val (.int p0_0), .val (.int p0_1), .val (.int i31), .val (.int i34), .val (.int (own_F1 i34)), .val (.int (0 : Int32)), .val (.int (((p0_1 &&& (2147483647 : Int32)) % (35 : Int32)) + (1 : Int32))), .unset] [])) t
              refine XS.iconst X56.here hx rfl (hb hby at_109) ?_
              show Steps p.tables e below (T56.setTop (mkF m 110 #[.val (.int p0_0), .val (.int p0_1), .val (.int i31), .val (.int i34), .val (.int (own_F1 i34)), .val (.int (0 : Int32)), .val (.int (((p0_1 &&& (2147483647 : Int32)) % (35 : Int32)) + (1 : Int32))), .unset] [(.int (1 : Int32))])) t
              refine XS.goto X56.here hx rfl (pc0 := 110) (pc' := 114) rfl (hb hby at_110) (by decide) (by decide) ?_
              show Steps p.tables e below (T56.setTop (mkF m 114 #[.val (.int p0_0), .val (.int p0_1), .val (.int i31), .val (.int i34), .val (.int (own_F1 i34)), .val (.int (0 : Int32)), .val (.int (((p0_1 &&& (2147483647 : Int32)) % (35 : Int32)) + (1 : Int32))), .unset] [(.int (1 : Int32))])) t
              exact k
            rw [show own_F0_32_2 p0_0 p0_1 i31 i34 = (own_F0_114_4 p0_0 p0_1 i31 i34 (1 : Int32)) from ((if_neg hc38).trans ((if_pos hc50).trans ((if_pos hc58).trans rfl)))]
            exact J0_4 _ _ (1 : Int32) X56 e56 N57
          · skip
            refine own_by (T' := T56) (g' := (mkF m 114 #[.val (.int p0_0), .val (.int p0_1), .val (.int i31), .val (.int i34), .val (.int (own_F1 i34)), .val (.int (0 : Int32)), .val (.int (((p0_1 &&& (2147483647 : Int32)) % (35 : Int32)) + (1 : Int32))), .unset] [(.int (0 : Int32))])) (fun t k => ?_) ?_
            · show Steps p.tables e below (T56.setTop (mkF m 106 #[.val (.int p0_0), .val (.int p0_1), .val (.int i31), .val (.int i34), .val (.int (own_F1 i34)), .val (.int (0 : Int32)), .val (.int (((p0_1 &&& (2147483647 : Int32)) % (35 : Int32)) + (1 : Int32))), .unset] [(.int (((p0_1 &&& (2147483647 : Int32)) % (35 : Int32)) + (1 : Int32))), (.int (own_F1 (own_F2 (((p0_1 &&& (2147483647 : Int32)) % (35 : Int32)) + (1 : Int32)))))])) t
              refine XS.icmpYes X56.here hx rfl (pc0 := 106) (pc' := 113) rfl (hb hby at_106) rfl (feq hc58).2 (by decide) (by decide) ?_
              show Steps p.tables e below (T56.setTop (mkF m 113 #[.val (.int p0_0), .val (.int p0_1), .val (.int i31), .val (.int i34), .val (.int (own_F1 i34)), .val (.int (0 : Int32)), .val (.int (((p0_1 &&& (2147483647 : Int32)) % (35 : Int32)) + (1 : Int32))), .unset] [])) t
              refine XS.iconst X56.here hx rfl (hb hby at_113) ?_
              show Steps p.tables e below (T56.setTop (mkF m 114 #[.val (.int p0_0), .val (.int p0_1), .val (.int i31), .val (.int i34), .val (.int (own_F1 i34)), .val (.int (0 : Int32)), .val (.int (((p0_1 &&& (2147483647 : Int32)) % (35 : Int32)) + (1 : Int32))), .unset] [(.int (0 : Int32))])) t
              exact k
            rw [show own_F0_32_2 p0_0 p0_1 i31 i34 = (own_F0_114_4 p0_0 p0_1 i31 i34 (0 : Int32)) from ((if_neg hc38).trans ((if_pos hc50).trans ((if_neg hc58).trans rfl)))]
            exact J0_4 _ _ (0 : Int32) X56 e56 N57
        · skip
          refine own_by (T' := T36) (g' := (mkF m 60 #[.val (.int p0_0), .val (.int p0_1), .val (.int i31), .val (.int i34), .val (.int (own_F1 i34)), .unset, .unset, .unset] [(.int (35 : Int32)), (.int (own_F1 i34))])) (fun t k => ?_) ?_
          · show Steps p.tables e below (T36.setTop (mkF m 53 #[.val (.int p0_0), .val (.int p0_1), .val (.int i31), .val (.int i34), .val (.int (own_F1 i34)), .unset, .unset, .unset] [(.int (1 : Int32)), (.int (own_F1 i34))])) t
            refine XS.icmpNo X36.here hx rfl (hb hby at_53) rfl (flt hc50).1 ?_
            show Steps p.tables e below (T36.setTop (mkF m 56 #[.val (.int p0_0), .val (.int p0_1), .val (.int i31), .val (.int i34), .val (.int (own_F1 i34)), .unset, .unset, .unset] [])) t
            refine XS.iload X36.here hx rfl (hb hby at_56) rfl ?_
            show Steps p.tables e below (T36.setTop (mkF m 58 #[.val (.int p0_0), .val (.int p0_1), .val (.int i31), .val (.int i34), .val (.int (own_F1 i34)), .unset, .unset, .unset] [(.int (own_F1 i34))])) t
            refine XS.bipush X36.here hx rfl (hb hby at_58) ?_
            show Steps p.tables e below (T36.setTop (mkF m 60 #[.val (.int p0_0), .val (.int p0_1), .val (.int i31), .val (.int i34), .val (.int (own_F1 i34)), .unset, .unset, .unset] [(.int (35 : Int32)), (.int (own_F1 i34))])) t
            exact k
          by_cases hc61 : (35 : Int32) < (own_F1 i34)
          · skip
            refine own_by (T' := T36) (g' := (mkF m 98 #[.val (.int p0_0), .val (.int p0_1), .val (.int i31), .val (.int i34), .val (.int (own_F1 i34)), .val (.int (0 : Int32)), .val (.int (((p0_1 &&& (2147483647 : Int32)) % (35 : Int32)) + (1 : Int32))), .unset] [(.int (((p0_1 &&& (2147483647 : Int32)) % (35 : Int32)) + (1 : Int32)))])) (fun t k => ?_) ?_
            · show Steps p.tables e below (T36.setTop (mkF m 60 #[.val (.int p0_0), .val (.int p0_1), .val (.int i31), .val (.int i34), .val (.int (own_F1 i34)), .unset, .unset, .unset] [(.int (35 : Int32)), (.int (own_F1 i34))])) t
              refine XS.icmpYes X36.here hx rfl (pc0 := 60) (pc' := 82) rfl (hb hby at_60) rfl (tlt hc61).2.2.1 (by decide) (by decide) ?_
              show Steps p.tables e below (T36.setTop (mkF m 82 #[.val (.int p0_0), .val (.int p0_1), .val (.int i31), .val (.int i34), .val (.int (own_F1 i34)), .unset, .unset, .unset] [])) t
              refine XS.iconst X36.here hx rfl (hb hby at_82) ?_
              show Steps p.tables e below (T36.setTop (mkF m 83 #[.val (.int p0_0), .val (.int p0_1), .val (.int i31), .val (.int i34), .val (.int (own_F1 i34)), .unset, .unset, .unset] [(.int (0 : Int32))])) t
              refine XS.istore X36.here hx rfl (hb hby at_83) rfl (l' := #[.val (.int p0_0), .val (.int p0_1), .val (.int i31), .val (.int i34), .val (.int (own_F1 i34)), .val (.int (0 : Int32)), .unset, .unset]) rfl ?_
              show Steps p.tables e below (T36.setTop (mkF m 85 #[.val (.int p0_0), .val (.int p0_1), .val (.int i31), .val (.int i34), .val (.int (own_F1 i34)), .val (.int (0 : Int32)), .unset, .unset] [])) t
              refine XS.iloadN X36.here hx rfl (hb hby at_85) rfl ?_
              show Steps p.tables e below (T36.setTop (mkF m 86 #[.val (.int p0_0), .val (.int p0_1), .val (.int i31), .val (.int i34), .val (.int (own_F1 i34)), .val (.int (0 : Int32)), .unset, .unset] [(.int p0_1)])) t
              refine X36.ldcInt hx hown (mvT hZ (hw _ (List.mem_of_getElem? (i := 5) rfl))) (g := (mkF m 86 #[.val (.int p0_0), .val (.int p0_1), .val (.int i31), .val (.int i34), .val (.int (own_F1 i34)), .val (.int (0 : Int32)), .unset, .unset] [(.int p0_1)])) rfl (hb hby at_86) _ ?_
              show Steps p.tables e below (T36.setTop (mkF m 88 #[.val (.int p0_0), .val (.int p0_1), .val (.int i31), .val (.int i34), .val (.int (own_F1 i34)), .val (.int (0 : Int32)), .unset, .unset] [(.int (2147483647 : Int32)), (.int p0_1)])) t
              refine XS.iand X36.here hx rfl (hb hby at_88) rfl ?_
              show Steps p.tables e below (T36.setTop (mkF m 89 #[.val (.int p0_0), .val (.int p0_1), .val (.int i31), .val (.int i34), .val (.int (own_F1 i34)), .val (.int (0 : Int32)), .unset, .unset] [(.int (p0_1 &&& (2147483647 : Int32)))])) t
              refine XS.bipush X36.here hx rfl (hb hby at_89) ?_
              show Steps p.tables e below (T36.setTop (mkF m 91 #[.val (.int p0_0), .val (.int p0_1), .val (.int i31), .val (.int i34), .val (.int (own_F1 i34)), .val (.int (0 : Int32)), .unset, .unset] [(.int (35 : Int32)), (.int (p0_1 &&& (2147483647 : Int32)))])) t
              refine iremM (g := (mkF m 91 #[.val (.int p0_0), .val (.int p0_1), .val (.int i31), .val (.int i34), .val (.int (own_F1 i34)), .val (.int (0 : Int32)), .unset, .unset] [(.int (35 : Int32)), (.int (p0_1 &&& (2147483647 : Int32)))])) X36 hx rfl (hb hby at_91) rfl (by decide) ?_
              show Steps p.tables e below (T36.setTop (mkF m 92 #[.val (.int p0_0), .val (.int p0_1), .val (.int i31), .val (.int i34), .val (.int (own_F1 i34)), .val (.int (0 : Int32)), .unset, .unset] [(.int ((p0_1 &&& (2147483647 : Int32)) % (35 : Int32)))])) t
              refine XS.iconst X36.here hx rfl (hb hby at_92) ?_
              show Steps p.tables e below (T36.setTop (mkF m 93 #[.val (.int p0_0), .val (.int p0_1), .val (.int i31), .val (.int i34), .val (.int (own_F1 i34)), .val (.int (0 : Int32)), .unset, .unset] [(.int (1 : Int32)), (.int ((p0_1 &&& (2147483647 : Int32)) % (35 : Int32)))])) t
              refine XS.iadd X36.here hx rfl (hb hby at_93) rfl ?_
              show Steps p.tables e below (T36.setTop (mkF m 94 #[.val (.int p0_0), .val (.int p0_1), .val (.int i31), .val (.int i34), .val (.int (own_F1 i34)), .val (.int (0 : Int32)), .unset, .unset] [(.int (((p0_1 &&& (2147483647 : Int32)) % (35 : Int32)) + (1 : Int32)))])) t
              refine XS.istore X36.here hx rfl (hb hby at_94) rfl (l' := #[.val (.int p0_0), .val (.int p0_1), .val (.int i31), .val (.int i34), .val (.int (own_F1 i34)), .val (.int (0 : Int32)), .val (.int (((p0_1 &&& (2147483647 : Int32)) % (35 : Int32)) + (1 : Int32))), .unset]) rfl ?_
              show Steps p.tables e below (T36.setTop (mkF m 96 #[.val (.int p0_0), .val (.int p0_1), .val (.int i31), .val (.int i34), .val (.int (own_F1 i34)), .val (.int (0 : Int32)), .val (.int (((p0_1 &&& (2147483647 : Int32)) % (35 : Int32)) + (1 : Int32))), .unset] [])) t
              refine XS.iload X36.here hx rfl (hb hby at_96) rfl ?_
              show Steps p.tables e below (T36.setTop (mkF m 98 #[.val (.int p0_0), .val (.int p0_1), .val (.int i31), .val (.int i34), .val (.int (own_F1 i34)), .val (.int (0 : Int32)), .val (.int (((p0_1 &&& (2147483647 : Int32)) % (35 : Int32)) + (1 : Int32))), .unset] [(.int (((p0_1 &&& (2147483647 : Int32)) % (35 : Int32)) + (1 : Int32)))])) t
              exact k
            obtain ⟨v62, _, ⟨T62, L62, k62, n62⟩, -, X62, hS62', hk62', ⟨Lc62, hQ62, l62, y62, z62, CR62⟩, st62⟩ := callSS X36 hx (y := (⟨"com/example/yohokit/yohokit/Counts", "character", "(I)C"⟩ : MethodName)) hown (mvT hZ (hw _ (List.mem_of_getElem? (i := 6) rfl))) (mvT hZ (hw _ (List.mem_of_getElem? (i := 7) rfl))) (mvT hZ (hw _ (List.mem_of_getElem? (i := 3) rfl))) (mvT hZ (hw _ (List.mem_of_getElem? (i := 8) rfl))) (by decide) (backOfSH (W := 0) (own_rm2 l Z a0 hw [] (((p0_1 &&& (2147483647 : Int32)) % (35 : Int32)) + (1 : Int32)) cs fm h0 n0 Z0 O0 (own_b2 p0_1) SC HCS SFm HFm) hZ (hw _ (List.mem_of_getElem? (i := 8) rfl)) (hw _ (List.mem_of_getElem? (i := 3) rfl)) (by decide) (by decide) (own_ew hw) CR0.1) (g := (mkF m 98 #[.val (.int p0_0), .val (.int p0_1), .val (.int i31), .val (.int i34), .val (.int (own_F1 i34)), .val (.int (0 : Int32)), .val (.int (((p0_1 &&& (2147483647 : Int32)) % (35 : Int32)) + (1 : Int32))), .unset] [(.int (((p0_1 &&& (2147483647 : Int32)) % (35 : Int32)) + (1 : Int32)))])) rfl (by rw [hml]; rfl) (argsL := [(.int (((p0_1 &&& (2147483647 : Int32)) % (35 : Int32)) + (1 : Int32)))]) (rest := []) (lenOf pd__I_C rfl) rfl (by show 2 * 0 + _ ≤ _; exact Nat.le_of_eq rfl) (hb hby at_98) (fun _ _ => ⟨rfl, e36, (by decide : 0 + 2 ≤ _), (by decide : 0 + 144 ≤ _)⟩)
            dsimp only [Pt.U, Pt.locs, Pt.cells, Pt.slots] at X62 l62 y62 z62 st62 hQ62
            subst y62 z62
            obtain ⟨X62, hS62, hZ, hown⟩ := rebS hS0 (show _ ≤ T36.heap.size from by rw [e36]; exact hk0) X62 hS62' hk62' hZ hown
            have CQ62 := CR0.trans CR62
            obtain ⟨rfl, M62, K62⟩ := hQ62
            have K63 : Keep h0 T62.heap [] := (Keep.refl h0 []).trans K62 all0
            have O64 := O0.keep K62 all0
            have Z65 := Nat.le_trans Z0 K62.1
            have N66 : Fr n0 L62 := by rw [l62]; exact Fr.app N37 M62
            refine own_via (T' := T62) (g' := (mkF m 101 #[.val (.int p0_0), .val (.int p0_1), .val (.int i31), .val (.int i34), .val (.int (own_F1 i34)), .val (.int (0 : Int32)), .val (.int (((p0_1 &&& (2147483647 : Int32)) % (35 : Int32)) + (1 : Int32))), .unset] [(.int (own_F2 (((p0_1 &&& (2147483647 : Int32)) % (35 : Int32)) + (1 : Int32))))])) st62 ?_
            obtain ⟨v67, _, ⟨T67, L67, k67, n67⟩, -, X67, ⟨Lc67, hQ67, l67, y67, z67⟩, st67⟩ := Jvm.LawKit.callS X62 hx (y := (⟨"com/example/yohokit/yohokit/Counts", "number", "(C)I"⟩ : MethodName)) hown (mvT hZ (hw _ (List.mem_of_getElem? (i := 1) rfl))) (mvT hZ (hw _ (List.mem_of_getElem? (i := 2) rfl))) (mvT hZ (hw _ (List.mem_of_getElem? (i := 3) rfl))) (mvT hZ (hw _ (List.mem_of_getElem? (i := 4) rfl))) (by decide) (backOf (W := 0) (own_rm1 l Z a0 hw [] (own_F2 (((p0_1 &&& (2147483647 : Int32)) % (35 : Int32)) + (1 : Int32))) T62.heap n0 Z65) hZ (hw _ (List.mem_of_getElem? (i := 4) rfl)) (hw _ (List.mem_of_getElem? (i := 3) rfl)) (by decide) (by decide)) (g := (mkF m 101 #[.val (.int p0_0), .val (.int p0_1), .val (.int i31), .val (.int i34), .val (.int (own_F1 i34)), .val (.int (0 : Int32)), .val (.int (((p0_1 &&& (2147483647 : Int32)) % (35 : Int32)) + (1 : Int32))), .unset] [(.int (own_F2 (((p0_1 &&& (2147483647 : Int32)) % (35 : Int32)) + (1 : Int32))))])) rfl (by rw [hml]; rfl) (argsL := [(.int (own_F2 (((p0_1 &&& (2147483647 : Int32)) % (35 : Int32)) + (1 : Int32))))]) (rest := []) (lenOf pd__C_I rfl) rfl (by show 2 * 0 + _ ≤ _; exact Nat.le_of_eq rfl) (hb hby at_101) (fun _ _ => ⟨rfl, rfl, (by decide : 2 + 0 ≤ _), (by decide : 144 + 0 ≤ _)⟩)
            dsimp only [Pt.U, Pt.locs, Pt.cells, Pt.slots] at X67 l67 y67 z67 st67 hQ67
            subst y67 z67
            obtain ⟨rfl, M67, e67⟩ := hQ67
            have N68 : Fr n0 L67 := by rw [l67]; exact Fr.app N66 M67
            refine own_by (T' := T67) (g' := (mkF m 104 #[.val (.int p0_0), .val (.int p0_1), .val (.int i31), .val (.int i34), .val (.int (own_F1 i34)), .val (.int (0 : Int32)), .val (.int (((p0_1 &&& (2147483647 : Int32)) % (35 : Int32)) + (1 : Int32))), .unset] [(.int (own_F1 (own_F2 (((p0_1 &&& (2147483647 : Int32)) % (35 : Int32)) + (1 : Int32)))))])) st67 ?_
            refine own_by (T' := T67) (g' := (mkF m 106 #[.val (.int p0_0), .val (.int p0_1), .val (.int i31), .val (.int i34), .val (.int (own_F1 i34)), .val (.int (0 : Int32)), .val (.int (((p0_1 &&& (2147483647 : Int32)) % (35 : Int32)) + (1 : Int32))), .unset] [(.int (((p0_1 &&& (2147483647 : Int32)) % (35 : Int32)) + (1 : Int32))), (.int (own_F1 (own_F2 (((p0_1 &&& (2147483647 : Int32)) % (35 : Int32)) + (1 : Int32)))))])) (fun t k => ?_) ?_
            · show Steps p.tables e below (T67.setTop (mkF m 104 #[.val (.int p0_0), .val (.int p0_1), .val (.int i31), .val (.int i34), .val (.int (own_F1 i34)), .val (.int (0 : Int32)), .val (.int (((p0_1 &&& (2147483647 : Int32)) % (35 : Int32)) + (1 : Int32))), .unset] [(.int (own_F1 (own_F2 (((p0_1 &&& (2147483647 : Int32)) % (35 : Int32)) + (1 : Int32)))))])) t
              refine XS.iload X67.here hx rfl (hb hby at_104) rfl ?_
              show Steps p.tables e below (T67.setTop (mkF m 106 #[.val (.int p0_0), .val (.int p0_1), .val (.int i31), .val (.int i34), .val (.int (own_F1 i34)), .val (.int (0 : Int32)), .val (.int (((p0_1 &&& (2147483647 : Int32)) % (35 : Int32)) + (1 : Int32))), .unset] [(.int (((p0_1 &&& (2147483647 : Int32)) % (35 : Int32)) + (1 : Int32))), (.int (own_F1 (own_F2 (((p0_1 &&& (2147483647 : Int32)) % (35 : Int32)) + (1 : Int32)))))])) t
              exact k
            have J0_5 : ∀ (T71 : State) (L71 : List Loc) (i70 : Int32), Stand p l e room_1 (s.setVm T62.vm) m #[(.int p0_0), (.int p0_1)] below meth c T71 L71 2 144 → T71.heap = T62.heap → Fr n0 L71 → own_Go p e below (own_PW Z consts_1 s below room_1 (own_Q0 (own_F0_114_5 p0_0 p0_1 i31 i34 i70) h0 n0)) T71 (mkF m 114 #[.val (.int p0_0), .val (.int p0_1), .val (.int i31), .val (.int i34), .val (.int (own_F1 i34)), .val (.int (0 : Int32)), .val (.int (((p0_1 &&& (2147483647 : Int32)) % (35 : Int32)) + (1 : Int32))), .unset] [(.int i70)]) := by
              intro T71 L71 i70 X71 e71 N71
              refine own_by (T' := T71) (g' := (mkF m 131 #[.val (.int p0_0), .val (.int p0_1), .val (.int i31), .val (.int i34), .val (.int (own_F1 i34)), .val (.int (0 : Int32)), .val (.int (((p0_1 &&& (2147483647 : Int32)) % (35 : Int32)) + (1 : Int32))), .val (.int i70)] [(.int (0 : Int32))])) (fun t k => ?_) ?_
              · show Steps p.tables e below (T71.setTop (mkF m 114 #[.val (.int p0_0), .val (.int p0_1), .val (.int i31), .val (.int i34), .val (.int (own_F1 i34)), .val (.int (0 : Int32)), .val (.int (((p0_1 &&& (2147483647 : Int32)) % (35 : Int32)) + (1 : Int32))), .unset] [(.int i70)])) t
                refine XS.istore X71.here hx rfl (hb hby at_114) rfl (l' := #[.val (.int p0_0), .val (.int p0_1), .val (.int i31), .val (.int i34), .val (.int (own_F1 i34)), .val (.int (0 : Int32)), .val (.int (((p0_1 &&& (2147483647 : Int32)) % (35 : Int32)) + (1 : Int32))), .val (.int i70)]) rfl ?_
                show Steps p.tables e below (T71.setTop (mkF m 116 #[.val (.int p0_0), .val (.int p0_1), .val (.int i31), .val (.int i34), .val (.int (own_F1 i34)), .val (.int (0 : Int32)), .val (.int (((p0_1 &&& (2147483647 : Int32)) % (35 : Int32)) + (1 : Int32))), .val (.int i70)] [])) t
                refine XS.iload X71.here hx rfl (hb hby at_116) rfl ?_
                show Steps p.tables e below (T71.setTop (mkF m 118 #[.val (.int p0_0), .val (.int p0_1), .val (.int i31), .val (.int i34), .val (.int (own_F1 i34)), .val (.int (0 : Int32)), .val (.int (((p0_1 &&& (2147483647 : Int32)) % (35 : Int32)) + (1 : Int32))), .val (.int i70)] [(.int (0 : Int32))])) t
                refine XS.ifYes X71.here hx rfl (pc0 := 118) (pc' := 130) rfl (hb hby at_118) rfl ((if0 _ _).trans (teq (by decide : (0 : Int32) = (0 : Int32))).1) (by decide) (by decide) ?_
                show Steps p.tables e below (T71.setTop (mkF m 130 #[.val (.int p0_0), .val (.int p0_1), .val (.int i31), .val (.int i34), .val (.int (own_F1 i34)), .val (.int (0 : Int32)), .val (.int (((p0_1 &&& (2147483647 : Int32)) % (35 : Int32)) + (1 : Int32))), .val (.int i70)] [])) t
                refine XS.iconst X71.here hx rfl (hb hby at_130) ?_
                show Steps p.tables e below (T71.setTop (mkF m 131 #[.val (.int p0_0), .val (.int p0_1), .val (.int i31), .val (.int i34), .val (.int (own_F1 i34)), .val (.int (0 : Int32)), .val (.int (((p0_1 &&& (2147483647 : Int32)) % (35 : Int32)) + (1 : Int32))), .val (.int i70)] [(.int (0 : Int32))])) t
                exact k
              rw [show own_F0_114_5 p0_0 p0_1 i31 i34 i70 = (0 : Int32) from rfl]
              exact own_retNW X71 hZ (own_ew hw) hS62 (Nat.le_refl _) e71 CQ62 hh hx (t := .boolean) Bd.returns (by simp) (hb hby at_131) hlk (by decide) (by decide) ⟨rfl, N71⟩
            by_cases hc69 : (own_F1 (own_F2 (((p0_1 &&& (2147483647 : Int32)) % (35 : Int32)) + (1 : Int32)))) = (((p0_1 &&& (2147483647 : Int32)) % (35 : Int32)) + (1 : Int32))
            · skip
              refine own_by (T' := T67) (g' := (mkF m 114 #[.val (.int p0_0), .val (.int p0_1), .val (.int i31), .val (.int i34), .val (.int (own_F1 i34)), .val (.int (0 : Int32)), .val (.int (((p0_1 &&& (2147483647 : Int32)) % (35 : Int32)) + (1 : Int32))), .unset] [(.int (1 : Int32))])) (fun t k => ?_) ?_
              · show Steps p.tables e below (T67.setTop (mkF m 106 #[.val (.int p0_0), .val (.int p0_1), .val (.int i31), .val (.int i34), .val (.int (own_F1 i34)), .val (.int (0 : Int32)), .val (.int (((p0_1 &&& (2147483647 : Int32)) % (35 : Int32)) + (1 : Int32))), .unset] [(.int (((p0_1 &&& (2147483647 : Int32)) % (35 : Int32)) + (1 : Int32))), (.int (own_F1 (own_F2 (((p0_1 &&& (2147483647 : Int32)) % (35 : Int32)) + (1 : Int32)))))])) t
                refine XS.icmpNo X67.here hx rfl (hb hby at_106) rfl (teq hc69).2 ?_
                show Steps p.tables e below (T67.setTop (mkF m 109 #[.val (.int p0_0), .val (.int p0_1), .val (.int i31), .val (.int i34), .val (.int (own_F1 i34)), .val (.int (0 : Int32)), .val (.int (((p0_1 &&& (2147483647 : Int32)) % (35 : Int32)) + (1 : Int32))), .unset] [])) t
                refine XS.iconst X67.here hx rfl (hb hby at_109) ?_
                show Steps p.tables e below (T67.setTop (mkF m 110 #[.val (.int p0_0), .val (.int p0_1), .val (.int i31), .val (.int i34), .val (.int (own_F1 i34)), .val (.int (0 : Int32)), .val (.int (((p0_1 &&& (2147483647 : Int32)) % (35 : Int32)) + (1 : Int32))), .unset] [(.int (1 : Int32))])) t
                refine XS.goto X67.here hx rfl (pc0 := 110) (pc' := 114) rfl (hb hby at_110) (by decide) (by decide) ?_
                show Steps p.tables e below (T67.setTop (mkF m 114 #[.val (.int p0_0), .val (.int p0_1), .val (.int i31), .val (.int i34), .val (.int (own_F1 i34)), .val (.int (0 : Int32)), .val (.int (((p0_1 &&& (2147483647 : Int32)) % (35 : Int32)) + (1 : Int32))), .unset] [(.int (1 : Int32))])) t
                exact k
              rw [show own_F0_32_2 p0_0 p0_1 i31 i34 = (own_F0_114_5 p0_0 p0_1 i31 i34 (1 : Int32)) from ((if_neg hc38).trans ((if_neg hc50).trans ((if_pos hc61).trans ((if_pos hc69).trans rfl))))]
              exact J0_5 _ _ (1 : Int32) X67 e67 N68
            · skip
              refine own_by (T' := T67) (g' := (mkF m 114 #[.val (.int p0_0), .val (.int p0_1), .val (.int i31), .val (.int i34), .val (.int (own_F1 i34)), .val (.int (0 : Int32)), .val (.int (((p0_1 &&& (2147483647 : Int32)) % (35 : Int32)) + (1 : Int32))), .unset] [(.int (0 : Int32))])) (fun t k => ?_) ?_
              · show Steps p.tables e below (T67.setTop (mkF m 106 #[.val (.int p0_0), .val (.int p0_1), .val (.int i31), .val (.int i34), .val (.int (own_F1 i34)), .val (.int (0 : Int32)), .val (.int (((p0_1 &&& (2147483647 : Int32)) % (35 : Int32)) + (1 : Int32))), .unset] [(.int (((p0_1 &&& (2147483647 : Int32)) % (35 : Int32)) + (1 : Int32))), (.int (own_F1 (own_F2 (((p0_1 &&& (2147483647 : Int32)) % (35 : Int32)) + (1 : Int32)))))])) t
                refine XS.icmpYes X67.here hx rfl (pc0 := 106) (pc' := 113) rfl (hb hby at_106) rfl (feq hc69).2 (by decide) (by decide) ?_
                show Steps p.tables e below (T67.setTop (mkF m 113 #[.val (.int p0_0), .val (.int p0_1), .val (.int i31), .val (.int i34), .val (.int (own_F1 i34)), .val (.int (0 : Int32)), .val (.int (((p0_1 &&& (2147483647 : Int32)) % (35 : Int32)) + (1 : Int32))), .unset] [])) t
                refine XS.iconst X67.here hx rfl (hb hby at_113) ?_
                show Steps p.tables e below (T67.setTop (mkF m 114 #[.val (.int p0_0), .val (.int p0_1), .val (.int i31), .val (.int i34), .val (.int (own_F1 i34)), .val (.int (0 : Int32)), .val (.int (((p0_1 &&& (2147483647 : Int32)) % (35 : Int32)) + (1 : Int32))), .unset] [(.int (0 : Int32))])) t
                exact k
              rw [show own_F0_32_2 p0_0 p0_1 i31 i34 = (own_F0_114_5 p0_0 p0_1 i31 i34 (0 : Int32)) from ((if_neg hc38).trans ((if_neg hc50).trans ((if_pos hc61).trans ((if_neg hc69).trans rfl))))]
              exact J0_5 _ _ (0 : Int32) X67 e67 N68
          · skip
            refine own_by (T' := T36) (g' := (mkF m 65 #[.val (.int p0_0), .val (.int p0_1), .val (.int i31), .val (.int i34), .val (.int (own_F1 i34)), .unset, .unset, .unset] [(.int (own_F1 i34))])) (fun t k => ?_) ?_
            · show Steps p.tables e below (T36.setTop (mkF m 60 #[.val (.int p0_0), .val (.int p0_1), .val (.int i31), .val (.int i34), .val (.int (own_F1 i34)), .unset, .unset, .unset] [(.int (35 : Int32)), (.int (own_F1 i34))])) t
              refine XS.icmpNo X36.here hx rfl (hb hby at_60) rfl (flt hc61).2.2.1 ?_
              show Steps p.tables e below (T36.setTop (mkF m 63 #[.val (.int p0_0), .val (.int p0_1), .val (.int i31), .val (.int i34), .val (.int (own_F1 i34)), .unset, .unset, .unset] [])) t
              refine XS.iload X36.here hx rfl (hb hby at_63) rfl ?_
              show Steps p.tables e below (T36.setTop (mkF m 65 #[.val (.int p0_0), .val (.int p0_1), .val (.int i31), .val (.int i34), .val (.int (own_F1 i34)), .unset, .unset, .unset] [(.int (own_F1 i34))])) t
              exact k
            obtain ⟨v72, _, ⟨T72, L72, k72, n72⟩, -, X72, hS72', hk72', ⟨Lc72, hQ72, l72, y72, z72, CR72⟩, st72⟩ := callSS X36 hx (y := (⟨"com/example/yohokit/yohokit/Counts", "character", "(I)C"⟩ : MethodName)) hown (mvT hZ (hw _ (List.mem_of_getElem? (i := 6) rfl))) (mvT hZ (hw _ (List.mem_of_getElem? (i := 7) rfl))) (mvT hZ (hw _ (List.mem_of_getElem? (i := 3) rfl))) (mvT hZ (hw _ (List.mem_of_getElem? (i := 8) rfl))) (by decide) (backOfSH (W := 0) (own_rm2 l Z a0 hw [] (own_F1 i34) cs fm h0 n0 Z0 O0 (own_b1 hc50 hc61) SC HCS SFm HFm) hZ (hw _ (List.mem_of_getElem? (i := 8) rfl)) (hw _ (List.mem_of_getElem? (i := 3) rfl)) (by decide) (by decide) (own_ew hw) CR0.1) (g := (mkF m 65 #[.val (.int p0_0), .val (.int p0_1), .val (.int i31), .val (.int i34), .val (.int (own_F1 i34)), .unset, .unset, .unset] [(.int (own_F1 i34))])) rfl (by rw [hml]; rfl) (argsL := [(.int (own_F1 i34))]) (rest := []) (lenOf pd__I_C rfl) rfl (by show 2 * 0 + _ ≤ _; exact Nat.le_of_eq rfl) (hb hby at_65) (fun _ _ => ⟨rfl, e36, (by decide : 0 + 2 ≤ _), (by decide : 0 + 144 ≤ _)⟩)
            dsimp only [Pt.U, Pt.locs, Pt.cells, Pt.slots] at X72 l72 y72 z72 st72 hQ72
            subst y72 z72
            obtain ⟨X72, hS72, hZ, hown⟩ := rebS hS0 (show _ ≤ T36.heap.size from by rw [e36]; exact hk0) X72 hS72' hk72' hZ hown
            have CQ72 := CR0.trans CR72
            obtain ⟨rfl, M72, K72⟩ := hQ72
            have K73 : Keep h0 T72.heap [] := (Keep.refl h0 []).trans K72 all0
            have O74 := O0.keep K72 all0
            have Z75 := Nat.le_trans Z0 K72.1
            have N76 : Fr n0 L72 := by rw [l72]; exact Fr.app N37 M72
            refine own_via (T' := T72) (g' := (mkF m 68 #[.val (.int p0_0), .val (.int p0_1), .val (.int i31), .val (.int i34), .val (.int (own_F1 i34)), .unset, .unset, .unset] [(.int (own_F2 (own_F1 i34)))])) st72 ?_
            refine own_by (T' := T72) (g' := (mkF m 69 #[.val (.int p0_0), .val (.int p0_1), .val (.int i31), .val (.int i34), .val (.int (own_F1 i34)), .unset, .unset, .unset] [(.int i34), (.int (own_F2 (own_F1 i34)))])) (fun t k => ?_) ?_
            · show Steps p.tables e below (T72.setTop (mkF m 68 #[.val (.int p0_0), .val (.int p0_1), .val (.int i31), .val (.int i34), .val (.int (own_F1 i34)), .unset, .unset, .unset] [(.int (own_F2 (own_F1 i34)))])) t
              refine XS.iloadN X72.here hx rfl (hb hby at_68) rfl ?_
              show Steps p.tables e below (T72.setTop (mkF m 69 #[.val (.int p0_0), .val (.int p0_1), .val (.int i31), .val (.int i34), .val (.int (own_F1 i34)), .unset, .unset, .unset] [(.int i34), (.int (own_F2 (own_F1 i34)))])) t
              exact k
            by_cases hc77 : (own_F2 (own_F1 i34)) = i34
            · skip
              refine own_by (T' := T72) (g' := (mkF m 98 #[.val (.int p0_0), .val (.int p0_1), .val (.int i31), .val (.int i34), .val (.int (own_F1 i34)), .val (.int (1 : Int32)), .val (.int (((p0_1 &&& (2147483647 : Int32)) % (35 : Int32)) + (1 : Int32))), .unset] [(.int (((p0_1 &&& (2147483647 : Int32)) % (35 : Int32)) + (1 : Int32)))])) (fun t k => ?_) ?_
              · show Steps p.tables e below (T72.setTop (mkF m 69 #[.val (.int p0_0), .val (.int p0_1), .val (.int i31), .val (.int i34), .val (.int (own_F1 i34)), .unset, .unset, .unset] [(.int i34), (.int (own_F2 (own_F1 i34)))])) t
                refine XS.icmpNo X72.here hx rfl (hb hby at_69) rfl (teq hc77).2 ?_
                show Steps p.tables e below (T72.setTop (mkF m 72 #[.val (.int p0_0), .val (.int p0_1), .val (.int i31), .val (.int i34), .val (.int (own_F1 i34)), .unset, .unset, .unset] [])) t
                refine XS.iconst X72.here hx rfl (hb hby at_72) ?_
                show Steps p.tables e below (T72.setTop (mkF m 73 #[.val (.int p0_0), .val (.int p0_1), .val (.int i31), .val (.int i34), .val (.int (own_F1 i34)), .unset, .unset, .unset] [(.int (1 : Int32))])) t
                refine XS.goto X72.here hx rfl (pc0 := 73) (pc' := 77) rfl (hb hby at_73) (by decide) (by decide) ?_
                show Steps p.tables e below (T72.setTop (mkF m 77 #[.val (.int p0_0), .val (.int p0_1), .val (.int i31), .val (.int i34), .val (.int (own_F1 i34)), .unset, .unset, .unset] [(.int (1 : Int32))])) t
                refine XS.istore X72.here hx rfl (hb hby at_77) rfl (l' := #[.val (.int p0_0), .val (.int p0_1), .val (.int i31), .val (.int i34), .val (.int (own_F1 i34)), .val (.int (1 : Int32)), .unset, .unset]) rfl ?_
                show Steps p.tables e below (T72.setTop (mkF m 79 #[.val (.int p0_0), .val (.int p0_1), .val (.int i31), .val (.int i34), .val (.int (own_F1 i34)), .val (.int (1 : Int32)), .unset, .unset] [])) t
                refine XS.goto X72.here hx rfl (pc0 := 79) (pc' := 85) rfl (hb hby at_79) (by decide) (by decide) ?_
                show Steps p.tables e below (T72.setTop (mkF m 85 #[.val (.int p0_0), .val (.int p0_1), .val (.int i31), .val (.int i34), .val (.int (own_F1 i34)), .val (.int (1 : Int32)), .unset, .unset] [])) t
                refine XS.iloadN X72.here hx rfl (hb hby at_85) rfl ?_
                show Steps p.tables e below (T72.setTop (mkF m 86 #[.val (.int p0_0), .val (.int p0_1), .val (.int i31), .val (.int i34), .val (.int (own_F1 i34)), .val (.int (1 : Int32)), .unset, .unset] [(.int p0_1)])) t
                refine X72.ldcInt hx hown (mvT hZ (hw _ (List.mem_of_getElem? (i := 5) rfl))) (g := (mkF m 86 #[.val (.int p0_0), .val (.int p0_1), .val (.int i31), .val (.int i34), .val (.int (own_F1 i34)), .val (.int (1 : Int32)), .unset, .unset] [(.int p0_1)])) rfl (hb hby at_86) _ ?_
                show Steps p.tables e below (T72.setTop (mkF m 88 #[.val (.int p0_0), .val (.int p0_1), .val (.int i31), .val (.int i34), .val (.int (own_F1 i34)), .val (.int (1 : Int32)), .unset, .unset] [(.int (2147483647 : Int32)), (.int p0_1)])) t
                refine XS.iand X72.here hx rfl (hb hby at_88) rfl ?_
                show Steps p.tables e below (T72.setTop (mkF m 89 #[.val (.int p0_0), .val (.int p0_1), .val (.int i31), .val (.int i34), .val (.int (own_F1 i34)), .val (.int (1 : Int32)), .unset, .unset] [(.int (p0_1 &&& (2147483647 : Int32)))])) t
                refine XS.bipush X72.here hx rfl (hb hby at_89) ?_
                show Steps p.tables e below (T72.setTop (mkF m 91 #[.val (.int p0_0), .val (.int p0_1), .val (.int i31), .val (.int i34), .val (.int (own_F1 i34)), .val (.int (1 : Int32)), .unset, .unset] [(.int (35 : Int32)), (.int (p0_1 &&& (2147483647 : Int32)))])) t
                refine iremM (g := (mkF m 91 #[.val (.int p0_0), .val (.int p0_1), .val (.int i31), .val (.int i34), .val (.int (own_F1 i34)), .val (.int (1 : Int32)), .unset, .unset] [(.int (35 : Int32)), (.int (p0_1 &&& (2147483647 : Int32)))])) X72 hx rfl (hb hby at_91) rfl (by decide) ?_
                show Steps p.tables e below (T72.setTop (mkF m 92 #[.val (.int p0_0), .val (.int p0_1), .val (.int i31), .val (.int i34), .val (.int (own_F1 i34)), .val (.int (1 : Int32)), .unset, .unset] [(.int ((p0_1 &&& (2147483647 : Int32)) % (35 : Int32)))])) t
                refine XS.iconst X72.here hx rfl (hb hby at_92) ?_
                show Steps p.tables e below (T72.setTop (mkF m 93 #[.val (.int p0_0), .val (.int p0_1), .val (.int i31), .val (.int i34), .val (.int (own_F1 i34)), .val (.int (1 : Int32)), .unset, .unset] [(.int (1 : Int32)), (.int ((p0_1 &&& (2147483647 : Int32)) % (35 : Int32)))])) t
                refine XS.iadd X72.here hx rfl (hb hby at_93) rfl ?_
                show Steps p.tables e below (T72.setTop (mkF m 94 #[.val (.int p0_0), .val (.int p0_1), .val (.int i31), .val (.int i34), .val (.int (own_F1 i34)), .val (.int (1 : Int32)), .unset, .unset] [(.int (((p0_1 &&& (2147483647 : Int32)) % (35 : Int32)) + (1 : Int32)))])) t
                refine XS.istore X72.here hx rfl (hb hby at_94) rfl (l' := #[.val (.int p0_0), .val (.int p0_1), .val (.int i31), .val (.int i34), .val (.int (own_F1 i34)), .val (.int (1 : Int32)), .val (.int (((p0_1 &&& (2147483647 : Int32)) % (35 : Int32)) + (1 : Int32))), .unset]) rfl ?_
                show Steps p.tables e below (T72.setTop (mkF m 96 #[.val (.int p0_0), .val (.int p0_1), .val (.int i31), .val (.int i34), .val (.int (own_F1 i34)), .val (.int (1 : Int32)), .val (.int (((p0_1 &&& (2147483647 : Int32)) % (35 : Int32)) + (1 : Int32))), .unset] [])) t
                refine XS.iload X72.here hx rfl (hb hby at_96) rfl ?_
                show Steps p.tables e below (T72.setTop (mkF m 98 #[.val (.int p0_0), .val (.int p0_1), .val (.int i31), .val (.int i34), .val (.int (own_F1 i34)), .val (.int (1 : Int32)), .val (.int (((p0_1 &&& (2147483647 : Int32)) % (35 : Int32)) + (1 : Int32))), .unset] [(.int (((p0_1 &&& (2147483647 : Int32)) % (35 : Int32)) + (1 : Int32)))])) t
                exact k
              obtain ⟨v78, _, ⟨T78, L78, k78, n78⟩, -, X78, hS78', hk78', ⟨Lc78, hQ78, l78, y78, z78, CR78⟩, st78⟩ := callSS X72 hx (y := (⟨"com/example/yohokit/yohokit/Counts", "character", "(I)C"⟩ : MethodName)) hown (mvT hZ (hw _ (List.mem_of_getElem? (i := 6) rfl))) (mvT hZ (hw _ (List.mem_of_getElem? (i := 7) rfl))) (mvT hZ (hw _ (List.mem_of_getElem? (i := 3) rfl))) (mvT hZ (hw _ (List.mem_of_getElem? (i := 8) rfl))) (by decide) (backOfSH (W := 0) (own_rm2 l Z a0 hw [] (((p0_1 &&& (2147483647 : Int32)) % (35 : Int32)) + (1 : Int32)) cs fm T72.heap n0 Z75 O74 (own_b2 p0_1) SC HCS SFm HFm) hZ (hw _ (List.mem_of_getElem? (i := 8) rfl)) (hw _ (List.mem_of_getElem? (i := 3) rfl)) (by decide) (by decide) (own_ew hw) CQ72.1) (g := (mkF m 98 #[.val (.int p0_0), .val (.int p0_1), .val (.int i31), .val (.int i34), .val (.int (own_F1 i34)), .val (.int (1 : Int32)), .val (.int (((p0_1 &&& (2147483647 : Int32)) % (35 : Int32)) + (1 : Int32))), .unset] [(.int (((p0_1 &&& (2147483647 : Int32)) % (35 : Int32)) + (1 : Int32)))])) rfl (by rw [hml]; rfl) (argsL := [(.int (((p0_1 &&& (2147483647 : Int32)) % (35 : Int32)) + (1 : Int32)))]) (rest := []) (lenOf pd__I_C rfl) rfl (by show 2 * 0 + _ ≤ _; exact Nat.le_of_eq rfl) (hb hby at_98) (fun _ _ => ⟨rfl, rfl, (by decide : 2 + 2 ≤ _), (by decide : 144 + 144 ≤ _)⟩)
              dsimp only [Pt.U, Pt.locs, Pt.cells, Pt.slots] at X78 l78 y78 z78 st78 hQ78
              subst y78 z78
              obtain ⟨X78, hS78, hZ, hown⟩ := rebS hS72 (show _ ≤ T72.heap.size from (Nat.le_refl _)) X78 hS78' hk78' hZ hown
              have CQ78 := CQ72.trans CR78
              obtain ⟨rfl, M78, K78⟩ := hQ78
              have K79 : Keep h0 T78.heap [] := K73.trans K78 all0
              have O80 := O74.keep K78 all0
              have Z81 := Nat.le_trans Z75 K78.1
              have N82 : Fr n0 L78 := by rw [l78]; exact Fr.app N76 M78
              refine own_via (T' := T78) (g' := (mkF m 101 #[.val (.int p0_0), .val (.int p0_1), .val (.int i31), .val (.int i34), .val (.int (own_F1 i34)), .val (.int (1 : Int32)), .val (.int (((p0_1 &&& (2147483647 : Int32)) % (35 : Int32)) + (1 : Int32))), .unset] [(.int (own_F2 (((p0_1 &&& (2147483647 : Int32)) % (35 : Int32)) + (1 : Int32))))])) st78 ?_
              obtain ⟨v83, _, ⟨T83, L83, k83, n83⟩, -, X83, ⟨Lc83, hQ83, l83, y83, z83⟩, st83⟩ := Jvm.LawKit.callS X78 hx (y := (⟨"com/example/yohokit/yohokit/Counts", "number", "(C)I"⟩ : MethodName)) hown (mvT hZ (hw _ (List.mem_of_getElem? (i := 1) rfl))) (mvT hZ (hw _ (List.mem_of_getElem? (i := 2) rfl))) (mvT hZ (hw _ (List.mem_of_getElem? (i := 3) rfl))) (mvT hZ (hw _ (List.mem_of_getElem? (i := 4) rfl))) (by decide) (backOf (W := 0) (own_rm1 l Z a0 hw [] (own_F2 (((p0_1 &&& (2147483647 : Int32)) % (35 : Int32)) + (1 : Int32))) T78.heap n0 Z81) hZ (hw _ (List.mem_of_getElem? (i := 4) rfl)) (hw _ (List.mem_of_getElem? (i := 3) rfl)) (by decide) (by decide)) (g := (mkF m 101 #[.val (.int p0_0), .val (.int p0_1), .val (.int i31), .val (.int i34), .val (.int (own_F1 i34)), .val (.int (1 : Int32)), .val (.int (((p0_1 &&& (2147483647 : Int32)) % (35 : Int32)) + (1 : Int32))), .unset] [(.int (own_F2 (((p0_1 &&& (2147483647 : Int32)) % (35 : Int32)) + (1 : Int32))))])) rfl (by rw [hml]; rfl) (argsL := [(.int (own_F2 (((p0_1 &&& (2147483647 : Int32)) % (35 : Int32)) + (1 : Int32))))]) (rest := []) (lenOf pd__C_I rfl) rfl (by show 2 * 0 + _ ≤ _; exact Nat.le_of_eq rfl) (hb hby at_101) (fun _ _ => ⟨rfl, rfl, (by decide : 4 + 0 ≤ _), (by decide : 288 + 0 ≤ _)⟩)
              dsimp only [Pt.U, Pt.locs, Pt.cells, Pt.slots] at X83 l83 y83 z83 st83 hQ83
              subst y83 z83
              obtain ⟨rfl, M83, e83⟩ := hQ83
              have N84 : Fr n0 L83 := by rw [l83]; exact Fr.app N82 M83
              refine own_by (T' := T83) (g' := (mkF m 104 #[.val (.int p0_0), .val (.int p0_1), .val (.int i31), .val (.int i34), .val (.int (own_F1 i34)), .val (.int (1 : Int32)), .val (.int (((p0_1 &&& (2147483647 : Int32)) % (35 : Int32)) + (1 : Int32))), .unset] [(.int (own_F1 (own_F2 (((p0_1 &&& (2147483647 : Int32)) % (35 : Int32)) + (1 : Int32)))))])) st83 ?_
              refine own_by (T' := T83) (g' := (mkF m 106 #[.val (.int p0_0), .val (.int p0_1), .val (.int i31), .val (.int i34), .val (.int (own_F1 i34)), .val (.int (1 : Int32)), .val (.int (((p0_1 &&& (2147483647 : Int32)) % (35 : Int32)) + (1 : Int32))), .unset] [(.int (((p0_1 &&& (2147483647 : Int32)) % (35 : Int32)) + (1 : Int32))), (.int (own_F1 (own_F2 (((p0_1 &&& (2147483647 : Int32)) % (35 : Int32)) + (1 : Int32)))))])) (fun t k => ?_) ?_
              · show Steps p.tables e below (T83.setTop (mkF m 104 #[.val (.int p0_0), .val (.int p0_1), .val (.int i31), .val (.int i34), .val (.int (own_F1 i34)), .val (.int (1 : Int32)), .val (.int (((p0_1 &&& (2147483647 : Int32)) % (35 : Int32)) + (1 : Int32))), .unset] [(.int (own_F1 (own_F2 (((p0_1 &&& (2147483647 : Int32)) % (35 : Int32)) + (1 : Int32)))))])) t
                refine XS.iload X83.here hx rfl (hb hby at_104) rfl ?_
                show Steps p.tables e below (T83.setTop (mkF m 106 #[.val (.int p0_0), .val (.int p0_1), .val (.int i31), .val (.int i34), .val (.int (own_F1 i34)), .val (.int (1 : Int32)), .val (.int (((p0_1 &&& (2147483647 : Int32)) % (35 : Int32)) + (1 : Int32))), .unset] [(.int (((p0_1 &&& (2147483647 : Int32)) % (35 : Int32)) + (1 : Int32))), (.int (own_F1 (own_F2 (((p0_1 &&& (2147483647 : Int32)) % (35 : Int32)) + (1 : Int32)))))])) t
                exact k
              have J0_6 : ∀ (T87 : State) (L87 : List Loc) (i86 : Int32), Stand p l e room_1 (s.setVm T78.vm) m #[(.int p0_0), (.int p0_1)] below meth c T87 L87 4 288 → T87.heap = T78.heap → Fr n0 L87 → own_Go p e below (own_PW Z consts_1 s below room_1 (own_Q0 (own_F0_114_6 p0_0 p0_1 i31 i34 i86) h0 n0)) T87 (mkF m 114 #[.val (.int p0_0), .val (.int p0_1), .val (.int i31), .val (.int i34), .val (.int (own_F1 i34)), .val (.int (1 : Int32)), .val (.int (((p0_1 &&& (2147483647 : Int32)) % (35 : Int32)) + (1 : Int32))), .unset] [(.int i86)]) := by
                intro T87 L87 i86 X87 e87 N87
                refine own_by (T' := T87) (g' := (mkF m 123 #[.val (.int p0_0), .val (.int p0_1), .val (.int i31), .val (.int i34), .val (.int (own_F1 i34)), .val (.int (1 : Int32)), .val (.int (((p0_1 &&& (2147483647 : Int32)) % (35 : Int32)) + (1 : Int32))), .val (.int i86)] [(.int i86)])) (fun t k => ?_) ?_
                · show Steps p.tables e below (T87.setTop (mkF m 114 #[.val (.int p0_0), .val (.int p0_1), .val (.int i31), .val (.int i34), .val (.int (own_F1 i34)), .val (.int (1 : Int32)), .val (.int (((p0_1 &&& (2147483647 : Int32)) % (35 : Int32)) + (1 : Int32))), .unset] [(.int i86)])) t
                  refine XS.istore X87.here hx rfl (hb hby at_114) rfl (l' := #[.val (.int p0_0), .val (.int p0_1), .val (.int i31), .val (.int i34), .val (.int (own_F1 i34)), .val (.int (1 : Int32)), .val (.int (((p0_1 &&& (2147483647 : Int32)) % (35 : Int32)) + (1 : Int32))), .val (.int i86)]) rfl ?_
                  show Steps p.tables e below (T87.setTop (mkF m 116 #[.val (.int p0_0), .val (.int p0_1), .val (.int i31), .val (.int i34), .val (.int (own_F1 i34)), .val (.int (1 : Int32)), .val (.int (((p0_1 &&& (2147483647 : Int32)) % (35 : Int32)) + (1 : Int32))), .val (.int i86)] [])) t
                  refine XS.iload X87.here hx rfl (hb hby at_116) rfl ?_
                  show Steps p.tables e below (T87.setTop (mkF m 118 #[.val (.int p0_0), .val (.int p0_1), .val (.int i31), .val (.int i34), .val (.int (own_F1 i34)), .val (.int (1 : Int32)), .val (.int (((p0_1 &&& (2147483647 : Int32)) % (35 : Int32)) + (1 : Int32))), .val (.int i86)] [(.int (1 : Int32))])) t
                  refine XS.ifNo X87.here hx rfl (hb hby at_118) rfl ((if0 _ _).trans (feq (by decide : ¬ ((1 : Int32) = (0 : Int32)))).1) ?_
                  show Steps p.tables e below (T87.setTop (mkF m 121 #[.val (.int p0_0), .val (.int p0_1), .val (.int i31), .val (.int i34), .val (.int (own_F1 i34)), .val (.int (1 : Int32)), .val (.int (((p0_1 &&& (2147483647 : Int32)) % (35 : Int32)) + (1 : Int32))), .val (.int i86)] [])) t
                  refine XS.iload X87.here hx rfl (hb hby at_121) rfl ?_
                  show Steps p.tables e below (T87.setTop (mkF m 123 #[.val (.int p0_0), .val (.int p0_1), .val (.int i31), .val (.int i34), .val (.int (own_F1 i34)), .val (.int (1 : Int32)), .val (.int (((p0_1 &&& (2147483647 : Int32)) % (35 : Int32)) + (1 : Int32))), .val (.int i86)] [(.int i86)])) t
                  exact k
                by_cases hc88 : i86 = (0 : Int32)
                · skip
                  refine own_by (T' := T87) (g' := (mkF m 131 #[.val (.int p0_0), .val (.int p0_1), .val (.int i31), .val (.int i34), .val (.int (own_F1 i34)), .val (.int (1 : Int32)), .val (.int (((p0_1 &&& (2147483647 : Int32)) % (35 : Int32)) + (1 : Int32))), .val (.int i86)] [(.int (0 : Int32))])) (fun t k => ?_) ?_
                  · show Steps p.tables e below (T87.setTop (mkF m 123 #[.val (.int p0_0), .val (.int p0_1), .val (.int i31), .val (.int i34), .val (.int (own_F1 i34)), .val (.int (1 : Int32)), .val (.int (((p0_1 &&& (2147483647 : Int32)) % (35 : Int32)) + (1 : Int32))), .val (.int i86)] [(.int i86)])) t
                    refine XS.ifYes X87.here hx rfl (pc0 := 123) (pc' := 130) rfl (hb hby at_123) rfl ((if0 _ _).trans (teq hc88).1) (by decide) (by decide) ?_
                    show Steps p.tables e below (T87.setTop (mkF m 130 #[.val (.int p0_0), .val (.int p0_1), .val (.int i31), .val (.int i34), .val (.int (own_F1 i34)), .val (.int (1 : Int32)), .val (.int (((p0_1 &&& (2147483647 : Int32)) % (35 : Int32)) + (1 : Int32))), .val (.int i86)] [])) t
                    refine XS.iconst X87.here hx rfl (hb hby at_130) ?_
                    show Steps p.tables e below (T87.setTop (mkF m 131 #[.val (.int p0_0), .val (.int p0_1), .val (.int i31), .val (.int i34), .val (.int (own_F1 i34)), .val (.int (1 : Int32)), .val (.int (((p0_1 &&& (2147483647 : Int32)) % (35 : Int32)) + (1 : Int32))), .val (.int i86)] [(.int (0 : Int32))])) t
                    exact k
                  rw [show own_F0_114_6 p0_0 p0_1 i31 i34 i86 = (0 : Int32) from ((if_pos hc88).trans rfl)]
                  exact own_retNW X87 hZ (own_ew hw) hS78 (Nat.le_refl _) e87 CQ78 hh hx (t := .boolean) Bd.returns (by simp) (hb hby at_131) hlk (by decide) (by decide) ⟨rfl, N87⟩
                · skip
                  refine own_by (T' := T87) (g' := (mkF m 131 #[.val (.int p0_0), .val (.int p0_1), .val (.int i31), .val (.int i34), .val (.int (own_F1 i34)), .val (.int (1 : Int32)), .val (.int (((p0_1 &&& (2147483647 : Int32)) % (35 : Int32)) + (1 : Int32))), .val (.int i86)] [(.int (1 : Int32))])) (fun t k => ?_) ?_
                  · show Steps p.tables e below (T87.setTop (mkF m 123 #[.val (.int p0_0), .val (.int p0_1), .val (.int i31), .val (.int i34), .val (.int (own_F1 i34)), .val (.int (1 : Int32)), .val (.int (((p0_1 &&& (2147483647 : Int32)) % (35 : Int32)) + (1 : Int32))), .val (.int i86)] [(.int i86)])) t
                    refine XS.ifNo X87.here hx rfl (hb hby at_123) rfl ((if0 _ _).trans (feq hc88).1) ?_
                    show Steps p.tables e below (T87.setTop (mkF m 126 #[.val (.int p0_0), .val (.int p0_1), .val (.int i31), .val (.int i34), .val (.int (own_F1 i34)), .val (.int (1 : Int32)), .val (.int (((p0_1 &&& (2147483647 : Int32)) % (35 : Int32)) + (1 : Int32))), .val (.int i86)] [])) t
                    refine XS.iconst X87.here hx rfl (hb hby at_126) ?_
                    show Steps p.tables e below (T87.setTop (mkF m 127 #[.val (.int p0_0), .val (.int p0_1), .val (.int i31), .val (.int i34), .val (.int (own_F1 i34)), .val (.int (1 : Int32)), .val (.int (((p0_1 &&& (2147483647 : Int32)) % (35 : Int32)) + (1 : Int32))), .val (.int i86)] [(.int (1 : Int32))])) t
                    refine XS.goto X87.here hx rfl (pc0 := 127) (pc' := 131) rfl (hb hby at_127) (by decide) (by decide) ?_
                    show Steps p.tables e below (T87.setTop (mkF m 131 #[.val (.int p0_0), .val (.int p0_1), .val (.int i31), .val (.int i34), .val (.int (own_F1 i34)), .val (.int (1 : Int32)), .val (.int (((p0_1 &&& (2147483647 : Int32)) % (35 : Int32)) + (1 : Int32))), .val (.int i86)] [(.int (1 : Int32))])) t
                    exact k
                  rw [show own_F0_114_6 p0_0 p0_1 i31 i34 i86 = (1 : Int32) from ((if_neg hc88).trans rfl)]
                  exact own_retNW X87 hZ (own_ew hw) hS78 (Nat.le_refl _) e87 CQ78 hh hx (t := .boolean) Bd.returns (by simp) (hb hby at_131) hlk (by decide) (by decide) ⟨rfl, N87⟩
              by_cases hc85 : (own_F1 (own_F2 (((p0_1 &&& (2147483647 : Int32)) % (35 : Int32)) + (1 : Int32)))) = (((p0_1 &&& (2147483647 : Int32)) % (35 : Int32)) + (1 : Int32))
              · skip
                refine own_by (T' := T83) (g' := (mkF m 114 #[.val (.int p0_0), .val (.int p0_1), .val (.int i31), .val (.int i34), .val (.int (own_F1 i34)), .val (.int (1 : Int32)), .val (.int (((p0_1 &&& (2147483647 : Int32)) % (35 : Int32)) + (1 : Int32))), .unset] [(.int (1 : Int32))])) (fun t k => ?_) ?_
                · show Steps p.tables e below (T83.setTop (mkF m 106 #[.val (.int p0_0), .val (.int p0_1), .val (.int i31), .val (.int i34), .val (.int (own_F1 i34)), .val (.int (1 : Int32)), .val (.int (((p0_1 &&& (2147483647 : Int32)) % (35 : Int32)) + (1 : Int32))), .unset] [(.int (((p0_1 &&& (2147483647 : Int32)) % (35 : Int32)) + (1 : Int32))), (.int (own_F1 (own_F2 (((p0_1 &&& (2147483647 : Int32)) % (35 : Int32)) + (1 : Int32)))))])) t
                  refine XS.icmpNo X83.here hx rfl (hb hby at_106) rfl (teq hc85).2 ?_
                  show Steps p.tables e below (T83.setTop (mkF m 109 #[.val (.int p0_0), .val (.int p0_1), .val (.int i31), .val (.int i34), .val (.int (own_F1 i34)), .val (.int (1 : Int32)), .val (.int (((p0_1 &&& (2147483647 : Int32)) % (35 : Int32)) + (1 : Int32))), .unset] [])) t
                  refine XS.iconst X83.here hx rfl (hb hby at_109) ?_
                  show Steps p.tables e below (T83.setTop (mkF m 110 #[.val (.int p0_0), .val (.int p0_1), .val (.int i31), .val (.int i34), .val (.int (own_F1 i34)), .val (.int (1 : Int32)), .val (.int (((p0_1 &&& (2147483647 : Int32)) % (35 : Int32)) + (1 : Int32))), .unset] [(.int (1 : Int32))])) t
                  refine XS.goto X83.here hx rfl (pc0 := 110) (pc' := 114) rfl (hb hby at_110) (by decide) (by decide) ?_
                  show Steps p.tables e below (T83.setTop (mkF m 114 #[.val (.int p0_0), .val (.int p0_1), .val (.int i31), .val (.int i34), .val (.int (own_F1 i34)), .val (.int (1 : Int32)), .val (.int (((p0_1 &&& (2147483647 : Int32)) % (35 : Int32)) + (1 : Int32))), .unset] [(.int (1 : Int32))])) t
                  exact k
                rw [show own_F0_32_2 p0_0 p0_1 i31 i34 = (own_F0_114_6 p0_0 p0_1 i31 i34 (1 : Int32)) from ((if_neg hc38).trans ((if_neg hc50).trans ((if_neg hc61).trans ((if_pos hc77).trans ((if_pos hc85).trans rfl)))))]
                exact J0_6 _ _ (1 : Int32) X83 e83 N84
              · skip
                refine own_by (T' := T83) (g' := (mkF m 114 #[.val (.int p0_0), .val (.int p0_1), .val (.int i31), .val (.int i34), .val (.int (own_F1 i34)), .val (.int (1 : Int32)), .val (.int (((p0_1 &&& (2147483647 : Int32)) % (35 : Int32)) + (1 : Int32))), .unset] [(.int (0 : Int32))])) (fun t k => ?_) ?_
                · show Steps p.tables e below (T83.setTop (mkF m 106 #[.val (.int p0_0), .val (.int p0_1), .val (.int i31), .val (.int i34), .val (.int (own_F1 i34)), .val (.int (1 : Int32)), .val (.int (((p0_1 &&& (2147483647 : Int32)) % (35 : Int32)) + (1 : Int32))), .unset] [(.int (((p0_1 &&& (2147483647 : Int32)) % (35 : Int32)) + (1 : Int32))), (.int (own_F1 (own_F2 (((p0_1 &&& (2147483647 : Int32)) % (35 : Int32)) + (1 : Int32)))))])) t
                  refine XS.icmpYes X83.here hx rfl (pc0 := 106) (pc' := 113) rfl (hb hby at_106) rfl (feq hc85).2 (by decide) (by decide) ?_
                  show Steps p.tables e below (T83.setTop (mkF m 113 #[.val (.int p0_0), .val (.int p0_1), .val (.int i31), .val (.int i34), .val (.int (own_F1 i34)), .val (.int (1 : Int32)), .val (.int (((p0_1 &&& (2147483647 : Int32)) % (35 : Int32)) + (1 : Int32))), .unset] [])) t
                  refine XS.iconst X83.here hx rfl (hb hby at_113) ?_
                  show Steps p.tables e below (T83.setTop (mkF m 114 #[.val (.int p0_0), .val (.int p0_1), .val (.int i31), .val (.int i34), .val (.int (own_F1 i34)), .val (.int (1 : Int32)), .val (.int (((p0_1 &&& (2147483647 : Int32)) % (35 : Int32)) + (1 : Int32))), .unset] [(.int (0 : Int32))])) t
                  exact k
                rw [show own_F0_32_2 p0_0 p0_1 i31 i34 = (own_F0_114_6 p0_0 p0_1 i31 i34 (0 : Int32)) from ((if_neg hc38).trans ((if_neg hc50).trans ((if_neg hc61).trans ((if_pos hc77).trans ((if_neg hc85).trans rfl)))))]
                exact J0_6 _ _ (0 : Int32) X83 e83 N84
            · skip
              refine own_by (T' := T72) (g' := (mkF m 98 #[.val (.int p0_0), .val (.int p0_1), .val (.int i31), .val (.int i34), .val (.int (own_F1 i34)), .val (.int (0 : Int32)), .val (.int (((p0_1 &&& (2147483647 : Int32)) % (35 : Int32)) + (1 : Int32))), .unset] [(.int (((p0_1 &&& (2147483647 : Int32)) % (35 : Int32)) + (1 : Int32)))])) (fun t k => ?_) ?_
              · show Steps p.tables e below (T72.setTop (mkF m 69 #[.val (.int p0_0), .val (.int p0_1), .val (.int i31), .val (.int i34), .val (.int (own_F1 i34)), .unset, .unset, .unset] [(.int i34), (.int (own_F2 (own_F1 i34)))])) t
                refine XS.icmpYes X72.here hx rfl (pc0 := 69) (pc' := 76) rfl (hb hby at_69) rfl (feq hc77).2 (by decide) (by decide) ?_
                show Steps p.tables e below (T72.setTop (mkF m 76 #[.val (.int p0_0), .val (.int p0_1), .val (.int i31), .val (.int i34), .val (.int (own_F1 i34)), .unset, .unset, .unset] [])) t
                refine XS.iconst X72.here hx rfl (hb hby at_76) ?_
                show Steps p.tables e below (T72.setTop (mkF m 77 #[.val (.int p0_0), .val (.int p0_1), .val (.int i31), .val (.int i34), .val (.int (own_F1 i34)), .unset, .unset, .unset] [(.int (0 : Int32))])) t
                refine XS.istore X72.here hx rfl (hb hby at_77) rfl (l' := #[.val (.int p0_0), .val (.int p0_1), .val (.int i31), .val (.int i34), .val (.int (own_F1 i34)), .val (.int (0 : Int32)), .unset, .unset]) rfl ?_
                show Steps p.tables e below (T72.setTop (mkF m 79 #[.val (.int p0_0), .val (.int p0_1), .val (.int i31), .val (.int i34), .val (.int (own_F1 i34)), .val (.int (0 : Int32)), .unset, .unset] [])) t
                refine XS.goto X72.here hx rfl (pc0 := 79) (pc' := 85) rfl (hb hby at_79) (by decide) (by decide) ?_
                show Steps p.tables e below (T72.setTop (mkF m 85 #[.val (.int p0_0), .val (.int p0_1), .val (.int i31), .val (.int i34), .val (.int (own_F1 i34)), .val (.int (0 : Int32)), .unset, .unset] [])) t
                refine XS.iloadN X72.here hx rfl (hb hby at_85) rfl ?_
                show Steps p.tables e below (T72.setTop (mkF m 86 #[.val (.int p0_0), .val (.int p0_1), .val (.int i31), .val (.int i34), .val (.int (own_F1 i34)), .val (.int (0 : Int32)), .unset, .unset] [(.int p0_1)])) t
                refine X72.ldcInt hx hown (mvT hZ (hw _ (List.mem_of_getElem? (i := 5) rfl))) (g := (mkF m 86 #[.val (.int p0_0), .val (.int p0_1), .val (.int i31), .val (.int i34), .val (.int (own_F1 i34)), .val (.int (0 : Int32)), .unset, .unset] [(.int p0_1)])) rfl (hb hby at_86) _ ?_
                show Steps p.tables e below (T72.setTop (mkF m 88 #[.val (.int p0_0), .val (.int p0_1), .val (.int i31), .val (.int i34), .val (.int (own_F1 i34)), .val (.int (0 : Int32)), .unset, .unset] [(.int (2147483647 : Int32)), (.int p0_1)])) t
                refine XS.iand X72.here hx rfl (hb hby at_88) rfl ?_
                show Steps p.tables e below (T72.setTop (mkF m 89 #[.val (.int p0_0), .val (.int p0_1), .val (.int i31), .val (.int i34), .val (.int (own_F1 i34)), .val (.int (0 : Int32)), .unset, .unset] [(.int (p0_1 &&& (2147483647 : Int32)))])) t
                refine XS.bipush X72.here hx rfl (hb hby at_89) ?_
                show Steps p.tables e below (T72.setTop (mkF m 91 #[.val (.int p0_0), .val (.int p0_1), .val (.int i31), .val (.int i34), .val (.int (own_F1 i34)), .val (.int (0 : Int32)), .unset, .unset] [(.int (35 : Int32)), (.int (p0_1 &&& (2147483647 : Int32)))])) t
                refine iremM (g := (mkF m 91 #[.val (.int p0_0), .val (.int p0_1), .val (.int i31), .val (.int i34), .val (.int (own_F1 i34)), .val (.int (0 : Int32)), .unset, .unset] [(.int (35 : Int32)), (.int (p0_1 &&& (2147483647 : Int32)))])) X72 hx rfl (hb hby at_91) rfl (by decide) ?_
                show Steps p.tables e below (T72.setTop (mkF m 92 #[.val (.int p0_0), .val (.int p0_1), .val (.int i31), .val (.int i34), .val (.int (own_F1 i34)), .val (.int (0 : Int32)), .unset, .unset] [(.int ((p0_1 &&& (2147483647 : Int32)) % (35 : Int32)))])) t
                refine XS.iconst X72.here hx rfl (hb hby at_92) ?_
                show Steps p.tables e below (T72.setTop (mkF m 93 #[.val (.int p0_0), .val (.int p0_1), .val (.int i31), .val (.int i34), .val (.int (own_F1 i34)), .val (.int (0 : Int32)), .unset, .unset] [(.int (1 : Int32)), (.int ((p0_1 &&& (2147483647 : Int32)) % (35 : Int32)))])) t
                refine XS.iadd X72.here hx rfl (hb hby at_93) rfl ?_
                show Steps p.tables e below (T72.setTop (mkF m 94 #[.val (.int p0_0), .val (.int p0_1), .val (.int i31), .val (.int i34), .val (.int (own_F1 i34)), .val (.int (0 : Int32)), .unset, .unset] [(.int (((p0_1 &&& (2147483647 : Int32)) % (35 : Int32)) + (1 : Int32)))])) t
                refine XS.istore X72.here hx rfl (hb hby at_94) rfl (l' := #[.val (.int p0_0), .val (.int p0_1), .val (.int i31), .val (.int i34), .val (.int (own_F1 i34)), .val (.int (0 : Int32)), .val (.int (((p0_1 &&& (2147483647 : Int32)) % (35 : Int32)) + (1 : Int32))), .unset]) rfl ?_
                show Steps p.tables e below (T72.setTop (mkF m 96 #[.val (.int p0_0), .val (.int p0_1), .val (.int i31), .val (.int i34), .val (.int (own_F1 i34)), .val (.int (0 : Int32)), .val (.int (((p0_1 &&& (2147483647 : Int32)) % (35 : Int32)) + (1 : Int32))), .unset] [])) t
                refine XS.iload X72.here hx rfl (hb hby at_96) rfl ?_
                show Steps p.tables e below (T72.setTop (mkF m 98 #[.val (.int p0_0), .val (.int p0_1), .val (.int i31), .val (.int i34), .val (.int (own_F1 i34)), .val (.int (0 : Int32)), .val (.int (((p0_1 &&& (2147483647 : Int32)) % (35 : Int32)) + (1 : Int32))), .unset] [(.int (((p0_1 &&& (2147483647 : Int32)) % (35 : Int32)) + (1 : Int32)))])) t
                exact k
              obtain ⟨v89, _, ⟨T89, L89, k89, n89⟩, -, X89, hS89', hk89', ⟨Lc89, hQ89, l89, y89, z89, CR89⟩, st89⟩ := callSS X72 hx (y := (⟨"com/example/yohokit/yohokit/Counts", "character", "(I)C"⟩ : MethodName)) hown (mvT hZ (hw _ (List.mem_of_getElem? (i := 6) rfl))) (mvT hZ (hw _ (List.mem_of_getElem? (i := 7) rfl))) (mvT hZ (hw _ (List.mem_of_getElem? (i := 3) rfl))) (mvT hZ (hw _ (List.mem_of_getElem? (i := 8) rfl))) (by decide) (backOfSH (W := 0) (own_rm2 l Z a0 hw [] (((p0_1 &&& (2147483647 : Int32)) % (35 : Int32)) + (1 : Int32)) cs fm T72.heap n0 Z75 O74 (own_b2 p0_1) SC HCS SFm HFm) hZ (hw _ (List.mem_of_getElem? (i := 8) rfl)) (hw _ (List.mem_of_getElem? (i := 3) rfl)) (by decide) (by decide) (own_ew hw) CQ72.1) (g := (mkF m 98 #[.val (.int p0_0), .val (.int p0_1), .val (.int i31), .val (.int i34), .val (.int (own_F1 i34)), .val (.int (0 : Int32)), .val (.int (((p0_1 &&& (2147483647 : Int32)) % (35 : Int32)) + (1 : Int32))), .unset] [(.int (((p0_1 &&& (2147483647 : Int32)) % (35 : Int32)) + (1 : Int32)))])) rfl (by rw [hml]; rfl) (argsL := [(.int (((p0_1 &&& (2147483647 : Int32)) % (35 : Int32)) + (1 : Int32)))]) (rest := []) (lenOf pd__I_C rfl) rfl (by show 2 * 0 + _ ≤ _; exact Nat.le_of_eq rfl) (hb hby at_98) (fun _ _ => ⟨rfl, rfl, (by decide : 2 + 2 ≤ _), (by decide : 144 + 144 ≤ _)⟩)
              dsimp only [Pt.U, Pt.locs, Pt.cells, Pt.slots] at X89 l89 y89 z89 st89 hQ89
              subst y89 z89
              obtain ⟨X89, hS89, hZ, hown⟩ := rebS hS72 (show _ ≤ T72.heap.size from (Nat.le_refl _)) X89 hS89' hk89' hZ hown
              have CQ89 := CQ72.trans CR89
              obtain ⟨rfl, M89, K89⟩ := hQ89
              have K90 : Keep h0 T89.heap [] := K73.trans K89 all0
              have O91 := O74.keep K89 all0
              have Z92 := Nat.le_trans Z75 K89.1
              have N93 : Fr n0 L89 := by rw [l89]; exact Fr.app N76 M89
              refine own_via (T' := T89) (g' := (mkF m 101 #[.val (.int p0_0), .val (.int p0_1), .val (.int i31), .val (.int i34), .val (.int (own_F1 i34)), .val (.int (0 : Int32)), .val (.int (((p0_1 &&& (2147483647 : Int32)) % (35 : Int32)) + (1 : Int32))), .unset] [(.int (own_F2 (((p0_1 &&& (2147483647 : Int32)) % (35 : Int32)) + (1 : Int32))))])) st89 ?_
              obtain ⟨v94, _, ⟨T94, L94, k94, n94⟩, -, X94, ⟨Lc94, hQ94, l94, y94, z94⟩, st94⟩ := Jvm.LawKit.callS X89 hx (y := (⟨"com/example/yohokit/yohokit/Counts", "number", "(C)I"⟩ : MethodName)) hown (mvT hZ (hw _ (List.mem_of_getElem? (i := 1) rfl))) (mvT hZ (hw _ (List.mem_of_getElem? (i := 2) rfl))) (mvT hZ (hw _ (List.mem_of_getElem? (i := 3) rfl))) (mvT hZ (hw _ (List.mem_of_getElem? (i := 4) rfl))) (by decide) (backOf (W := 0) (own_rm1 l Z a0 hw [] (own_F2 (((p0_1 &&& (2147483647 : Int32)) % (35 : Int32)) + (1 : Int32))) T89.heap n0 Z92) hZ (hw _ (List.mem_of_getElem? (i := 4) rfl)) (hw _ (List.mem_of_getElem? (i := 3) rfl)) (by decide) (by decide)) (g := (mkF m 101 #[.val (.int p0_0), .val (.int p0_1), .val (.int i31), .val (.int i34), .val (.int (own_F1 i34)), .val (.int (0 : Int32)), .val (.int (((p0_1 &&& (2147483647 : Int32)) % (35 : Int32)) + (1 : Int32))), .unset] [(.int (own_F2 (((p0_1 &&& (2147483647 : Int32)) % (35 : Int32)) + (1 : Int32))))])) rfl (by rw [hml]; rfl) (argsL := [(.int (own_F2 (((p0_1 &&& (2147483647 : Int32)) % (35 : Int32)) + (1 : Int32))))]) (rest := []) (lenOf pd__C_I rfl) rfl (by show 2 * 0 + _ ≤ _; exact Nat.le_of_eq rfl) (hb hby at_101) (fun _ _ => ⟨rfl, rfl, (by decide : 4 + 0 ≤ _), (by decide : 288 + 0 ≤ _)⟩)
              dsimp only [Pt.U, Pt.locs, Pt.cells, Pt.slots] at X94 l94 y94 z94 st94 hQ94
              subst y94 z94
              obtain ⟨rfl, M94, e94⟩ := hQ94
              have N95 : Fr n0 L94 := by rw [l94]; exact Fr.app N93 M94
              refine own_by (T' := T94) (g' := (mkF m 104 #[.val (.int p0_0), .val (.int p0_1), .val (.int i31), .val (.int i34), .val (.int (own_F1 i34)), .val (.int (0 : Int32)), .val (.int (((p0_1 &&& (2147483647 : Int32)) % (35 : Int32)) + (1 : Int32))), .unset] [(.int (own_F1 (own_F2 (((p0_1 &&& (2147483647 : Int32)) % (35 : Int32)) + (1 : Int32)))))])) st94 ?_
              refine own_by (T' := T94) (g' := (mkF m 106 #[.val (.int p0_0), .val (.int p0_1), .val (.int i31), .val (.int i34), .val (.int (own_F1 i34)), .val (.int (0 : Int32)), .val (.int (((p0_1 &&& (2147483647 : Int32)) % (35 : Int32)) + (1 : Int32))), .unset] [(.int (((p0_1 &&& (2147483647 : Int32)) % (35 : Int32)) + (1 : Int32))), (.int (own_F1 (own_F2 (((p0_1 &&& (2147483647 : Int32)) % (35 : Int32)) + (1 : Int32)))))])) (fun t k => ?_) ?_
              · show Steps p.tables e below (T94.setTop (mkF m 104 #[.val (.int p0_0), .val (.int p0_1), .val (.int i31), .val (.int i34), .val (.int (own_F1 i34)), .val (.int (0 : Int32)), .val (.int (((p0_1 &&& (2147483647 : Int32)) % (35 : Int32)) + (1 : Int32))), .unset] [(.int (own_F1 (own_F2 (((p0_1 &&& (2147483647 : Int32)) % (35 : Int32)) + (1 : Int32)))))])) t
                refine XS.iload X94.here hx rfl (hb hby at_104) rfl ?_
                show Steps p.tables e below (T94.setTop (mkF m 106 #[.val (.int p0_0), .val (.int p0_1), .val (.int i31), .val (.int i34), .val (.int (own_F1 i34)), .val (.int (0 : Int32)), .val (.int (((p0_1 &&& (2147483647 : Int32)) % (35 : Int32)) + (1 : Int32))), .unset] [(.int (((p0_1 &&& (2147483647 : Int32)) % (35 : Int32)) + (1 : Int32))), (.int (own_F1 (own_F2 (((p0_1 &&& (2147483647 : Int32)) % (35 : Int32)) + (1 : Int32)))))])) t
                exact k
              have J0_7 : ∀ (T98 : State) (L98 : List Loc) (i97 : Int32), Stand p l e room_1 (s.setVm T89.vm) m #[(.int p0_0), (.int p0_1)] below meth c T98 L98 4 288 → T98.heap = T89.heap → Fr n0 L98 → own_Go p e below (own_PW Z consts_1 s below room_1 (own_Q0 (own_F0_114_7 p0_0 p0_1 i31 i34 i97) h0 n0)) T98 (mkF m 114 #[.val (.int p0_0), .val (.int p0_1), .val (.int i31), .val (.int i34), .val (.int (own_F1 i34)), .val (.int (0 : Int32)), .val (.int (((p0_1 &&& (2147483647 : Int32)) % (35 : Int32)) + (1 : Int32))), .unset] [(.int i97)]) := by
                intro T98 L98 i97 X98 e98 N98
                refine own_by (T' := T98) (g' := (mkF m 131 #[.val (.int p0_0), .val (.int p0_1), .val (.int i31), .val (.int i34), .val (.int (own_F1 i34)), .val (.int (0 : Int32)), .val (.int (((p0_1 &&& (2147483647 : Int32)) % (35 : Int32)) + (1 : Int32))), .val (.int i97)] [(.int (0 : Int32))])) (fun t k => ?_) ?_
                · show Steps p.tables e below (T98.setTop (mkF m 114 #[.val (.int p0_0), .val (.int p0_1), .val (.int i31), .val (.int i34), .val (.int (own_F1 i34)), .val (.int (0 : Int32)), .val (.int (((p0_1 &&& (2147483647 : Int32)) % (35 : Int32)) + (1 : Int32))), .unset] [(.int i97)])) t
                  refine XS.istore X98.here hx rfl (hb hby at_114) rfl (l' := #[.val (.int p0_0), .val (.int p0_1), .val (.int i31), .val (.int i34), .val (.int (own_F1 i34)), .val (.int (0 : Int32)), .val (.int (((p0_1 &&& (2147483647 : Int32)) % (35 : Int32)) + (1 : Int32))), .val (.int i97)]) rfl ?_
                  show Steps p.tables e below (T98.setTop (mkF m 116 #[.val (.int p0_0), .val (.int p0_1), .val (.int i31), .val (.int i34), .val (.int (own_F1 i34)), .val (.int (0 : Int32)), .val (.int (((p0_1 &&& (2147483647 : Int32)) % (35 : Int32)) + (1 : Int32))), .val (.int i97)] [])) t
                  refine XS.iload X98.here hx rfl (hb hby at_116) rfl ?_
                  show Steps p.tables e below (T98.setTop (mkF m 118 #[.val (.int p0_0), .val (.int p0_1), .val (.int i31), .val (.int i34), .val (.int (own_F1 i34)), .val (.int (0 : Int32)), .val (.int (((p0_1 &&& (2147483647 : Int32)) % (35 : Int32)) + (1 : Int32))), .val (.int i97)] [(.int (0 : Int32))])) t
                  refine XS.ifYes X98.here hx rfl (pc0 := 118) (pc' := 130) rfl (hb hby at_118) rfl ((if0 _ _).trans (teq (by decide : (0 : Int32) = (0 : Int32))).1) (by decide) (by decide) ?_
                  show Steps p.tables e below (T98.setTop (mkF m 130 #[.val (.int p0_0), .val (.int p0_1), .val (.int i31), .val (.int i34), .val (.int (own_F1 i34)), .val (.int (0 : Int32)), .val (.int (((p0_1 &&& (2147483647 : Int32)) % (35 : Int32)) + (1 : Int32))), .val (.int i97)] [])) t
                  refine XS.iconst X98.here hx rfl (hb hby at_130) ?_
                  show Steps p.tables e below (T98.setTop (mkF m 131 #[.val (.int p0_0), .val (.int p0_1), .val (.int i31), .val (.int i34), .val (.int (own_F1 i34)), .val (.int (0 : Int32)), .val (.int (((p0_1 &&& (2147483647 : Int32)) % (35 : Int32)) + (1 : Int32))), .val (.int i97)] [(.int (0 : Int32))])) t
                  exact k
                rw [show own_F0_114_7 p0_0 p0_1 i31 i34 i97 = (0 : Int32) from rfl]
                exact own_retNW X98 hZ (own_ew hw) hS89 (Nat.le_refl _) e98 CQ89 hh hx (t := .boolean) Bd.returns (by simp) (hb hby at_131) hlk (by decide) (by decide) ⟨rfl, N98⟩
              by_cases hc96 : (own_F1 (own_F2 (((p0_1 &&& (2147483647 : Int32)) % (35 : Int32)) + (1 : Int32)))) = (((p0_1 &&& (2147483647 : Int32)) % (35 : Int32)) + (1 : Int32))
              · skip
                refine own_by (T' := T94) (g' := (mkF m 114 #[.val (.int p0_0), .val (.int p0_1), .val (.int i31), .val (.int i34), .val (.int (own_F1 i34)), .val (.int (0 : Int32)), .val (.int (((p0_1 &&& (2147483647 : Int32)) % (35 : Int32)) + (1 : Int32))), .unset] [(.int (1 : Int32))])) (fun t k => ?_) ?_
                · show Steps p.tables e below (T94.setTop (mkF m 106 #[.val (.int p0_0), .val (.int p0_1), .val (.int i31), .val (.int i34), .val (.int (own_F1 i34)), .val (.int (0 : Int32)), .val (.int (((p0_1 &&& (2147483647 : Int32)) % (35 : Int32)) + (1 : Int32))), .unset] [(.int (((p0_1 &&& (2147483647 : Int32)) % (35 : Int32)) + (1 : Int32))), (.int (own_F1 (own_F2 (((p0_1 &&& (2147483647 : Int32)) % (35 : Int32)) + (1 : Int32)))))])) t
                  refine XS.icmpNo X94.here hx rfl (hb hby at_106) rfl (teq hc96).2 ?_
                  show Steps p.tables e below (T94.setTop (mkF m 109 #[.val (.int p0_0), .val (.int p0_1), .val (.int i31), .val (.int i34), .val (.int (own_F1 i34)), .val (.int (0 : Int32)), .val (.int (((p0_1 &&& (2147483647 : Int32)) % (35 : Int32)) + (1 : Int32))), .unset] [])) t
                  refine XS.iconst X94.here hx rfl (hb hby at_109) ?_
                  show Steps p.tables e below (T94.setTop (mkF m 110 #[.val (.int p0_0), .val (.int p0_1), .val (.int i31), .val (.int i34), .val (.int (own_F1 i34)), .val (.int (0 : Int32)), .val (.int (((p0_1 &&& (2147483647 : Int32)) % (35 : Int32)) + (1 : Int32))), .unset] [(.int (1 : Int32))])) t
                  refine XS.goto X94.here hx rfl (pc0 := 110) (pc' := 114) rfl (hb hby at_110) (by decide) (by decide) ?_
                  show Steps p.tables e below (T94.setTop (mkF m 114 #[.val (.int p0_0), .val (.int p0_1), .val (.int i31), .val (.int i34), .val (.int (own_F1 i34)), .val (.int (0 : Int32)), .val (.int (((p0_1 &&& (2147483647 : Int32)) % (35 : Int32)) + (1 : Int32))), .unset] [(.int (1 : Int32))])) t
                  exact k
                rw [show own_F0_32_2 p0_0 p0_1 i31 i34 = (own_F0_114_7 p0_0 p0_1 i31 i34 (1 : Int32)) from ((if_neg hc38).trans ((if_neg hc50).trans ((if_neg hc61).trans ((if_neg hc77).trans ((if_pos hc96).trans rfl)))))]
                exact J0_7 _ _ (1 : Int32) X94 e94 N95
              · skip
                refine own_by (T' := T94) (g' := (mkF m 114 #[.val (.int p0_0), .val (.int p0_1), .val (.int i31), .val (.int i34), .val (.int (own_F1 i34)), .val (.int (0 : Int32)), .val (.int (((p0_1 &&& (2147483647 : Int32)) % (35 : Int32)) + (1 : Int32))), .unset] [(.int (0 : Int32))])) (fun t k => ?_) ?_
                · show Steps p.tables e below (T94.setTop (mkF m 106 #[.val (.int p0_0), .val (.int p0_1), .val (.int i31), .val (.int i34), .val (.int (own_F1 i34)), .val (.int (0 : Int32)), .val (.int (((p0_1 &&& (2147483647 : Int32)) % (35 : Int32)) + (1 : Int32))), .unset] [(.int (((p0_1 &&& (2147483647 : Int32)) % (35 : Int32)) + (1 : Int32))), (.int (own_F1 (own_F2 (((p0_1 &&& (2147483647 : Int32)) % (35 : Int32)) + (1 : Int32)))))])) t
                  refine XS.icmpYes X94.here hx rfl (pc0 := 106) (pc' := 113) rfl (hb hby at_106) rfl (feq hc96).2 (by decide) (by decide) ?_
                  show Steps p.tables e below (T94.setTop (mkF m 113 #[.val (.int p0_0), .val (.int p0_1), .val (.int i31), .val (.int i34), .val (.int (own_F1 i34)), .val (.int (0 : Int32)), .val (.int (((p0_1 &&& (2147483647 : Int32)) % (35 : Int32)) + (1 : Int32))), .unset] [])) t
                  refine XS.iconst X94.here hx rfl (hb hby at_113) ?_
                  show Steps p.tables e below (T94.setTop (mkF m 114 #[.val (.int p0_0), .val (.int p0_1), .val (.int i31), .val (.int i34), .val (.int (own_F1 i34)), .val (.int (0 : Int32)), .val (.int (((p0_1 &&& (2147483647 : Int32)) % (35 : Int32)) + (1 : Int32))), .unset] [(.int (0 : Int32))])) t
                  exact k
                rw [show own_F0_32_2 p0_0 p0_1 i31 i34 = (own_F0_114_7 p0_0 p0_1 i31 i34 (0 : Int32)) from ((if_neg hc38).trans ((if_neg hc50).trans ((if_neg hc61).trans ((if_neg hc77).trans ((if_neg hc96).trans rfl)))))]
                exact J0_7 _ _ (0 : Int32) X94 e94 N95
    by_cases hc33 : i31 = (0 : Int32)
    · skip
      refine own_by (T' := T32) (g' := (mkF m 32 #[.val (.int p0_0), .val (.int p0_1), .val (.int i31), .unset, .unset, .unset, .unset, .unset] [(.int ((p0_0 &&& (65535 : Int32)).toUInt32.toUInt16.toUInt32.toInt32))])) (fun t k => ?_) ?_
      · show Steps p.tables e below (T32.setTop (mkF m 16 #[.val (.int p0_0), .val (.int p0_1), .val (.int i31), .unset, .unset, .unset, .unset, .unset] [(.int i31)])) t
        refine XS.ifYes X32.here hx rfl (pc0 := 16) (pc' := 27) rfl (hb hby at_16) rfl ((if0 _ _).trans (teq hc33).1) (by decide) (by decide) ?_
        show Steps p.tables e below (T32.setTop (mkF m 27 #[.val (.int p0_0), .val (.int p0_1), .val (.int i31), .unset, .unset, .unset, .unset, .unset] [])) t
        refine XS.iloadN X32.here hx rfl (hb hby at_27) rfl ?_
        show Steps p.tables e below (T32.setTop (mkF m 28 #[.val (.int p0_0), .val (.int p0_1), .val (.int i31), .unset, .unset, .unset, .unset, .unset] [(.int p0_0)])) t
        refine X32.ldcInt hx hown (mvT hZ (hw _ (List.mem_of_getElem? (i := 0) rfl))) (g := (mkF m 28 #[.val (.int p0_0), .val (.int p0_1), .val (.int i31), .unset, .unset, .unset, .unset, .unset] [(.int p0_0)])) rfl (hb hby at_28) _ ?_
        show Steps p.tables e below (T32.setTop (mkF m 30 #[.val (.int p0_0), .val (.int p0_1), .val (.int i31), .unset, .unset, .unset, .unset, .unset] [(.int (65535 : Int32)), (.int p0_0)])) t
        refine XS.iand X32.here hx rfl (hb hby at_30) rfl ?_
        show Steps p.tables e below (T32.setTop (mkF m 31 #[.val (.int p0_0), .val (.int p0_1), .val (.int i31), .unset, .unset, .unset, .unset, .unset] [(.int (p0_0 &&& (65535 : Int32)))])) t
        refine XS.i2c X32.here hx rfl (hb hby at_31) rfl ?_
        show Steps p.tables e below (T32.setTop (mkF m 32 #[.val (.int p0_0), .val (.int p0_1), .val (.int i31), .unset, .unset, .unset, .unset, .unset] [(.int ((p0_0 &&& (65535 : Int32)).toUInt32.toUInt16.toUInt32.toInt32))])) t
        exact k
      rw [show own_F0_14_1 p0_0 p0_1 i31 = (own_F0_32_2 p0_0 p0_1 i31 ((p0_0 &&& (65535 : Int32)).toUInt32.toUInt16.toUInt32.toInt32)) from ((if_pos hc33).trans rfl)]
      exact J0_2 _ _ ((p0_0 &&& (65535 : Int32)).toUInt32.toUInt16.toUInt32.toInt32) X32 e32 N32
    · skip
      refine own_by (T' := T32) (g' := (mkF m 32 #[.val (.int p0_0), .val (.int p0_1), .val (.int i31), .unset, .unset, .unset, .unset, .unset] [(.int ((p0_0 &&& (127 : Int32)).toUInt32.toUInt16.toUInt32.toInt32))])) (fun t k => ?_) ?_
      · show Steps p.tables e below (T32.setTop (mkF m 16 #[.val (.int p0_0), .val (.int p0_1), .val (.int i31), .unset, .unset, .unset, .unset, .unset] [(.int i31)])) t
        refine XS.ifNo X32.here hx rfl (hb hby at_16) rfl ((if0 _ _).trans (feq hc33).1) ?_
        show Steps p.tables e below (T32.setTop (mkF m 19 #[.val (.int p0_0), .val (.int p0_1), .val (.int i31), .unset, .unset, .unset, .unset, .unset] [])) t
        refine XS.iloadN X32.here hx rfl (hb hby at_19) rfl ?_
        show Steps p.tables e below (T32.setTop (mkF m 20 #[.val (.int p0_0), .val (.int p0_1), .val (.int i31), .unset, .unset, .unset, .unset, .unset] [(.int p0_0)])) t
        refine XS.bipush X32.here hx rfl (hb hby at_20) ?_
        show Steps p.tables e below (T32.setTop (mkF m 22 #[.val (.int p0_0), .val (.int p0_1), .val (.int i31), .unset, .unset, .unset, .unset, .unset] [(.int (127 : Int32)), (.int p0_0)])) t
        refine XS.iand X32.here hx rfl (hb hby at_22) rfl ?_
        show Steps p.tables e below (T32.setTop (mkF m 23 #[.val (.int p0_0), .val (.int p0_1), .val (.int i31), .unset, .unset, .unset, .unset, .unset] [(.int (p0_0 &&& (127 : Int32)))])) t
        refine XS.i2c X32.here hx rfl (hb hby at_23) rfl ?_
        show Steps p.tables e below (T32.setTop (mkF m 24 #[.val (.int p0_0), .val (.int p0_1), .val (.int i31), .unset, .unset, .unset, .unset, .unset] [(.int ((p0_0 &&& (127 : Int32)).toUInt32.toUInt16.toUInt32.toInt32))])) t
        refine XS.goto X32.here hx rfl (pc0 := 24) (pc' := 32) rfl (hb hby at_24) (by decide) (by decide) ?_
        show Steps p.tables e below (T32.setTop (mkF m 32 #[.val (.int p0_0), .val (.int p0_1), .val (.int i31), .unset, .unset, .unset, .unset, .unset] [(.int ((p0_0 &&& (127 : Int32)).toUInt32.toUInt16.toUInt32.toInt32))])) t
        exact k
      rw [show own_F0_14_1 p0_0 p0_1 i31 = (own_F0_32_2 p0_0 p0_1 i31 ((p0_0 &&& (127 : Int32)).toUInt32.toUInt16.toUInt32.toInt32)) from ((if_neg hc33).trans rfl)]
      exact J0_2 _ _ ((p0_0 &&& (127 : Int32)).toUInt32.toUInt16.toUInt32.toInt32) X32 e32 N32
  by_cases hc30 : (((p0_0.toUInt32 >>> ((16 : Int32) &&& 31).toUInt32).toInt32) &&& (1 : Int32)) = (0 : Int32)
  · skip
    refine own_by (T' := s₁) (g' := (mkF m 14 #[.val (.int p0_0), .val (.int p0_1), .unset, .unset, .unset, .unset, .unset, .unset] [(.int (0 : Int32))])) (fun t k => ?_) ?_
    · show Steps p.tables e below (s₁.setTop (mkF m 6 #[.val (.int p0_0), .val (.int p0_1), .unset, .unset, .unset, .unset, .unset, .unset] [(.int (((p0_0.toUInt32 >>> ((16 : Int32) &&& 31).toUInt32).toInt32) &&& (1 : Int32)))])) t
      refine XS.ifYes X0.here hx rfl (pc0 := 6) (pc' := 13) rfl (hb hby at_6) rfl ((if0 _ _).trans (teq hc30).1) (by decide) (by decide) ?_
      show Steps p.tables e below (s₁.setTop (mkF m 13 #[.val (.int p0_0), .val (.int p0_1), .unset, .unset, .unset, .unset, .unset, .unset] [])) t
      refine XS.iconst X0.here hx rfl (hb hby at_13) ?_
      show Steps p.tables e below (s₁.setTop (mkF m 14 #[.val (.int p0_0), .val (.int p0_1), .unset, .unset, .unset, .unset, .unset, .unset] [(.int (0 : Int32))])) t
      exact k
    rw [show own_F0 p0_0 p0_1 = (own_F0_14_1 p0_0 p0_1 (0 : Int32)) from ((if_pos hc30).trans rfl)]
    exact J0_1 _ _ (0 : Int32) X0 e0 N0
  · skip
    refine own_by (T' := s₁) (g' := (mkF m 14 #[.val (.int p0_0), .val (.int p0_1), .unset, .unset, .unset, .unset, .unset, .unset] [(.int (1 : Int32))])) (fun t k => ?_) ?_
    · show Steps p.tables e below (s₁.setTop (mkF m 6 #[.val (.int p0_0), .val (.int p0_1), .unset, .unset, .unset, .unset, .unset, .unset] [(.int (((p0_0.toUInt32 >>> ((16 : Int32) &&& 31).toUInt32).toInt32) &&& (1 : Int32)))])) t
      refine XS.ifNo X0.here hx rfl (hb hby at_6) rfl ((if0 _ _).trans (feq hc30).1) ?_
      show Steps p.tables e below (s₁.setTop (mkF m 9 #[.val (.int p0_0), .val (.int p0_1), .unset, .unset, .unset, .unset, .unset, .unset] [])) t
      refine XS.iconst X0.here hx rfl (hb hby at_9) ?_
      show Steps p.tables e below (s₁.setTop (mkF m 10 #[.val (.int p0_0), .val (.int p0_1), .unset, .unset, .unset, .unset, .unset, .unset] [(.int (1 : Int32))])) t
      refine XS.goto X0.here hx rfl (pc0 := 10) (pc' := 14) rfl (hb hby at_10) (by decide) (by decide) ?_
      show Steps p.tables e below (s₁.setTop (mkF m 14 #[.val (.int p0_0), .val (.int p0_1), .unset, .unset, .unset, .unset, .unset, .unset] [(.int (1 : Int32))])) t
      exact k
    rw [show own_F0 p0_0 p0_1 = (own_F0_14_1 p0_0 p0_1 (1 : Int32)) from ((if_neg hc30).trans rfl)]
    exact J0_1 _ _ (1 : Int32) X0 e0 N0
theorem own_ofNat {x : Int32} {lo hi : Nat} (h1 : (lo : Int) ≤ x.toInt) (h2 : x.toInt < (hi : Int)) (hh : hi ≤ 1000) : ∃ k : Fin (hi - lo), x = Int32.ofNat (lo + k.val) := by
  refine ⟨⟨x.toInt.toNat - lo, by omega⟩, ?_⟩
  rw [← Int32.toInt_inj, Int32.toInt_ofNat_of_lt (by show lo + (x.toInt.toNat - lo) < _; omega)]
  show x.toInt = ((lo + (x.toInt.toNat - lo) : Nat) : Int)
  omega
theorem own_l1 (k : Fin (36 - 1)) : own_F1 (own_F2 (Int32.ofNat (1 + k.val))) = Int32.ofNat (1 + k.val) := by revert k; decide +kernel
theorem own_l2 (k : Fin (91 - 49)) : own_F1 (Int32.ofNat (49 + k.val)) = 0 ∨ ¬ own_F1 (Int32.ofNat (49 + k.val)) < 1 ∧ ¬ (35 : Int32) < own_F1 (Int32.ofNat (49 + k.val)) ∧ own_F2 (own_F1 (Int32.ofNat (49 + k.val))) = Int32.ofNat (49 + k.val) := by revert k; decide +kernel
theorem own_l3 (c : Int32) : own_F1 c = 0 ∨ ¬ own_F1 c < 1 ∧ ¬ (35 : Int32) < own_F1 c ∧ own_F2 (own_F1 c) = c := by
  by_cases h1 : c < 49
  · left
    have h2 : c < 65 := by
      rw [Int32.lt_iff_toInt_lt] at h1 ⊢
      rw [show (49 : Int32).toInt = 49 from by decide] at h1
      rw [show (65 : Int32).toInt = 65 from by decide]
      omega
    unfold own_F1
    rw [if_pos h1, if_pos h2]
  · by_cases h3 : (90 : Int32) < c
    · left
      have h4 : (57 : Int32) < c := by
        rw [Int32.lt_iff_toInt_lt] at h3 ⊢
        rw [show (90 : Int32).toInt = 90 from by decide] at h3
        rw [show (57 : Int32).toInt = 57 from by decide]
        omega
      have h5 : ¬ c < 65 := by
        rw [Int32.lt_iff_toInt_lt] at h3 ⊢
        rw [show (90 : Int32).toInt = 90 from by decide] at h3
        rw [show (65 : Int32).toInt = 65 from by decide]
        omega
      unfold own_F1
      rw [if_neg h1, if_pos h4, if_neg h5, if_pos h3]
    · rw [Int32.lt_iff_toInt_lt] at h1 h3
      rw [show (49 : Int32).toInt = 49 from by decide] at h1
      rw [show (90 : Int32).toInt = 90 from by decide] at h3
      obtain ⟨k, rfl⟩ := own_ofNat (x := c) (lo := 49) (hi := 91) (by omega) (by omega) (by decide)
      exact own_l2 k
theorem own_l4 (b : Int32) : own_F1 (own_F2 (((b &&& (2147483647 : Int32)) % (35 : Int32)) + (1 : Int32))) = (((b &&& (2147483647 : Int32)) % (35 : Int32)) + (1 : Int32)) := by
  obtain ⟨h1, h2⟩ := own_b2 b
  generalize (((b &&& (2147483647 : Int32)) % (35 : Int32)) + (1 : Int32)) = x at h1 h2 ⊢
  rw [Int32.lt_iff_toInt_lt, show (1 : Int32).toInt = 1 from by decide] at h1
  rw [Int32.lt_iff_toInt_lt, show (35 : Int32).toInt = 35 from by decide] at h2
  obtain ⟨k, rfl⟩ := own_ofNat (x := x) (lo := 1) (hi := 36) (by omega) (by omega) (by decide)
  exact own_l1 k
theorem own_l5 (a b i c : Int32) : own_F0_32_2 a b i c = 1 := by
  unfold own_F0_32_2
  simp only [if_pos (own_l4 b)]
  rcases own_l3 c with h | ⟨h1, h2, h3⟩
  · rw [if_pos h]; rfl
  · by_cases h : own_F1 c = 0
    · rw [if_pos h]; rfl
    · rw [if_neg h, if_neg h1, if_neg h2, if_pos h3]; rfl
theorem own_law (a b : Int32) : own_F0 a b = 1 := by
  have key : ∀ i, own_F0_14_1 a b i = 1 := fun i => by
    unfold own_F0_14_1
    split <;> exact own_l5 _ _ _ _
  unfold own_F0
  split <;> exact key _

set_option maxRecDepth 65536 in
set_option maxHeartbeats 40000000 in
theorem own_comes {Post : Tables → Env → Array Value → State → Outcome → State → Prop} (hpost : ∀ tb e args s v u, (limb_1_1.after args s (.returned v) u = true ∧ limb_1_2.after args s (.returned v) u = true ∧ True) → ReturnedEndW s (.returned v) u (Jvm.fieldLocs frame_1_writes args s ++ Jvm.arrayLocs frame_1_arrays args s ++ Jvm.staticLocs frame_1_statics s) 8 1088 → Post tb e args s (.returned v) u) :
    ArmFor flags0 classFile x code maxLocals ret World_1 tables_1 room_1 Calls_1 rest_1 Pre_1 Post := by
  intro l hfl _ _ p e ha hc hk s m args below hf hA hF happ hP
  obtain ⟨hcalls, hrest, hpre⟩ := hP
  obtain ⟨-, -, -, hnamed, -, -, -, hat⟩ := (Spec.applies_iff hf).mp happ
  obtain ⟨hg, hn⟩ := and_e (Cond.before_iff.mp (show (Jvm.Cond.and given_1 narrow_1).before args s = true from hpre))
  obtain ⟨hg1, hg2⟩ := and_e hg
  obtain ⟨hg3, hg4⟩ := and_e hg2
  obtain ⟨w0, w1, rfl⟩ : ∃ w0 w1 : Value, args = #[w0, w1] := by
    have hs : args.size = 2 := by simpa [Cond.value, given_1] using hg1
    obtain ⟨L⟩ := args
    match L, hs with
    | [w0, w1], _ => exact ⟨w0, w1, rfl⟩
  have hw := fun d (hd : d ∈ tables_1) => atoms_spec (ws := Jvm.Cond.code x code maxLocals ret :: tables_1) hat d (List.mem_cons_of_mem _ hd)
  have hfit : Fit s := fun {y c} hc i hi => by
    obtain ⟨ha, rfl⟩ := Array.getElem?_eq_some_iff.mp hc
    have q := List.all_eq_true.mp ((Array.all_eq_true_iff_forall_mem.mp hF) _ (Array.getElem_mem ha)) i (List.mem_range.mpr hi)
    simpa [Array.getElem?_eq_getElem hi] using q
  obtain ⟨hsets, hown0⟩ := atoms_of _ (rest_1_c_eq ▸ (show rest_1_c.before _ s = true from hrest))
  have hr0 := Cond.before_iff.mp hown0
  obtain ⟨i0, ei0⟩ := is_v hg3
  obtain rfl : w0 = (.int i0) := Option.some.inj ei0
  obtain ⟨i1, ei1⟩ := is_v hg4
  obtain rfl : w1 = (.int i1) := Option.some.inj ei1
  obtain ⟨cs, ecs⟩ := is_v (Cond.before_iff.mp (hsets _ (List.mem_of_getElem? (i := 1) rfl)))
  have SC : Sta s s.heap "java/lang/String" "COMPACT_STRINGS" "Z" (.int cs) := Sta.start ecs (Or.inl (hsets _ (List.mem_of_getElem? (i := 0) rfl)))
  have HCS : ¬ (cs = (0 : Int32)) := gotF (Cond.eq_ints ecs (Term.int_eval (0))) (not_v (Cond.before_iff.mp (hsets _ (List.mem_of_getElem? (i := 2) rfl))))
  obtain ⟨fm, efm, HFm⟩ := isR_v (Cond.before_iff.mp (hsets _ (List.mem_of_getElem? (i := 8) rfl)))
  have SFm : Sta s s.heap "jdk/internal/util/Preconditions" "SIOOBE_FORMATTER" "Ljava/util/function/BiFunction;" fm := Sta.start efm (Or.inl (hsets _ (List.mem_of_getElem? (i := 7) rfl)))
  have hCH := CHv.start (own_ew hw) (fun p hp => hcalls.1 p hp) (show Jvm.Lit.compactW.before _ s = true from (hsets _ (List.mem_of_getElem? (i := 2) rfl))) (hw _ (List.mem_of_getElem? (i := 12) rfl)) (hw _ (List.mem_of_getElem? (i := 11) rfl))
  obtain ⟨n, o, h1, h2, h3, _, L, rfl, ⟨rfl, N⟩, -, hq⟩ := own_rm0 l s _ hw tables_1 i0 i1 cs fm s.heap s.heap.size (Nat.le_refl _) (Old.start s) SC HCS SFm HFm p e ha hc hk s m _ below hf ((Spec.applies_iff_loose hf).mp happ).1 ⟨rfl, State.Warmed39.refl s, rfl, hCH⟩ trivial
  refine ⟨n, _, h1, h2, h3, hpost _ _ _ _ _ _ ⟨Cond.after_iff.mpr rfl, Cond.after_iff.mpr (eq_i res_at (Term.int_eval (1)) (congrArg Value.int (own_law i0 i1))), trivial⟩ ⟨hq.1, hq.2.1, hq.2.2.1, (hq.2.2.2.sift fun y hy => Or.inr (N y hy)).mono (by decide) (by decide)⟩⟩
theorem main_1_1 : Claimed_1_1 := own_comes fun _ _ _ _ _ _ h hF => ⟨h.1, hF⟩
theorem main_1_2 : Claimed_1_2 := own_comes fun _ _ _ _ _ _ h hF => ⟨h.2.1, hF⟩
end Jvm.Pilot.@@N@@
namespace Jvm.Pilot.@@N@@
open Jvm Jvm.ClassFile Sem Op Lib Jvm.Free Jvm.Stand Jvm.Pilot.@@N@@.Jvm.D
/-! MADE BY PROGRAM (witnessworld.py) out of the Statement's table words and the real class files: 17 classes; the members and pool entries that the words name. The judged class is class 1, her method 1. -/
namespace start1
open Jvm.ClassFile
def u (s : String) : CpInfo := .utf8 (stringToUtf16 s)
/-- a pool by its gaps: so many unusable entries, then the entry; so many at the end -/
def gap : Nat → List CpInfo → List CpInfo
  | 0, r => r
  | n + 1, r => .unusable :: gap n r
def poolList (es : List (Nat × CpInfo)) (last : Nat) : List CpInfo := es.foldr (fun e r => gap e.1 (e.2 :: r)) (gap last [])
def pool (es : List (Nat × CpInfo)) (last : Nat) : Array CpInfo := ⟨poolList es last⟩
def fileOf (pool : Array CpInfo) (this : Nat) (attrs : Array Attribute := #[]) (ms : Array MethodInfo := #[]) (fl : Nat := 33) (sup : Nat := 0) (ifs : Array Nat := #[]) (fds : Array FieldInfo := #[]) : ClassFile where
  minorVersion := 0
  majorVersion := 65
  constantPool := pool
  accessFlags := fl
  thisClass := this
  superClass := sup
  interfaces := ifs
  fields := fds
  methods := ms
  attributes := attrs
def plain (name : String) (sup : Option ClassId) : Class where
  name := name
  kind := .ordinary
  loader := none
  accessFlags := 33
  super := sup
  interfaces := #[]
  cf := none
  fields := #[]
  methods := #[]
  instanceTypes := #[]
  staticTypes := #[]
  resolved := #[]
  callSites := []
  init := .initialized
  statics := none
  mirror := none

def pool0 : Array CpInfo := pool [(5, u "<init>"), (0, u "()V"), (1, .class_ 10), (1, u "java/lang/Object")] 113

def k0m0 : Method := { name := "<init>", desc := "()V", sig := { parameters := [], returnType := none }, accessFlags := 1, code := none }
/-- java/lang/Object -/
def k0 : Class := { plain "java/lang/Object" none with
  accessFlags := 33
  interfaces := #[]
  cf := some (fileOf pool0 8 #[] #[{ accessFlags := 1, nameIndex := 5, descriptorIndex := 6, attributes := #[] }] 33 0 #[] #[])
  fields := #[]
  methods := #[k0m0]
  instanceTypes := #[]
  staticTypes := #[]
  resolved := Array.replicate 124 none
  statics := none }

def pool1 : Array CpInfo := pool [(2, .class_ 4), (1, u "java/lang/Object"), (0, u "<init>"), (0, u "()V"), (0, .integer 65535), (0, .methodref 9 10), (0, .class_ 11), (0, .nameAndType 12 13), (0, u "com/example/yohokit/yohokit/Counts"), (0, u "number"), (0, u "(C)I"), (0, .methodref 9 15), (0, .nameAndType 16 17), (0, u "character"), (0, u "(I)C"), (0, .integer 2147483647), (0, .class_ 20), (0, u "com/example/yohokit/yohokit/CountsNumberPinLaw"), (2, u "law"), (0, u "(II)Z")] 3

def k1m0 : Method := { name := "<init>", desc := "()V", sig := { parameters := [], returnType := none }, accessFlags := 2, code := none }
def k1c1 : Code := { maxStack := 2, maxLocals := 8, code := code, exceptionTable := #[], attributes := #[] }
def k1m1 : Method := { name := "law", desc := "(II)Z", sig := { parameters := [.int, .int], returnType := some .boolean }, accessFlags := 9, code := some k1c1 }
/-- com/example/yohokit/yohokit/CountsNumberPinLaw -/
def k1 : Class := { plain "com/example/yohokit/yohokit/CountsNumberPinLaw" (some 0) with
  accessFlags := 49
  interfaces := #[]
  cf := some (fileOf pool1 19 #[] #[{ accessFlags := 2, nameIndex := 5, descriptorIndex := 6, attributes := #[] }, { accessFlags := 9, nameIndex := 23, descriptorIndex := 24, attributes := #[] }] 49 2 #[] #[])
  fields := #[]
  methods := #[k1m0, k1m1]
  instanceTypes := #[]
  staticTypes := #[]
  resolved := Array.replicate 28 none
  statics := none }

def pool2 : Array CpInfo := pool [(2, .class_ 4), (1, u "java/lang/Object"), (0, u "<init>"), (0, u "()V"), (3, .class_ 12), (1, u "java/lang/String"), (3, .class_ 18), (1, u "com/example/yohokit/yohokit/Counts"), (0, u "number"), (0, u "(C)I"), (0, .string 22), (0, u "123456789ABCDEFGHIJKLMNOPQRSTUVWXYZ"), (0, .methodref 10 24), (0, .nameAndType 25 26), (0, u "charAt"), (0, u "(I)C"), (30, u "CHARACTERS"), (0, u "Ljava/lang/String;"), (1, u "DECIMAL"), (11, u "character")] 6

def k2m0 : Method := { name := "<init>", desc := "()V", sig := { parameters := [], returnType := none }, accessFlags := 2, code := none }
def k2c1 : Code := { maxStack := 3, maxLocals := 1, code := prog_15_method_4_code, exceptionTable := #[], attributes := #[] }
def k2m1 : Method := { name := "character", desc := "(I)C", sig := { parameters := [.int], returnType := some .char }, accessFlags := 8, code := some k2c1 }
def k2c2 : Code := { maxStack := 2, maxLocals := 1, code := prog_15_method_7_code, exceptionTable := #[], attributes := #[] }
def k2m2 : Method := { name := "number", desc := "(C)I", sig := { parameters := [.char], returnType := some .int }, accessFlags := 8, code := some k2c2 }
/-- com/example/yohokit/yohokit/Counts -/
def k2 : Class := { plain "com/example/yohokit/yohokit/Counts" (some 0) with
  accessFlags := 48
  interfaces := #[]
  cf := some (fileOf pool2 16 #[] #[{ accessFlags := 2, nameIndex := 5, descriptorIndex := 6, attributes := #[] }, { accessFlags := 8, nameIndex := 72, descriptorIndex := 26, attributes := #[] }, { accessFlags := 8, nameIndex := 19, descriptorIndex := 20, attributes := #[] }] 48 2 #[] #[{ accessFlags := 24, nameIndex := 57, descriptorIndex := 58, attributes := #[] }, { accessFlags := 24, nameIndex := 60, descriptorIndex := 58, attributes := #[] }])
  fields := #[{ name := "CHARACTERS", type := (.object "java/lang/String"), accessFlags := 24, slot := 0, constantValue := 0 }, { name := "DECIMAL", type := (.object "java/lang/String"), accessFlags := 24, slot := 1, constantValue := 0 }]
  methods := #[k2m0, k2m1, k2m2]
  instanceTypes := #[]
  staticTypes := #[(.object "java/lang/String"), (.object "java/lang/String")]
  resolved := Array.replicate 79 none
  statics := none }

def pool3 : Array CpInfo := pool [(1, .class_ 2), (0, u "java/io/Serializable"), (0, .class_ 4), (0, u "java/lang/Object")] 2

/-- java/io/Serializable -/
def k3 : Class := { plain "java/io/Serializable" (some 0) with
  accessFlags := 1537
  interfaces := #[]
  cf := some (fileOf pool3 1 #[] #[] 1537 3 #[] #[])
  fields := #[]
  methods := #[]
  instanceTypes := #[]
  staticTypes := #[]
  resolved := Array.replicate 7 none
  statics := none }

def pool4 : Array CpInfo := pool [(1, .class_ 2), (0, u "java/lang/Comparable"), (0, .class_ 4), (0, u "java/lang/Object")] 7

/-- java/lang/Comparable -/
def k4 : Class := { plain "java/lang/Comparable" (some 0) with
  accessFlags := 1537
  interfaces := #[]
  cf := some (fileOf pool4 1 #[] #[] 1537 3 #[] #[])
  fields := #[]
  methods := #[]
  instanceTypes := #[]
  staticTypes := #[]
  resolved := Array.replicate 12 none
  statics := none }

def pool5 : Array CpInfo := pool [(2, .class_ 4), (1, u "java/lang/CharSequence"), (42, .class_ 48), (0, u "java/lang/CharSequence$1CodePointIterator"), (10, .class_ 60), (0, u "java/lang/CharSequence$1CharIterator"), (5, .class_ 67), (0, u "java/lang/Object")] 63

/-- java/lang/CharSequence -/
def k5 : Class := { plain "java/lang/CharSequence" (some 0) with
  accessFlags := 1537
  interfaces := #[]
  cf := some (fileOf pool5 2 #[.nestMembers #[47, 59]] #[] 1537 66 #[] #[])
  fields := #[]
  methods := #[]
  instanceTypes := #[]
  staticTypes := #[]
  resolved := Array.replicate 131 none
  statics := none }

def pool6 : Array CpInfo := pool [(1, .class_ 2), (0, u "java/lang/constant/Constable"), (0, .class_ 4), (0, u "java/lang/Object")] 6

/-- java/lang/constant/Constable -/
def k6 : Class := { plain "java/lang/constant/Constable" (some 0) with
  accessFlags := 1537
  interfaces := #[]
  cf := some (fileOf pool6 1 #[] #[] 1537 3 #[] #[])
  fields := #[]
  methods := #[]
  instanceTypes := #[]
  staticTypes := #[]
  resolved := Array.replicate 11 none
  statics := none }

def pool7 : Array CpInfo := pool [(1, .class_ 2), (0, u "java/lang/constant/ConstantDesc"), (0, .class_ 4), (0, u "java/lang/Object")] 32

/-- java/lang/constant/ConstantDesc -/
def k7 : Class := { plain "java/lang/constant/ConstantDesc" (some 0) with
  accessFlags := 1537
  interfaces := #[]
  cf := some (fileOf pool7 1 #[] #[] 1537 3 #[] #[])
  fields := #[]
  methods := #[]
  instanceTypes := #[]
  staticTypes := #[]
  resolved := Array.replicate 37 none
  statics := none }

def pool8 : Array CpInfo := pool [(2, .class_ 4), (1, u "java/lang/Object"), (0, u "<init>"), (0, u "()V"), (2, .fieldref 10 11), (0, .class_ 12), (0, .nameAndType 13 14), (0, u "java/lang/String"), (0, u "value"), (0, u "[B"), (0, .fieldref 10 16), (0, .nameAndType 17 18), (0, u "coder"), (0, u "B"), (2, u "hash"), (0, u "I"), (2, u "hashIsZero"), (0, u "Z"), (11, .fieldref 10 39), (0, .nameAndType 40 26), (0, u "COMPACT_STRINGS"), (66, .class_ 109), (1, u "java/lang/StringLatin1"), (32, u "()Z"), (220, u "([BI)C"), (27, u "(II)V"), (35, u "(I)C"), (64, .methodref 10 493), (0, .nameAndType 494 142), (0, u "isLatin1"), (0, .methodref 107 496), (0, .nameAndType 497 363), (0, u "charAt"), (3, u "checkIndex"), (73, .class_ 576), (0, u "java/lang/CharSequence"), (22, u "CASE_INSENSITIVE_ORDER"), (0, u "Ljava/util/Comparator;"), (452, .fieldref 1054 1055), (0, .class_ 1056), (0, .nameAndType 1057 1058), (0, u "jdk/internal/util/Preconditions"), (0, u "SIOOBE_FORMATTER"), (0, u "Ljava/util/function/BiFunction;"), (0, .methodref 1054 1060), (0, .nameAndType 501 1061), (0, u "(IILjava/util/function/BiFunction;)I"), (39, u "serialPersistentFields"), (0, u "[Ljava/io/ObjectStreamField;"), (0, .class_ 1104), (0, u "java/lang/String$CaseInsensitiveComparator"), (1, .class_ 1107), (0, u "java/io/Serializable"), (0, .class_ 1109), (0, u "java/lang/Comparable"), (0, .class_ 1111), (0, u "java/lang/constant/Constable"), (0, .class_ 1113), (0, u "java/lang/constant/ConstantDesc"), (2, u "serialVersionUID"), (0, u "J"), (3, u "REPL"), (0, u "C"), (2, u "LATIN1"), (1, u "UTF16")] 323

def k8m0 : Method := { name := "<init>", desc := "()V", sig := { parameters := [], returnType := none }, accessFlags := 1, code := none }
def k8c1 : Code := { maxStack := 2, maxLocals := 2, code := jdk_42_method_56_code, exceptionTable := #[], attributes := #[] }
def k8m1 : Method := { name := "charAt", desc := "(I)C", sig := { parameters := [.int], returnType := some .char }, accessFlags := 1, code := some k8c1 }
def k8c2 : Code := { maxStack := 1, maxLocals := 1, code := jdk_42_method_154_code, exceptionTable := #[], attributes := #[] }
def k8m2 : Method := { name := "isLatin1", desc := "()Z", sig := { parameters := [], returnType := some .boolean }, accessFlags := 0, code := some k8c2 }
def k8c3 : Code := { maxStack := 3, maxLocals := 2, code := jdk_42_method_155_code, exceptionTable := #[], attributes := #[] }
def k8m3 : Method := { name := "checkIndex", desc := "(II)V", sig := { parameters := [.int, .int], returnType := none }, accessFlags := 8, code := some k8c3 }
/-- java/lang/String -/
def k8 : Class := { plain "java/lang/String" (some 0) with
  accessFlags := 49
  interfaces := #[3, 4, 5, 6, 7]
  cf := some (fileOf pool8 10 #[.nestMembers #[1103]] #[{ accessFlags := 1, nameIndex := 5, descriptorIndex := 6, attributes := #[] }, { accessFlags := 1, nameIndex := 497, descriptorIndex := 427, attributes := #[] }, { accessFlags := 0, nameIndex := 494, descriptorIndex := 142, attributes := #[] }, { accessFlags := 8, nameIndex := 501, descriptorIndex := 391, attributes := #[] }] 49 2 #[1106, 1108, 575, 1110, 1112] #[{ accessFlags := 18, nameIndex := 13, descriptorIndex := 14, attributes := #[] }, { accessFlags := 18, nameIndex := 17, descriptorIndex := 18, attributes := #[] }, { accessFlags := 2, nameIndex := 21, descriptorIndex := 22, attributes := #[] }, { accessFlags := 2, nameIndex := 25, descriptorIndex := 26, attributes := #[] }, { accessFlags := 26, nameIndex := 1116, descriptorIndex := 1117, attributes := #[] }, { accessFlags := 24, nameIndex := 40, descriptorIndex := 26, attributes := #[] }, { accessFlags := 26, nameIndex := 1101, descriptorIndex := 1102, attributes := #[] }, { accessFlags := 26, nameIndex := 1121, descriptorIndex := 1122, attributes := #[] }, { accessFlags := 25, nameIndex := 599, descriptorIndex := 600, attributes := #[] }, { accessFlags := 24, nameIndex := 1125, descriptorIndex := 18, attributes := #[] }, { accessFlags := 24, nameIndex := 1127, descriptorIndex := 18, attributes := #[] }])
  fields := #[{ name := "value", type := (.array .byte), accessFlags := 18, slot := 0, constantValue := 0 }, { name := "coder", type := .byte, accessFlags := 18, slot := 1, constantValue := 0 }, { name := "hash", type := .int, accessFlags := 2, slot := 2, constantValue := 0 }, { name := "hashIsZero", type := .boolean, accessFlags := 2, slot := 3, constantValue := 0 }, { name := "serialVersionUID", type := .long, accessFlags := 26, slot := 0, constantValue := 0 }, { name := "COMPACT_STRINGS", type := .boolean, accessFlags := 24, slot := 1, constantValue := 0 }, { name := "serialPersistentFields", type := (.array (.object "java/io/ObjectStreamField")), accessFlags := 26, slot := 2, constantValue := 0 }, { name := "REPL", type := .char, accessFlags := 26, slot := 3, constantValue := 0 }, { name := "CASE_INSENSITIVE_ORDER", type := (.object "java/util/Comparator"), accessFlags := 25, slot := 4, constantValue := 0 }, { name := "LATIN1", type := .byte, accessFlags := 24, slot := 5, constantValue := 0 }, { name := "UTF16", type := .byte, accessFlags := 24, slot := 6, constantValue := 0 }]
  methods := #[k8m0, k8m1, k8m2, k8m3]
  instanceTypes := #[(.array .byte), .byte, .int, .boolean]
  staticTypes := #[.long, .boolean, (.array (.object "java/io/ObjectStreamField")), .char, (.object "java/util/Comparator"), .byte, .byte]
  resolved := Array.replicate 1451 none
  statics := some 0 }

def pool9 : Array CpInfo := pool [(1, .class_ 2), (0, u "java/lang/String"), (1, .class_ 6), (1, u "java/lang/Object"), (0, u "<init>"), (0, u "()V"), (0, .methodref 1 10), (0, .nameAndType 11 12), (0, u "checkIndex"), (0, u "(II)V"), (1, .class_ 16), (1, u "java/lang/StringLatin1"), (36, u "([BI)C"), (67, u "$assertionsDisabled"), (0, u "Z"), (98, .class_ 223), (1, u "java/lang/StringLatin1$LinesSpliterator"), (28, u "charAt"), (137, .class_ 391), (0, u "java/lang/StringLatin1$CharsSpliterator")] 3

def k9m0 : Method := { name := "<init>", desc := "()V", sig := { parameters := [], returnType := none }, accessFlags := 0, code := none }
def k9c1 : Code := { maxStack := 2, maxLocals := 2, code := jdk_43_method_2_code, exceptionTable := #[], attributes := #[] }
def k9m1 : Method := { name := "charAt", desc := "([BI)C", sig := { parameters := [(.array .byte), .int], returnType := some .char }, accessFlags := 9, code := some k9c1 }
/-- java/lang/StringLatin1 -/
def k9 : Class := { plain "java/lang/StringLatin1" (some 0) with
  accessFlags := 48
  interfaces := #[]
  cf := some (fileOf pool9 14 #[.nestMembers #[390, 221]] #[{ accessFlags := 0, nameIndex := 7, descriptorIndex := 8, attributes := #[] }, { accessFlags := 9, nameIndex := 252, descriptorIndex := 53, attributes := #[] }] 48 4 #[] #[{ accessFlags := 4120, nameIndex := 121, descriptorIndex := 122, attributes := #[] }])
  fields := #[{ name := "$assertionsDisabled", type := .boolean, accessFlags := 4120, slot := 0, constantValue := 0 }]
  methods := #[k9m0, k9m1]
  instanceTypes := #[]
  staticTypes := #[.boolean]
  resolved := Array.replicate 395 none
  statics := none }

def pool10 : Array CpInfo := pool [(2, .class_ 4), (1, u "java/lang/Object"), (0, u "<init>"), (0, u "()V"), (17, .class_ 26), (1, u "jdk/internal/util/Preconditions"), (6, u "checkIndex"), (21, .class_ 56), (0, u "jdk/internal/util/Preconditions$4"), (57, .class_ 115), (0, u "jdk/internal/util/Preconditions$1"), (7, u "SIOOBE_FORMATTER"), (0, u "Ljava/util/function/BiFunction;"), (0, .class_ 126), (0, u "jdk/internal/util/Preconditions$2"), (3, u "AIOOBE_FORMATTER"), (0, .class_ 132), (0, u "jdk/internal/util/Preconditions$3"), (3, u "IOOBE_FORMATTER"), (41, u "(IILjava/util/function/BiFunction;)I")] 15

def k10m0 : Method := { name := "<init>", desc := "()V", sig := { parameters := [], returnType := none }, accessFlags := 1, code := none }
def k10c1 : Code := { maxStack := 3, maxLocals := 3, code := jdk_41_method_11_code, exceptionTable := #[], attributes := #[] }
def k10m1 : Method := { name := "checkIndex", desc := "(IILjava/util/function/BiFunction;)I", sig := { parameters := [.int, .int, (.object "java/util/function/BiFunction")], returnType := some .int }, accessFlags := 9, code := some k10c1 }
/-- jdk/internal/util/Preconditions -/
def k10 : Class := { plain "jdk/internal/util/Preconditions" (some 0) with
  accessFlags := 33
  interfaces := #[]
  cf := some (fileOf pool10 24 #[.nestMembers #[55, 131, 125, 114]] #[{ accessFlags := 1, nameIndex := 5, descriptorIndex := 6, attributes := #[] }, { accessFlags := 9, nameIndex := 33, descriptorIndex := 178, attributes := #[] }] 33 2 #[] #[{ accessFlags := 25, nameIndex := 123, descriptorIndex := 124, attributes := #[] }, { accessFlags := 25, nameIndex := 130, descriptorIndex := 124, attributes := #[] }, { accessFlags := 25, nameIndex := 136, descriptorIndex := 124, attributes := #[] }])
  fields := #[{ name := "SIOOBE_FORMATTER", type := (.object "java/util/function/BiFunction"), accessFlags := 25, slot := 0, constantValue := 0 }, { name := "AIOOBE_FORMATTER", type := (.object "java/util/function/BiFunction"), accessFlags := 25, slot := 1, constantValue := 0 }, { name := "IOOBE_FORMATTER", type := (.object "java/util/function/BiFunction"), accessFlags := 25, slot := 2, constantValue := 0 }]
  methods := #[k10m0, k10m1]
  instanceTypes := #[]
  staticTypes := #[(.object "java/util/function/BiFunction"), (.object "java/util/function/BiFunction"), (.object "java/util/function/BiFunction")]
  resolved := Array.replicate 194 none
  statics := some 1 }

def pool11 : Array CpInfo := pool [(9, u "<init>"), (6, .class_ 18), (1, u "java/lang/Object"), (0, u "()V"), (1, .class_ 23), (1, u "jdk/internal/util/ArraysSupport"), (0, u "LOG2_ARRAY_LONG_INDEX_SCALE"), (0, u "I"), (2, u "U"), (0, u "Ljdk/internal/misc/Unsafe;"), (8, u "BIG_ENDIAN"), (0, u "Z"), (8, u "LOG2_BYTE_BIT_SIZE"), (4, u "LOG2_ARRAY_INT_INDEX_SCALE"), (54, u "JLA"), (0, u "Ljdk/internal/access/JavaLangAccess;"), (11, u "LOG2_ARRAY_BOOLEAN_INDEX_SCALE"), (9, u "LOG2_ARRAY_BYTE_INDEX_SCALE"), (5, u "LOG2_ARRAY_CHAR_INDEX_SCALE"), (5, u "LOG2_ARRAY_SHORT_INDEX_SCALE"), (18, u "LOG2_ARRAY_FLOAT_INDEX_SCALE"), (24, u "LOG2_ARRAY_DOUBLE_INDEX_SCALE"), (89, u "T_BOOLEAN"), (2, u "T_CHAR"), (1, u "T_FLOAT"), (1, u "T_DOUBLE"), (1, u "T_BYTE"), (1, u "T_SHORT"), (1, u "T_INT"), (1, u "T_LONG"), (1, u "SOFT_MAX_ARRAY_LENGTH")] 83

def k11m0 : Method := { name := "<init>", desc := "()V", sig := { parameters := [], returnType := none }, accessFlags := 2, code := none }
/-- jdk/internal/util/ArraysSupport -/
def k11 : Class := { plain "jdk/internal/util/ArraysSupport" (some 0) with
  accessFlags := 33
  interfaces := #[]
  cf := some (fileOf pool11 21 #[] #[{ accessFlags := 2, nameIndex := 9, descriptorIndex := 19, attributes := #[] }] 33 16 #[] #[{ accessFlags := 24, nameIndex := 28, descriptorIndex := 29, attributes := #[] }, { accessFlags := 26, nameIndex := 38, descriptorIndex := 39, attributes := #[] }, { accessFlags := 25, nameIndex := 121, descriptorIndex := 25, attributes := #[] }, { accessFlags := 25, nameIndex := 131, descriptorIndex := 25, attributes := #[] }, { accessFlags := 25, nameIndex := 137, descriptorIndex := 25, attributes := #[] }, { accessFlags := 25, nameIndex := 143, descriptorIndex := 25, attributes := #[] }, { accessFlags := 25, nameIndex := 53, descriptorIndex := 25, attributes := #[] }, { accessFlags := 25, nameIndex := 24, descriptorIndex := 25, attributes := #[] }, { accessFlags := 25, nameIndex := 162, descriptorIndex := 25, attributes := #[] }, { accessFlags := 25, nameIndex := 187, descriptorIndex := 25, attributes := #[] }, { accessFlags := 26, nameIndex := 48, descriptorIndex := 25, attributes := #[] }, { accessFlags := 25, nameIndex := 277, descriptorIndex := 25, attributes := #[] }, { accessFlags := 25, nameIndex := 280, descriptorIndex := 25, attributes := #[] }, { accessFlags := 25, nameIndex := 282, descriptorIndex := 25, attributes := #[] }, { accessFlags := 25, nameIndex := 284, descriptorIndex := 25, attributes := #[] }, { accessFlags := 25, nameIndex := 286, descriptorIndex := 25, attributes := #[] }, { accessFlags := 25, nameIndex := 288, descriptorIndex := 25, attributes := #[] }, { accessFlags := 25, nameIndex := 290, descriptorIndex := 25, attributes := #[] }, { accessFlags := 25, nameIndex := 292, descriptorIndex := 25, attributes := #[] }, { accessFlags := 26, nameIndex := 108, descriptorIndex := 109, attributes := #[] }, { accessFlags := 25, nameIndex := 294, descriptorIndex := 25, attributes := #[] }])
  fields := #[{ name := "U", type := (.object "jdk/internal/misc/Unsafe"), accessFlags := 24, slot := 0, constantValue := 0 }, { name := "BIG_ENDIAN", type := .boolean, accessFlags := 26, slot := 1, constantValue := 0 }, { name := "LOG2_ARRAY_BOOLEAN_INDEX_SCALE", type := .int, accessFlags := 25, slot := 2, constantValue := 0 }, { name := "LOG2_ARRAY_BYTE_INDEX_SCALE", type := .int, accessFlags := 25, slot := 3, constantValue := 0 }, { name := "LOG2_ARRAY_CHAR_INDEX_SCALE", type := .int, accessFlags := 25, slot := 4, constantValue := 0 }, { name := "LOG2_ARRAY_SHORT_INDEX_SCALE", type := .int, accessFlags := 25, slot := 5, constantValue := 0 }, { name := "LOG2_ARRAY_INT_INDEX_SCALE", type := .int, accessFlags := 25, slot := 6, constantValue := 0 }, { name := "LOG2_ARRAY_LONG_INDEX_SCALE", type := .int, accessFlags := 25, slot := 7, constantValue := 0 }, { name := "LOG2_ARRAY_FLOAT_INDEX_SCALE", type := .int, accessFlags := 25, slot := 8, constantValue := 0 }, { name := "LOG2_ARRAY_DOUBLE_INDEX_SCALE", type := .int, accessFlags := 25, slot := 9, constantValue := 0 }, { name := "LOG2_BYTE_BIT_SIZE", type := .int, accessFlags := 26, slot := 10, constantValue := 0 }, { name := "T_BOOLEAN", type := .int, accessFlags := 25, slot := 11, constantValue := 0 }, { name := "T_CHAR", type := .int, accessFlags := 25, slot := 12, constantValue := 0 }, { name := "T_FLOAT", type := .int, accessFlags := 25, slot := 13, constantValue := 0 }, { name := "T_DOUBLE", type := .int, accessFlags := 25, slot := 14, constantValue := 0 }, { name := "T_BYTE", type := .int, accessFlags := 25, slot := 15, constantValue := 0 }, { name := "T_SHORT", type := .int, accessFlags := 25, slot := 16, constantValue := 0 }, { name := "T_INT", type := .int, accessFlags := 25, slot := 17, constantValue := 0 }, { name := "T_LONG", type := .int, accessFlags := 25, slot := 18, constantValue := 0 }, { name := "JLA", type := (.object "jdk/internal/access/JavaLangAccess"), accessFlags := 26, slot := 19, constantValue := 0 }, { name := "SOFT_MAX_ARRAY_LENGTH", type := .int, accessFlags := 25, slot := 20, constantValue := 0 }]
  methods := #[k11m0]
  instanceTypes := #[]
  staticTypes := #[(.object "jdk/internal/misc/Unsafe"), .boolean, .int, .int, .int, .int, .int, .int, .int, .int, .int, .int, .int, .int, .int, .int, .int, .int, .int, (.object "jdk/internal/access/JavaLangAccess"), .int]
  resolved := Array.replicate 378 none
  statics := none }

def pool12 : Array CpInfo := pool [(1, u "java/lang/Cloneable"), (0, .class_ 1), (0, u "java/lang/Object"), (0, .class_ 3)] 3

/-- java/lang/Cloneable -/
def k12 : Class := { plain "java/lang/Cloneable" (some 0) with
  accessFlags := 1537
  interfaces := #[]
  cf := some (fileOf pool12 2 #[] #[] 1537 4 #[] #[])
  fields := #[]
  methods := #[]
  instanceTypes := #[]
  staticTypes := #[]
  resolved := Array.replicate 8 none
  statics := none }

/-- the primitive byte -/
def k13 : Class := { plain "byte" none with kind := .primitive 'B', accessFlags := 0x411 }
/-- [B -/
def k14 : Class := { plain "[B" (some 0) with kind := .array 13 .byte, interfaces := #[12, 3], accessFlags := 1041 }

/-- the primitive int -/
def k15 : Class := { plain "int" none with kind := .primitive 'I', accessFlags := 0x411 }
/-- [I -/
def k16 : Class := { plain "[I" (some 0) with kind := .array 15 .int, interfaces := #[12, 3], accessFlags := 1041 }

def heap : Heap := #[{ cls := 8, slots := #[.long 0, .int 1, .null, .int 0, .null, .int 0, .int 0], vm := .statics 8 },
  { cls := 10, slots := #[.null, .null, .null], vm := .statics 10 }]
def classes : Array Class := #[k0, k1, k2, k3, k4, k5, k6, k7, k8, k9, k10, k11, k12, k13, k14, k15, k16]
def interned : List (Array UInt16 × Addr) := []
def slotsUsed : Nat := 10
def theMethod : MethodId := ⟨1, 1⟩
def args0 : Array Value := #[.int 5, .int 6]
def aboutOver (below : List Frame) : State where
  vm := { classes := classes, interned := interned.toArray }
  heap := heap
  slotsUsed := slotsUsed
  threads := #[{ frames := .invoking theMethod args0 :: below }]
def below0 : List Frame := [.native { method := ⟨0, 0⟩, args := #[] }]
def about1 : State := aboutOver below0
def p0 : Program := .bare "" "" ""
def e0 : Env := launch0.env 0 0 0
theorem w_frames : about1.frames = Frame.invoking theMethod args0 :: below0 := rfl
set_option maxRecDepth 65536 in
theorem w_args : argsFit about1.vm theMethod args0 = true := by decide +kernel
set_option maxRecDepth 65536 in
theorem w_heap : heapFits about1 = true := by decide +kernel
set_option maxRecDepth 65536 in
theorem w_runnable : about1.curStatus? = some .runnable := by decide +kernel
set_option maxRecDepth 65536 in
theorem w_alone : about1.alone = true := by decide +kernel
set_option maxRecDepth 65536 in
theorem w_named : about1.methodNamed? x = some theMethod := by decide +kernel
set_option maxRecDepth 65536 in
theorem w_hears : about1.hears theMethod below0 = true := by decide +kernel
set_option maxRecDepth 65536 in
theorem w_ripe : about1.ripe theMethod args0 below0 = true := by decide +kernel
theorem w_running : about1.status = .running := rfl
set_option maxRecDepth 65536 in
theorem w_room : about1.hasRoom e0.platform room_1 = true :=
  launch0.hasRoom_least _ room_1 (by decide +kernel) (by decide +kernel) (by decide +kernel) (by decide +kernel) (by decide +kernel) (by decide +kernel)
theorem allAtoms_all (ts : List Jvm.Cond) (a : Array Jvm.Value) (st : Jvm.State) : (allAtoms ts).before a st = ts.all (fun c => c.before a st) := by
  induction ts with
  | nil => rfl
  | cons c t ih =>
    show (Jvm.Cond.and c (allAtoms t)).before a st = _
    rw [Jvm.Cond.before_and, ih, List.all_cons]
def words1 : List Jvm.Cond := Jvm.Cond.code x code maxLocals ret :: tables_1
/-- a 'code' word, met by the world's own term for the bytes: nothing is compared byte by byte -/
theorem code_word {y : MethodName} {bytes : ByteArray} {mx : Nat} {rt : Option FieldType} {a : Array Value} {s : State} {m : MethodId} {meth : Method} {c : Code} (h1 : s.methodNamed? y = some m) (h2 : s.vm.method? m = some meth) (h3 : meth.code = some c) (h4 : c.code = bytes)
    (h5 : (c.maxLocals == mx && c.exceptionTable.isEmpty && decide (c.maxStack ≤ mostOperands) && decide (meth.sig.returnType = rt) && !meth.locks && decide (parseMethodDescriptor y.desc = some meth.sig)) = true) : (Jvm.Cond.code y bytes mx rt).before a s = true := by
  simp only [Bool.and_eq_true, beq_iff_eq, Bool.not_eq_true', decide_eq_true_eq] at h5
  obtain ⟨⟨⟨⟨⟨g1, g2⟩, g3⟩, g4⟩, g5⟩, g6⟩ := h5
  simp [Cond.before, Cond.holds, Cond.value, h1, h2, h3, h4, g1, g2, g3, g4, g5, g6]
def isCode : Jvm.Cond → Bool
  | .code _ _ _ _ => true
  | _ => false
theorem all_split {L : List Jvm.Cond} {P : Jvm.Cond → Bool} (h1 : L.all (fun c => isCode c || P c) = true) (h2 : ∀ c ∈ L.filter isCode, P c = true) : L.all P = true := by
  refine List.all_eq_true.mpr fun c hc => ?_
  have h := List.all_eq_true.mp h1 c hc
  rcases Bool.eq_false_or_eq_true (isCode c) with hi | hi
  · exact h2 c (List.mem_filter.mpr ⟨hc, hi⟩)
  · simpa [hi] using h
set_option maxRecDepth 65536 in
theorem w_c0 : (Jvm.Cond.code x code maxLocals ret).before args0 about1 = true := code_word (m := ⟨1, 1⟩) (meth := k1m1) (c := k1c1) (by decide +kernel) rfl rfl rfl (by decide +kernel)
set_option maxRecDepth 65536 in
theorem w_c1 : (Jvm.Cond.code ({ cls := "com/example/yohokit/yohokit/Counts", name := "number", desc := "(C)I" } : Jvm.MethodName) prog_15_method_7_code (1 : Nat) (Option.some Jvm.ClassFile.FieldType.int)).before args0 about1 = true := code_word (m := ⟨2, 2⟩) (meth := k2m2) (c := k2c2) (by decide +kernel) rfl rfl rfl (by decide +kernel)
set_option maxRecDepth 65536 in
theorem w_c2 : (Jvm.Cond.code ({ cls := "com/example/yohokit/yohokit/Counts", name := "character", desc := "(I)C" } : Jvm.MethodName) prog_15_method_4_code (1 : Nat) (Option.some Jvm.ClassFile.FieldType.char)).before args0 about1 = true := code_word (m := ⟨2, 1⟩) (meth := k2m1) (c := k2c1) (by decide +kernel) rfl rfl rfl (by decide +kernel)
set_option maxRecDepth 65536 in
theorem w_c3 : (Jvm.Cond.code ({ cls := "java/lang/String", name := "charAt", desc := "(I)C" } : Jvm.MethodName) jdk_42_method_56_code (2 : Nat) (Option.some Jvm.ClassFile.FieldType.char)).before args0 about1 = true := code_word (m := ⟨8, 1⟩) (meth := k8m1) (c := k8c1) (by decide +kernel) rfl rfl rfl (by decide +kernel)
set_option maxRecDepth 65536 in
theorem w_c4 : (Jvm.Cond.code ({ cls := "java/lang/String", name := "isLatin1", desc := "()Z" } : Jvm.MethodName) jdk_42_method_154_code (1 : Nat) (Option.some Jvm.ClassFile.FieldType.boolean)).before args0 about1 = true := code_word (m := ⟨8, 2⟩) (meth := k8m2) (c := k8c2) (by decide +kernel) rfl rfl rfl (by decide +kernel)
set_option maxRecDepth 65536 in
theorem w_c5 : (Jvm.Cond.code ({ cls := "java/lang/StringLatin1", name := "charAt", desc := "([BI)C" } : Jvm.MethodName) jdk_43_method_2_code (2 : Nat) (Option.some Jvm.ClassFile.FieldType.char)).before args0 about1 = true := code_word (m := ⟨9, 1⟩) (meth := k9m1) (c := k9c1) (by decide +kernel) rfl rfl rfl (by decide +kernel)
set_option maxRecDepth 65536 in
theorem w_c6 : (Jvm.Cond.code ({ cls := "java/lang/String", name := "checkIndex", desc := "(II)V" } : Jvm.MethodName) jdk_42_method_155_code (2 : Nat) (Option.none : Option Jvm.ClassFile.FieldType)).before args0 about1 = true := code_word (m := ⟨8, 3⟩) (meth := k8m3) (c := k8c3) (by decide +kernel) rfl rfl rfl (by decide +kernel)
set_option maxRecDepth 65536 in
theorem w_c7 : (Jvm.Cond.code ({ cls := "jdk/internal/util/Preconditions", name := "checkIndex", desc := "(IILjava/util/function/BiFunction;)I" } : Jvm.MethodName) jdk_41_method_11_code (3 : Nat) (Option.some Jvm.ClassFile.FieldType.int)).before args0 about1 = true := code_word (m := ⟨10, 1⟩) (meth := k10m1) (c := k10c1) (by decide +kernel) rfl rfl rfl (by decide +kernel)
def codes1 : List Jvm.Cond := [Jvm.Cond.code x code maxLocals ret, Jvm.Cond.code ({ cls := "com/example/yohokit/yohokit/Counts", name := "number", desc := "(C)I" } : Jvm.MethodName) prog_15_method_7_code (1 : Nat) (Option.some Jvm.ClassFile.FieldType.int), Jvm.Cond.code ({ cls := "com/example/yohokit/yohokit/Counts", name := "character", desc := "(I)C" } : Jvm.MethodName) prog_15_method_4_code (1 : Nat) (Option.some Jvm.ClassFile.FieldType.char), Jvm.Cond.code ({ cls := "java/lang/String", name := "charAt", desc := "(I)C" } : Jvm.MethodName) jdk_42_method_56_code (2 : Nat) (Option.some Jvm.ClassFile.FieldType.char), Jvm.Cond.code ({ cls := "java/lang/String", name := "isLatin1", desc := "()Z" } : Jvm.MethodName) jdk_42_method_154_code (1 : Nat) (Option.some Jvm.ClassFile.FieldType.boolean), Jvm.Cond.code ({ cls := "java/lang/StringLatin1", name := "charAt", desc := "([BI)C" } : Jvm.MethodName) jdk_43_method_2_code (2 : Nat) (Option.some Jvm.ClassFile.FieldType.char), Jvm.Cond.code ({ cls := "java/lang/String", name := "checkIndex", desc := "(II)V" } : Jvm.MethodName) jdk_42_method_155_code (2 : Nat) (Option.none : Option Jvm.ClassFile.FieldType), Jvm.Cond.code ({ cls := "jdk/internal/util/Preconditions", name := "checkIndex", desc := "(IILjava/util/function/BiFunction;)I" } : Jvm.MethodName) jdk_41_method_11_code (3 : Nat) (Option.some Jvm.ClassFile.FieldType.int)]
set_option maxRecDepth 65536 in
theorem codes_eq : words1.filter isCode = codes1 := rfl
theorem w_codes : ∀ c ∈ words1.filter isCode, c.before args0 about1 = true := by
  rw [codes_eq]
  intro c hc
  simp only [codes1, List.mem_cons, List.not_mem_nil, or_false] at hc
  rcases hc with rfl | rfl | rfl | rfl | rfl | rfl | rfl | rfl
  · exact w_c0
  · exact w_c1
  · exact w_c2
  · exact w_c3
  · exact w_c4
  · exact w_c5
  · exact w_c6
  · exact w_c7
set_option maxRecDepth 65536 in
theorem w_t1 : (words1.take 24).all (fun c => isCode c || c.before args0 about1) = true := by decide +kernel
set_option maxRecDepth 65536 in
theorem w_t2 : (words1.drop 24).all (fun c => isCode c || c.before args0 about1) = true := by decide +kernel
theorem w_tables : (allAtoms (Jvm.Cond.code x code maxLocals ret :: tables_1)).before args0 about1 = true := by
  rw [allAtoms_all]
  show words1.all (fun c => c.before args0 about1) = true
  refine all_split ?_ w_codes
  rw [← List.take_append_drop 24 words1, List.all_append, w_t1, w_t2]
  rfl
set_option maxRecDepth 65536 in
theorem w_rest : rest_1_c.before args0 about1 = true := by decide +kernel
set_option maxRecDepth 65536 in
theorem w_case : (Jvm.Cond.and given_1 narrow_1).before args0 about1 = true := by decide +kernel
set_option maxRecDepth 65536 in
theorem w_consts : constsHeld consts_1 about1 := Jvm.Lit.constsHeldB_iff.mp (by decide +kernel)
theorem w_applies : (headSpec (Jvm.Cond.code x code maxLocals ret :: tables_1) room_1).applies x e0.platform about1 = true :=
  (Spec.applies_iff w_frames).mpr ⟨w_running, w_runnable, w_alone, w_named, w_hears, w_ripe, w_room, w_tables⟩
theorem atStart : AtStart classFile x code maxLocals ret World_1 tables_1 room_1 Calls_1 rest_1 Pre_1 launch0 p0 e0 about1 theMethod args0 below0 :=
  ⟨lists_1, trivial, launch0.admits_env _ _ _, launch0.least_env, fairChoices_fair.cas, fairChoices_fair.clock, w_frames, w_args, w_heap, w_applies, ⟨w_consts, trivial⟩, w_rest, w_case⟩
end start1
theorem witness_1 : WitnessClaimed_1 := ⟨start1.p0, start1.e0, start1.about1, start1.theMethod, start1.args0, start1.below0, start1.atStart⟩
end Jvm.Pilot.@@N@@
