import JvmDerived
import JvmDerived.Pilot.@@N@@Statement
import JvmDerived.Pilot.@@N@@Code
set_option linter.unusedVariables false
set_option linter.unusedSimpArgs false
/- laws to paste: Road.backV, Road.chN, Road.codOf (cut by pick.py; bodies as the Statement names them) -/
namespace Jvm.Pilot.@@N@@
namespace StrChars
open Jvm Sem ClassFile Op Lib Jvm.Stand Jvm.Free.XT Jvm.Free.ALB Jvm.Free.JM Jvm.Free
open Jvm.Lib.Cold (StaticIs)
/-- a char array whose places are chars -/
def Ch (a : Addr) (A : Cell) (U : State) : Prop := Arr .char a A U ∧ Typed .char A
theorem Ch.mv {a : Addr} {A : Cell} {U U' : State} (h : Ch a A U) (hal : U.vm.Alike U'.vm) (hh : U'.heap = U.heap) : Ch a A U' := ⟨h.1.mv hal hh, h.2⟩
theorem Ch.keep {a : Addr} {A : Cell} {U U' : State} (h : Ch a A U) (hal : U.vm.Alike U'.vm) (hk : U'.heap[a]? = some A) : Ch a A U' := ⟨h.1.keep hal hk, h.2⟩
/-- what place i of a char[]'s cell holds -/
def cv (A : Cell) (i : Nat) : Int32 := match A.slots[i]? with | some (.int x) => x | _ => 0
theorem Ch.get {a : Addr} {A : Cell} {U : State} (h : Ch a A U) {i : Nat} (hi : i < A.slots.size) : A.slots[i]? = some (.int (cv A i)) := by
  have e := Array.getElem?_eq_getElem hi
  have f := h.2 i _ e
  unfold cv; rw [e]
  generalize A.slots[i] = v at f
  cases v <;> simp [fits] at f ⊢
/-- the byte that i2b leaves of a char -/
def lo8 (x : Int32) : Int32 := x.toInt8.toInt32
theorem fits_lo8 (y : Int32) : fits .byte (.int (lo8 y)) = true := by
  have h1 := y.toInt8.le_toInt
  have h2 := y.toInt8.toInt_lt
  simp only [lo8, fits, Bool.and_eq_true, decide_eq_true_eq, Int32.le_iff_toInt_le, Int8.toInt_toInt32, show (-128 : Int32).toInt = -128 from by decide, show (127 : Int32).toInt = 127 from by decide]
  omega
/-- A' is A but that each place j of lo .. hi - 1 holds f j -/
def Laid (A A' : Cell) (lo hi : Nat) (f : Nat → Value) : Prop := A'.cls = A.cls ∧ A'.vm = A.vm ∧ A'.slots.size = A.slots.size ∧ ∀ i, A'.slots[i]? = if lo ≤ i ∧ i < hi then some (f i) else A.slots[i]?
theorem Laid.zero (A : Cell) (lo : Nat) (f : Nat → Value) : Laid A A lo (lo + 0) f := ⟨rfl, rfl, rfl, fun i => by rw [if_neg (by omega)]⟩
theorem Laid.step {A Ak : Cell} {lo k : Nat} {f : Nat → Value} {v : Value} (h : Laid A Ak lo k f) (hlo : lo ≤ k) (hk : k < Ak.slots.size) (hv : v = f k) : Laid A (Ak.setSlot k v) lo (k + 1) f := by
  refine ⟨h.1, h.2.1, by simpa [Cell.setSlot] using h.2.2.1, fun i => ?_⟩
  by_cases e : k = i
  · subst e; rw [Cell.slots_setSlot_self v hk, if_pos (by omega), hv]
  · rw [Cell.slots_setSlot_ne v e, h.2.2.2 i]
    by_cases q : lo ≤ i ∧ i < k
    · rw [if_pos q, if_pos (by omega)]
    · rw [if_neg q, if_neg (by omega)]
def U16 : String := "java/lang/StringUTF16"
namespace Cmp5
def yN : MethodName := ⟨"java/lang/StringUTF16", "compress", "([CI[BII)I"⟩
abbrev yB : ByteArray := jdk_52_method_21_code
theorem d0 : decode yB 0 = .ok (.iconst 0, 1) := by decide +kernel
theorem d1 : decode yB 1 = .ok (.istore 5, 2) := by decide +kernel
theorem d3 : decode yB 3 = .ok (.iload 5, 2) := by decide +kernel
theorem d5 : decode yB 5 = .ok (.iload 4, 2) := by decide +kernel
theorem d7 : decode yB 7 = .ok (.if_icmp (.ge) 37, 3) := by decide +kernel
theorem d10 : decode yB 10 = .ok (.aload_n 0, 1) := by decide +kernel
theorem d11 : decode yB 11 = .ok (.iload_n 1, 1) := by decide +kernel
theorem d12 : decode yB 12 = .ok (.caload, 1) := by decide +kernel
theorem d13 : decode yB 13 = .ok (.istore 6, 2) := by decide +kernel
theorem d15 : decode yB 15 = .ok (.iload 6, 2) := by decide +kernel
theorem d17 : decode yB 17 = .ok (.sipush 255, 3) := by decide +kernel
theorem d20 : decode yB 20 = .ok (.if_icmp (.le) 6, 3) := by decide +kernel
theorem d26 : decode yB 26 = .ok (.aload_n 2, 1) := by decide +kernel
theorem d27 : decode yB 27 = .ok (.iload_n 3, 1) := by decide +kernel
theorem d28 : decode yB 28 = .ok (.iload 6, 2) := by decide +kernel
theorem d30 : decode yB 30 = .ok (.i2b, 1) := by decide +kernel
theorem d31 : decode yB 31 = .ok (.bastore, 1) := by decide +kernel
theorem d32 : decode yB 32 = .ok (.iinc 1 1, 3) := by decide +kernel
theorem d35 : decode yB 35 = .ok (.iinc 3 1, 3) := by decide +kernel
theorem d38 : decode yB 38 = .ok (.iinc 5 1, 3) := by decide +kernel
theorem d41 : decode yB 41 = .ok (.goto (-38), 3) := by decide +kernel
theorem d44 : decode yB 44 = .ok (.iload 4, 2) := by decide +kernel
theorem d46 : decode yB 46 = .ok (.ireturn, 1) := by decide +kernel
def site : List Cond := []
def tab : Cond := tabOf yN yB 7 (some .int) site
def P (b : Addr) (A : Cell) (d : Addr) (B : Cell) (o q len : Nat) (args : Array Value) (s : State) : Prop := args = #[.ref b, .int (Int32.ofNat o), .ref d, .int (Int32.ofNat q), .int (Int32.ofNat len)] ∧ Ch b A s ∧ Arr .byte d B s ∧ b ≠ d ∧ o + len ≤ A.slots.size ∧ q + len ≤ B.slots.size ∧ ∀ i, i < len → ¬ 255 < cv A (o + i)
def E (b : Addr) (A : Cell) (d : Addr) (B : Cell) (o q len : Nat) (r : Option Value) (s u : State) : Prop := r = some (.int (Int32.ofNat len)) ∧ ∃ B', Put d B' s u ∧ Laid B B' q (q + len) (fun j => Value.int (lo8 (cv A (o + (j - q)))))
/-- no char of the range above 255: len; the places written hold each char's low byte -/
theorem law (l : Launch) (b : Addr) (A : Cell) (d : Addr) (B : Cell) (o q len : Nat) : Law l yN 5 5 0 0 yB 7 (some .int) site (P b A d B o q len) (E b A d B o q len) (copyLocs d q len) 0 0 := by
  refine Law.of_walk (plainFor_of_name (by decide +kernel)) (by decide +kernel) (by decide +kernel) (by decide) (fun _ _ h => by rw [h.1]; rfl) (fun _ U U' hal hh h => ⟨h.1, h.2.1.mv hal hh, h.2.2.1.mv hal hh, h.2.2.2⟩) (fun r U U' V V' h1 hal h2 h => ⟨h.1, h.2.elim fun B' q => ⟨B', q.1.mv h1 h2, q.2⟩⟩) ?_
  intro p e s m args below meth c s₁ X0 hexec hbytes hml hret hlk hnm hown hh0 W hP
  obtain ⟨rfl, hA, hB, hne, l1, l2, hp⟩ := hP
  have c1 : Steps p.tables e below (s₁.setTop (entryFrame m #[.ref b, .int (Int32.ofNat o), .ref d, .int (Int32.ofNat q), .int (Int32.ofNat len)] 7)) (s₁.setTop (mkF m 0 #[.val (.ref b), .val (.int (Int32.ofNat o)), .val (.ref d), .val (.int (Int32.ofNat q)), .val (.int (Int32.ofNat len)), .unset, .unset] [])) := entry rfl
  have hA0 := hA.1.mv X0.warmed.alike hh0
  have hB0 := hB.mv X0.warmed.alike hh0
  have a31 := hA.1.2.2.2
  have c2 : Steps p.tables e below (s₁.setTop (entryFrame m #[.ref b, .int (Int32.ofNat o), .ref d, .int (Int32.ofNat q), .int (Int32.ofNat len)] 7)) (s₁.setTop (mkF m 3 #[.val (.ref b), .val (.int (Int32.ofNat o)), .val (.ref d), .val (.int (Int32.ofNat q)), .val (.int (Int32.ofNat len)), .val (.int 0), .unset] [])) := c1.trans (by
    refine iconstV X0.here hexec rfl 0 (hb hbytes d0) (by decide) ?_
    refine XS.istore X0.here hexec rfl (hb hbytes d1) rfl rfl ?_
    exact Steps.refl _)
  have loop : ∀ (r i : Nat), i + r = len → ∀ (z : Slot), (z = .unset ∨ ∃ w, z = .val w ∧ w.category = 1) → ∀ (Tl : State) (Bk : Cell), Stand p l e { frames := 0, locals := 0, cells := 0, slots := 0 } s m #[.ref b, .int (Int32.ofNat o), .ref d, .int (Int32.ofNat q), .int (Int32.ofNat len)] below meth c Tl ([] ++ copyLocs d q i) 0 0 → Put d Bk s₁ Tl → Laid B Bk q (q + i) (fun j => Value.int (lo8 (cv A (o + (j - q))))) →
      Steps p.tables e below (s₁.setTop (entryFrame m #[.ref b, .int (Int32.ofNat o), .ref d, .int (Int32.ofNat q), .int (Int32.ofNat len)] 7)) (Tl.setTop (mkF m 3 #[.val (.ref b), .val (.int (Int32.ofNat (o + i))), .val (.ref d), .val (.int (Int32.ofNat (q + i))), .val (.int (Int32.ofNat len)), .val (.int (Int32.ofNat i)), z] [])) → ∃ (T' : State) (B' : Cell) (z' : Slot), Stand p l e { frames := 0, locals := 0, cells := 0, slots := 0 } s m #[.ref b, .int (Int32.ofNat o), .ref d, .int (Int32.ofNat q), .int (Int32.ofNat len)] below meth c T' ([] ++ copyLocs d q len) 0 0 ∧ Put d B' s₁ T' ∧ Laid B B' q (q + len) (fun j => Value.int (lo8 (cv A (o + (j - q))))) ∧
      Steps p.tables e below (s₁.setTop (entryFrame m #[.ref b, .int (Int32.ofNat o), .ref d, .int (Int32.ofNat q), .int (Int32.ofNat len)] 7)) (T'.setTop (mkF m 3 #[.val (.ref b), .val (.int (Int32.ofNat (o + len))), .val (.ref d), .val (.int (Int32.ofNat (q + len))), .val (.int (Int32.ofNat len)), .val (.int (Int32.ofNat len)), z'] [])) := by
    intro r
    induction r with
    | zero =>
      intro i hi z hz Tl Bk Xl pl fl cl
      have hil : i = len := by omega
      rw [hil] at Xl fl cl
      exact ⟨Tl, Bk, z, Xl, pl, fl, cl⟩
    | succ r ih =>
      intro i hi z hz Tl Bk Xl pl fl cl
      have all := X0.warmed.alike.symm.trans Xl.warmed.alike
      have hAl := hA0.keep all (pl.other hne hA0.1)
      have hBk := hB0.like all pl.1 fl.1 fl.2.1 fl.2.2.1
      have hlt : q + i < Bk.slots.size := by rw [fl.2.2.1]; omega
      have c3 : Steps p.tables e below (s₁.setTop (entryFrame m #[.ref b, .int (Int32.ofNat o), .ref d, .int (Int32.ofNat q), .int (Int32.ofNat len)] 7)) (Tl.setTop (mkF m 12 #[.val (.ref b), .val (.int (Int32.ofNat (o + i))), .val (.ref d), .val (.int (Int32.ofNat (q + i))), .val (.int (Int32.ofNat len)), .val (.int (Int32.ofNat i)), z] [.int (Int32.ofNat (o + i)), .ref b])) := cl.trans (by
        refine XS.iload Xl.here hexec rfl (hb hbytes d3) rfl ?_
        refine XS.iload Xl.here hexec rfl (hb hbytes d5) rfl ?_
        refine XS.icmpNo Xl.here hexec rfl (hb hbytes d7) rfl (ii_ge_f (lt32 (by omega) (by omega))) ?_
        refine XS.aloadN Xl.here hexec rfl (hb hbytes d10) rfl rfl ?_
        refine XS.iloadN Xl.here hexec rfl (hb hbytes d11) rfl ?_
        exact Steps.refl _)
      have c4 : Steps p.tables e below (s₁.setTop (entryFrame m #[.ref b, .int (Int32.ofNat o), .ref d, .int (Int32.ofNat q), .int (Int32.ofNat len)] 7)) (Tl.setTop (mkF m 13 #[.val (.ref b), .val (.int (Int32.ofNat (o + i))), .val (.ref d), .val (.int (Int32.ofNat (q + i))), .val (.int (Int32.ofNat len)), .val (.int (Int32.ofNat i)), z] [.int (cv A (o + i))])) := c3.trans (by
        refine Xl.aget hexec hAl rfl (hA.get (i := o + i) (by omega)) rfl rfl (hb hbytes d12) ?_
        exact Steps.refl _)
      have c5 : Steps p.tables e below (s₁.setTop (entryFrame m #[.ref b, .int (Int32.ofNat o), .ref d, .int (Int32.ofNat q), .int (Int32.ofNat len)] 7)) (Tl.setTop (mkF m 15 #[.val (.ref b), .val (.int (Int32.ofNat (o + i))), .val (.ref d), .val (.int (Int32.ofNat (q + i))), .val (.int (Int32.ofNat len)), .val (.int (Int32.ofNat i)), .val (.int (cv A (o + i)))] [])) := c4.trans (by
        refine XS.istoreS Xl.here hexec rfl (hb hbytes d13) rfl rfl hz ?_
        exact Steps.refl _)
      have c6 : Steps p.tables e below (s₁.setTop (entryFrame m #[.ref b, .int (Int32.ofNat o), .ref d, .int (Int32.ofNat q), .int (Int32.ofNat len)] 7)) (Tl.setTop (mkF m 31 #[.val (.ref b), .val (.int (Int32.ofNat (o + i))), .val (.ref d), .val (.int (Int32.ofNat (q + i))), .val (.int (Int32.ofNat len)), .val (.int (Int32.ofNat i)), .val (.int (cv A (o + i)))] [.int (lo8 (cv A (o + i))), .int (Int32.ofNat (q + i)), .ref d])) := c5.trans (by
        refine XS.iload Xl.here hexec rfl (hb hbytes d15) rfl ?_
        refine sipushV Xl.here hexec rfl 255 (hb hbytes d17) (by decide) ?_
        refine XS.icmpYes Xl.here hexec rfl (pc0 := 20) rfl (hb hbytes d20) rfl (ii_le_t (hp i (by omega))) (by decide) rfl ?_
        refine XS.aloadN Xl.here hexec rfl (hb hbytes d26) rfl rfl ?_
        refine XS.iloadN Xl.here hexec rfl (hb hbytes d27) rfl ?_
        refine XS.iload Xl.here hexec rfl (hb hbytes d28) rfl ?_
        refine i2b Xl.here hexec rfl (hb hbytes d30) rfl ?_
        exact Steps.refl _)
      obtain ⟨T7, X7, p7, st7⟩ := Xl.aput hexec hBk rfl hlt rfl (fits_lo8 (cv A (o + i))) (g := (mkF m 31 #[.val (.ref b), .val (.int (Int32.ofNat (o + i))), .val (.ref d), .val (.int (Int32.ofNat (q + i))), .val (.int (Int32.ofNat len)), .val (.int (Int32.ofNat i)), .val (.int (cv A (o + i)))] [.int (lo8 (cv A (o + i))), .int (Int32.ofNat (q + i)), .ref d])) rfl (rest := []) rfl (hb hbytes d31)
      have c8 : Steps p.tables e below (s₁.setTop (entryFrame m #[.ref b, .int (Int32.ofNat o), .ref d, .int (Int32.ofNat q), .int (Int32.ofNat len)] 7)) (T7.setTop (mkF m 32 #[.val (.ref b), .val (.int (Int32.ofNat (o + i))), .val (.ref d), .val (.int (Int32.ofNat (q + i))), .val (.int (Int32.ofNat len)), .val (.int (Int32.ofNat i)), .val (.int (cv A (o + i)))] [])) := c6.trans (st7 _ (Steps.refl _))
      have c9 : Steps p.tables e below (s₁.setTop (entryFrame m #[.ref b, .int (Int32.ofNat o), .ref d, .int (Int32.ofNat q), .int (Int32.ofNat len)] 7)) (T7.setTop (mkF m 3 #[.val (.ref b), .val (.int (Int32.ofNat (o + i) + 1)), .val (.ref d), .val (.int (Int32.ofNat (q + i) + 1)), .val (.int (Int32.ofNat len)), .val (.int (Int32.ofNat i + 1)), .val (.int (cv A (o + i)))] [])) := c8.trans (by
        refine iincV X7.here hexec rfl 1 (hb hbytes d32) (by decide) rfl rfl ?_
        refine iincV X7.here hexec rfl 1 (hb hbytes d35) (by decide) rfl rfl ?_
        refine iincV X7.here hexec rfl 1 (hb hbytes d38) (by decide) rfl rfl ?_
        refine XS.goto X7.here hexec rfl (pc0 := 41) rfl (hb hbytes d41) (by decide) rfl ?_
        exact Steps.refl _)
      have c10 : Steps p.tables e below (s₁.setTop (entryFrame m #[.ref b, .int (Int32.ofNat o), .ref d, .int (Int32.ofNat q), .int (Int32.ofNat len)] 7)) (T7.setTop (mkF m 3 #[.val (.ref b), .val (.int (Int32.ofNat (o + (i + 1)))), .val (.ref d), .val (.int (Int32.ofNat (q + (i + 1)))), .val (.int (Int32.ofNat len)), .val (.int (Int32.ofNat (i + 1))), .val (.int (cv A (o + i)))] [])) := by
        have := c9
        rw [succ32, succ32, succ32] at this
        exact this
      exact ih (i + 1) (by omega) _ (Or.inr ⟨_, rfl, rfl⟩) T7 _ (by rw [copyLocs_step, ← List.append_assoc]; exact X7) (pl.trans p7) (fl.step (by omega) hlt (by simp)) c10
  obtain ⟨T9, B9, z9, X9, p9, f9, g9⟩ := loop len 0 (by omega) .unset (Or.inl rfl) s₁ B (by simpa [copyLocs] using X0) ⟨hB0.1, fun _ _ => rfl, rfl⟩ (Laid.zero _ _ _) c2
  have c11 : Steps p.tables e below (s₁.setTop (entryFrame m #[.ref b, .int (Int32.ofNat o), .ref d, .int (Int32.ofNat q), .int (Int32.ofNat len)] 7)) (T9.setTop (mkF m 46 #[.val (.ref b), .val (.int (Int32.ofNat (o + len))), .val (.ref d), .val (.int (Int32.ofNat (q + len))), .val (.int (Int32.ofNat len)), .val (.int (Int32.ofNat len)), z9] [.int (Int32.ofNat len)])) := g9.trans (by
    refine XS.iload X9.here hexec rfl (hb hbytes d3) rfl ?_
    refine XS.iload X9.here hexec rfl (hb hbytes d5) rfl ?_
    refine XS.icmpYes X9.here hexec rfl (pc0 := 7) rfl (hb hbytes d7) rfl (ii_ge_t (nlt32 (by omega) (Nat.le_refl _))) (by decide) rfl ?_
    refine XS.iload X9.here hexec rfl (hb hbytes d44) rfl ?_
    exact Steps.refl _)
  exact ⟨T9, some (.int (Int32.ofNat len)), _, _, _, X9, by simp, rfl, rfl, (fun h => by cases h), ⟨rfl, B9, p9.from hh0, f9⟩, fun fs hl => c11.trans (X9.ireturnOut hexec hret rfl (Or.inl rfl) (hb hbytes d46) hl)⟩
end Cmp5
namespace Cmp3
def yN : MethodName := ⟨"java/lang/StringUTF16", "compress", "([CII)[B"⟩
abbrev yB : ByteArray := jdk_52_method_16_code
theorem d0 : decode yB 0 = .ok (.iload_n 2, 1) := by decide +kernel
theorem d1 : decode yB 1 = .ok (.newarray .byte, 2) := by decide +kernel
theorem d3 : decode yB 3 = .ok (.astore_n 3, 1) := by decide +kernel
theorem d4 : decode yB 4 = .ok (.aload_n 0, 1) := by decide +kernel
theorem d5 : decode yB 5 = .ok (.iload_n 1, 1) := by decide +kernel
theorem d6 : decode yB 6 = .ok (.aload_n 3, 1) := by decide +kernel
theorem d7 : decode yB 7 = .ok (.iconst 0, 1) := by decide +kernel
theorem d8 : decode yB 8 = .ok (.iload_n 2, 1) := by decide +kernel
theorem d9 : decode yB 9 = .ok (.invokestatic 115, 3) := by decide +kernel
theorem d12 : decode yB 12 = .ok (.istore 4, 2) := by decide +kernel
theorem d14 : decode yB 14 = .ok (.iload 4, 2) := by decide +kernel
theorem d16 : decode yB 16 = .ok (.iload_n 2, 1) := by decide +kernel
theorem d17 : decode yB 17 = .ok (.if_icmp (.eq) 40, 3) := by decide +kernel
theorem d57 : decode yB 57 = .ok (.aload_n 3, 1) := by decide +kernel
theorem d58 : decode yB 58 = .ok (.areturn, 1) := by decide +kernel
def site : List Cond := [.arrayClass .byte, Cmp5.tab] ++ staticW U16 115 Cmp5.yN
def tab : Cond := tabOf yN yB 6 (some (.array .byte)) site
def P (b : Addr) (A : Cell) (o len : Nat) (args : Array Value) (s : State) : Prop := args = #[.ref b, .int (Int32.ofNat o), .int (Int32.ofNat len)] ∧ Ch b A s ∧ o + len ≤ A.slots.size ∧ len ≤ 536870912 ∧ ∀ i, i < len → ¬ 255 < cv A (o + i)
def E (b : Addr) (A : Cell) (o len : Nat) (r : Option Value) (s u : State) : Prop := NewArr .byte "[B" len (fun j => .int (lo8 (cv A (o + j)))) r s u ∧ u.heap.size = s.heap.size + 1
/-- no char of the range above 255: a new byte[] of their low bytes -/
theorem law (l : Launch) (b : Addr) (A : Cell) (o len : Nat) : Law l yN 3 3 1 18 yB 6 (some (.array .byte)) site (P b A o len) (E b A o len) [] 1 len := by
  refine Law.of_walk (plainFor_of_name (by decide +kernel)) (by decide +kernel) (by decide +kernel) (by decide) (fun _ _ h => by rw [h.1]; rfl) (fun _ U U' hal hh h => ⟨h.1, h.2.1.mv hal hh, h.2.2⟩) (fun r U U' V V' h1 hal h2 h => ⟨NewArr.mv r U U' V V' h1 hal h2 h.1, by rw [h1, h2]; exact h.2⟩) ?_
  intro p e s m args below meth c s₁ X0 hexec hbytes hml hret hlk hnm hown hh0 W hP
  obtain ⟨rfl, hA, l1, l2, hp⟩ := hP
  have a31 := hA.1.2.2.2
  have c1 : Steps p.tables e below (s₁.setTop (entryFrame m #[.ref b, .int (Int32.ofNat o), .int (Int32.ofNat len)] 6)) (s₁.setTop (mkF m 0 #[.val (.ref b), .val (.int (Int32.ofNat o)), .val (.int (Int32.ofNat len)), .unset, .unset, .unset] [])) := entry rfl
  have c2 : Steps p.tables e below (s₁.setTop (entryFrame m #[.ref b, .int (Int32.ofNat o), .int (Int32.ofNat len)] 6)) (s₁.setTop (mkF m 1 #[.val (.ref b), .val (.int (Int32.ofNat o)), .val (.int (Int32.ofNat len)), .unset, .unset, .unset] [.int (Int32.ofNat len)])) := c1.trans (by
    refine XS.iloadN X0.here hexec rfl (hb hbytes d0) rfl ?_
    exact Steps.refl _)
  obtain ⟨T3, B3, X3, ba3, bs3, bv3, bh3, bf3, st3⟩ := X0.anew hexec (atype := .byte) (wk W (.arrayClass .byte)) rfl (by show len * 1 ≤ _; omega) (by omega) (g := (mkF m 1 #[.val (.ref b), .val (.int (Int32.ofNat o)), .val (.int (Int32.ofNat len)), .unset, .unset, .unset] [.int (Int32.ofNat len)])) rfl (hb hbytes d1) (rest := []) rfl (Nat.le_refl _) (by show 0 + len ≤ len; omega)
  rw [hh0] at ba3 st3
  have kp3 : XT.Kept s T3 := (XT.Kept.of_eq hh0).push bh3
  have hA3 := hA.keep X3.warmed.alike (kp3 _ _ hA.1.1)
  have hne : b ≠ s.heap.size := hA.1.ne
  have c4 : Steps p.tables e below (s₁.setTop (entryFrame m #[.ref b, .int (Int32.ofNat o), .int (Int32.ofNat len)] 6)) (T3.setTop (mkF m 3 #[.val (.ref b), .val (.int (Int32.ofNat o)), .val (.int (Int32.ofNat len)), .unset, .unset, .unset] [.ref s.heap.size])) := c2.trans (st3 _ (Steps.refl _))
  have c5 : Steps p.tables e below (s₁.setTop (entryFrame m #[.ref b, .int (Int32.ofNat o), .int (Int32.ofNat len)] 6)) (T3.setTop (mkF m 9 #[.val (.ref b), .val (.int (Int32.ofNat o)), .val (.int (Int32.ofNat len)), .val (.ref s.heap.size), .unset, .unset] [.int (Int32.ofNat len), .int 0, .ref s.heap.size, .int (Int32.ofNat o), .ref b])) := c4.trans (by
    refine XS.astoreN X3.here hexec rfl (hb hbytes d3) rfl rfl rfl ?_
    refine XS.aloadN X3.here hexec rfl (hb hbytes d4) rfl rfl ?_
    refine XS.iloadN X3.here hexec rfl (hb hbytes d5) rfl ?_
    refine XS.aloadN X3.here hexec rfl (hb hbytes d6) rfl rfl ?_
    refine iconstV X3.here hexec rfl 0 (hb hbytes d7) (by decide) ?_
    refine XS.iloadN X3.here hexec rfl (hb hbytes d8) rfl ?_
    exact Steps.refl _)
  obtain ⟨v6, T6, X6, E6, g6⟩ := X3.callS hexec (Cmp5.law l b A s.heap.size B3 o 0 len) hown (wks W (staticW U16 115 Cmp5.yN)) (wk W Cmp5.tab) (W := 0) (Nat.le_of_ble_eq_true rfl) (Nat.le_of_ble_eq_true rfl) (Nat.le_refl _) (by show 0 + len + 0 ≤ len; omega) (g := (mkF m 9 #[.val (.ref b), .val (.int (Int32.ofNat o)), .val (.int (Int32.ofNat len)), .val (.ref s.heap.size), .unset, .unset] [.int (Int32.ofNat len), .int (Int32.ofNat 0), .ref s.heap.size, .int (Int32.ofNat o), .ref b])) rfl (by rw [hml]; rfl) c5 (argsL := [.ref b, .int (Int32.ofNat o), .ref s.heap.size, .int (Int32.ofNat 0), .int (Int32.ofNat len)]) (rest := []) rfl rfl (by show 2 * 0 + 0 ≤ _; decide) (hb hbytes d9) (⟨rfl, hA3, ba3, hne, l1, by rw [bs3]; simp, hp⟩)
  obtain ⟨rfl, B6, p6, f6⟩ := E6
  have c7 : Steps p.tables e below (s₁.setTop (entryFrame m #[.ref b, .int (Int32.ofNat o), .int (Int32.ofNat len)] 6)) (T6.setTop (mkF m 12 #[.val (.ref b), .val (.int (Int32.ofNat o)), .val (.int (Int32.ofNat len)), .val (.ref s.heap.size), .unset, .unset] [.int (Int32.ofNat len)])) := g6
  have c8 : Steps p.tables e below (s₁.setTop (entryFrame m #[.ref b, .int (Int32.ofNat o), .int (Int32.ofNat len)] 6)) (T6.setTop (mkF m 58 #[.val (.ref b), .val (.int (Int32.ofNat o)), .val (.int (Int32.ofNat len)), .val (.ref s.heap.size), .val (.int (Int32.ofNat len)), .unset] [.ref s.heap.size])) := c7.trans (by
    refine XS.istore X6.here hexec rfl (hb hbytes d12) rfl rfl ?_
    refine XS.iload X6.here hexec rfl (hb hbytes d14) rfl ?_
    refine XS.iloadN X6.here hexec rfl (hb hbytes d16) rfl ?_
    refine XS.icmpYes X6.here hexec rfl (pc0 := 17) rfl (hb hbytes d17) rfl (ii_eq_t rfl) (by decide) rfl ?_
    refine XS.aloadN X6.here hexec rfl (hb hbytes d57) rfl rfl ?_
    exact Steps.refl _)
  have X8 := X6.wide (L' := []) (cells' := 1) (slots' := len) (fun x hx hlt => by
    simp only [List.nil_append, copyLocs, List.mem_map, List.mem_range] at hx
    obtain ⟨i, -, rfl⟩ := hx
    exact absurd hlt (Nat.lt_irrefl _)) (Nat.le_refl _) (by omega)
  exact ⟨T6, some (.ref s.heap.size), _, _, _, X8, rfl, rfl, rfl, (fun h => by cases h), ⟨⟨rfl, B6, ba3.like (X3.warmed.alike.symm.trans X6.warmed.alike) p6.1 f6.1 f6.2.1 f6.2.2.1, f6.2.1.trans bv3, by rw [X6.warmed.alike.findClass, f6.1]; exact bf3, by rw [f6.2.2.1, bs3]; simp, fun j hj => by rw [f6.2.2.2 j, if_pos (by omega)]; rfl, kp3.put p6 (Nat.le_refl _)⟩, by rw [p6.2.2, bh3, hh0]; simp⟩, fun fs hl => c8.trans (X8.areturnOut hexec rfl hret rfl (hb hbytes d58) hl)⟩
end Cmp3
namespace CodL
def yN : MethodName := ⟨"java/lang/StringUTF16", "coderFromArrayLen", "([BI)B"⟩
abbrev yB : ByteArray := jdk_52_method_15_code
theorem d0 : decode yB 0 = .ok (.iload_n 1, 1) := by decide +kernel
theorem d1 : decode yB 1 = .ok (.aload_n 0, 1) := by decide +kernel
theorem d2 : decode yB 2 = .ok (.arraylength, 1) := by decide +kernel
theorem d3 : decode yB 3 = .ok (.isub, 1) := by decide +kernel
theorem d4 : decode yB 4 = .ok (.bipush 31, 2) := by decide +kernel
theorem d6 : decode yB 6 = .ok (.iushr, 1) := by decide +kernel
theorem d7 : decode yB 7 = .ok (.i2b, 1) := by decide +kernel
theorem d8 : decode yB 8 = .ok (.ireturn, 1) := by decide +kernel
def site : List Cond := []
def tab : Cond := tabOf yN yB 2 (some .byte) site
def P (d : Addr) (B : Cell) (args : Array Value) (s : State) : Prop := args = #[.ref d, .int (Int32.ofNat B.slots.size)] ∧ Arr .byte d B s
def E (r : Option Value) (s u : State) : Prop := XT.PureE (some (.int 0)) r s u
/-- an array as long as the number of chars: LATIN1 -/
theorem law (l : Launch) (d : Addr) (B : Cell) : Law l yN 2 2 0 0 yB 2 (some .byte) site (P d B) E [] 0 0 := by
  refine Law.of_walk (plainFor_of_name (by decide +kernel)) (by decide +kernel) (by decide +kernel) (by decide) (fun _ _ h => by rw [h.1]; rfl) (fun _ U U' hal hh h => ⟨h.1, h.2.mv hal hh⟩) (fun r U U' V V' h1 hal h2 h => XT.PureE.mv r U U' V V' h1 hal h2 h) ?_
  intro p e s m args below meth c s₁ X0 hexec hbytes hml hret hlk hnm hown hh0 W hP
  obtain ⟨rfl, hB⟩ := hP
  have hB0 := hB.mv X0.warmed.alike hh0
  have c1 : Steps p.tables e below (s₁.setTop (entryFrame m #[.ref d, .int (Int32.ofNat B.slots.size)] 2)) (s₁.setTop (mkF m 0 #[.val (.ref d), .val (.int (Int32.ofNat B.slots.size))] [])) := entry rfl
  have c2 : Steps p.tables e below (s₁.setTop (entryFrame m #[.ref d, .int (Int32.ofNat B.slots.size)] 2)) (s₁.setTop (mkF m 2 #[.val (.ref d), .val (.int (Int32.ofNat B.slots.size))] [.ref d, .int (Int32.ofNat B.slots.size)])) := c1.trans (by
    refine XS.iloadN X0.here hexec rfl (hb hbytes d0) rfl ?_
    refine XS.aloadN X0.here hexec rfl (hb hbytes d1) rfl rfl ?_
    exact Steps.refl _)
  have c3 : Steps p.tables e below (s₁.setTop (entryFrame m #[.ref d, .int (Int32.ofNat B.slots.size)] 2)) (s₁.setTop (mkF m 8 #[.val (.ref d), .val (.int (Int32.ofNat B.slots.size))] [.int (lo8 (ushr (Int32.ofNat B.slots.size - Int32.ofNat B.slots.size) 31))])) := c2.trans (by
    refine X0.alen hexec hB0 rfl rfl (hb hbytes d2) ?_
    refine XS.isub X0.here hexec rfl (hb hbytes d3) rfl ?_
    refine bipushV X0.here hexec rfl 31 (hb hbytes d4) (by decide) ?_
    refine iushr X0.here hexec rfl (hb hbytes d6) rfl ?_
    refine i2b X0.here hexec rfl (hb hbytes d7) rfl ?_
    exact Steps.refl _)
  have e0 : lo8 (ushr (Int32.ofNat B.slots.size - Int32.ofNat B.slots.size) 31) = 0 := by rw [Int32.sub_self]; decide
  rw [e0] at c3
  exact ⟨s₁, some (.int 0), _, _, _, X0, rfl, rfl, rfl, (fun h => by cases h), ⟨rfl, hh0⟩, fun fs hl => c3.trans (X0.ireturnOut hexec hret rfl (Or.inr (Or.inr (Or.inl rfl))) (hb hbytes d8) hl)⟩
end CodL
/-- the String at a is Latin-1 over a new byte[] (the heap's one new cell): the low bytes of the len chars of A from o on; every cell but a is kept -/
def Got (a : Addr) (D : Cell) (fV fC : Field) (A : Cell) (o len : Nat) (r : Option Value) (s u : State) : Prop := r = none ∧ ∃ D' V : Cell, Blank "java/lang/String" a D' u ∧ Same D D' [fV.slot, fC.slot] ∧ D'.slots[fV.slot]? = some (.ref s.heap.size) ∧ D'.slots[fC.slot]? = some (.int 0) ∧ Arr .byte s.heap.size V u ∧ V.vm = .none ∧ u.vm.findClass "[B" = some V.cls ∧ V.slots.size = len ∧ (∀ j, j < len → V.slots[j]? = some (.int (lo8 (cv A (o + j))))) ∧ (∀ (y : Addr) (c : Cell), y ≠ a → s.heap[y]? = some c → u.heap[y]? = some c) ∧ u.heap.size = s.heap.size + 1
theorem Got.mv {a : Addr} {D A : Cell} {fV fC : Field} {o len : Nat} : ∀ r (U U' V V' : State), U'.heap = U.heap → V.vm.Alike V'.vm → V'.heap = V.heap → Got a D fV fC A o len r U V → Got a D fV fC A o len r U' V' :=
  fun r U U' V V' h1 hal h2 ⟨e0, D', X, a1, a2, a3, a4, a5, a6, a7, a8, a9, a10, a11⟩ => ⟨e0, D', X, a1.mv hal h2, a2, by rw [h1]; exact a3, a4, by rw [h1]; exact a5.mv hal h2, a6, by rw [hal.findClass]; exact a7, a8, a9, by rw [h1, h2]; exact a10, by rw [h1, h2]; exact a11⟩
namespace New4
def yN : MethodName := ⟨"java/lang/String", "<init>", "([CIILjava/lang/Void;)V"⟩
abbrev yB : ByteArray := jdk_42_method_149_code
theorem d0 : decode yB 0 = .ok (.aload_n 0, 1) := by decide +kernel
theorem d1 : decode yB 1 = .ok (.invokespecial 1, 3) := by decide +kernel
theorem d4 : decode yB 4 = .ok (.iload_n 3, 1) := by decide +kernel
theorem d5 : decode yB 5 = .ok (.ifCond (.ne) 22, 3) := by decide +kernel
theorem d27 : decode yB 27 = .ok (.getstatic 38, 3) := by decide +kernel
theorem d30 : decode yB 30 = .ok (.ifCond (.eq) 28, 3) := by decide +kernel
theorem d33 : decode yB 33 = .ok (.aload_n 1, 1) := by decide +kernel
theorem d34 : decode yB 34 = .ok (.iload_n 2, 1) := by decide +kernel
theorem d35 : decode yB 35 = .ok (.iload_n 3, 1) := by decide +kernel
theorem d36 : decode yB 36 = .ok (.invokestatic 177, 3) := by decide +kernel
theorem d39 : decode yB 39 = .ok (.astore 5, 2) := by decide +kernel
theorem d41 : decode yB 41 = .ok (.aload_n 0, 1) := by decide +kernel
theorem d42 : decode yB 42 = .ok (.aload 5, 2) := by decide +kernel
theorem d44 : decode yB 44 = .ok (.iload_n 3, 1) := by decide +kernel
theorem d45 : decode yB 45 = .ok (.invokestatic 47, 3) := by decide +kernel
theorem d48 : decode yB 48 = .ok (.putfield 15, 3) := by decide +kernel
theorem d51 : decode yB 51 = .ok (.aload_n 0, 1) := by decide +kernel
theorem d52 : decode yB 52 = .ok (.aload 5, 2) := by decide +kernel
theorem d54 : decode yB 54 = .ok (.putfield 9, 3) := by decide +kernel
theorem d57 : decode yB 57 = .ok (.return_, 1) := by decide +kernel
def site : List Cond := [.fieldLink "java/lang/String" 38 "java/lang/String" "COMPACT_STRINGS" "Z", Cmp3.tab, CodL.tab, .laysFinal "java/lang/String" "java/lang/String" "value" "[B", .fieldLink "java/lang/String" 9 "java/lang/String" "value" "[B", .laysFinal "java/lang/String" "java/lang/String" "coder" "B", .fieldLink "java/lang/String" 15 "java/lang/String" "coder" "B"] ++ objW "java/lang/String" 1 ++ staticW "java/lang/String" 177 Cmp3.yN ++ staticW "java/lang/String" 47 CodL.yN
def tab : Cond := tabOf yN yB 6 none site
def P (a : Addr) (D : Cell) (fV fC : Field) (b : Addr) (A : Cell) (z : Int32) (o len : Nat) (args : Array Value) (s : State) : Prop := args = #[.ref a, .ref b, .int (Int32.ofNat o), .int (Int32.ofNat len), .null] ∧ Blank "java/lang/String" a D s ∧ Found "java/lang/String" "value" "[B" fV s ∧ Found "java/lang/String" "coder" "B" fC s ∧ Ch b A s ∧ StaticIs s "java/lang/String" "COMPACT_STRINGS" "Z" (.int z) ∧ ¬ z = 0 ∧ 0 < len ∧ o + len ≤ A.slots.size ∧ len ≤ 536870912 ∧ ∀ i, i < len → ¬ 255 < cv A (o + i)
def E (a : Addr) (D : Cell) (fV fC : Field) (A : Cell) (o len : Nat) (r : Option Value) (s u : State) : Prop := Got a D fV fC A o len r s u
/-- len > 0, no char of the range above 255: a Latin-1 String of their low bytes -/
theorem law (l : Launch) (a : Addr) (D : Cell) (fV fC : Field) (b : Addr) (A : Cell) (z : Int32) (o len : Nat) : Law l yN 5 4 2 35 yB 6 none site (P a D fV fC b A z o len) (E a D fV fC A o len) [⟨a, fC.slot⟩, ⟨a, fV.slot⟩] 1 len := by
  refine Law.of_walk (plainFor_of_name (by decide +kernel)) (by decide +kernel) (by decide +kernel) (by decide) (fun _ _ h => by rw [h.1]; rfl) (fun _ U U' hal hh h => ⟨h.1, h.2.1.mv hal hh, h.2.2.1.al hal, h.2.2.2.1.al hal, h.2.2.2.2.1.mv hal hh, h.2.2.2.2.2.1.there hal hh, h.2.2.2.2.2.2⟩) (fun r U U' V V' h1 hal h2 h => Got.mv r U U' V V' h1 hal h2 h) ?_
  intro p e s m args below meth c s₁ X0 hexec hbytes hml hret hlk hnm hown hh0 W hP
  obtain ⟨rfl, hB, f1, f2, hA, s1, hz, l0, l1, l2, hp⟩ := hP
  have a31 := hA.1.2.2.2
  have c1 : Steps p.tables e below (s₁.setTop (entryFrame m #[.ref a, .ref b, .int (Int32.ofNat o), .int (Int32.ofNat len), .null] 6)) (s₁.setTop (mkF m 0 #[.val (.ref a), .val (.ref b), .val (.int (Int32.ofNat o)), .val (.int (Int32.ofNat len)), .val .null, .unset] [])) := entry rfl
  have c2 : Steps p.tables e below (s₁.setTop (entryFrame m #[.ref a, .ref b, .int (Int32.ofNat o), .int (Int32.ofNat len), .null] 6)) (s₁.setTop (mkF m 1 #[.val (.ref a), .val (.ref b), .val (.int (Int32.ofNat o)), .val (.int (Int32.ofNat len)), .val .null, .unset] [.ref a])) := c1.trans (by
    refine XS.aloadN X0.here hexec rfl (hb hbytes d0) rfl rfl ?_
    exact Steps.refl _)
  obtain ⟨T3, X3, q3, st3⟩ := X0.oinit hexec hown (wks W (objW "java/lang/String" 1)) (g := (mkF m 1 #[.val (.ref a), .val (.ref b), .val (.int (Int32.ofNat o)), .val (.int (Int32.ofNat len)), .val .null, .unset] [.ref a])) rfl (by rw [hml]; rfl) (rest := []) rfl (hb hbytes d1) (W := 0) (by show 2 * 0 + 0 ≤ _; decide) (Nat.le_of_ble_eq_true rfl) (Nat.le_of_ble_eq_true rfl)
  have hh3 := q3.trans hh0
  have c4 : Steps p.tables e below (s₁.setTop (entryFrame m #[.ref a, .ref b, .int (Int32.ofNat o), .int (Int32.ofNat len), .null] 6)) (T3.setTop (mkF m 27 #[.val (.ref a), .val (.ref b), .val (.int (Int32.ofNat o)), .val (.int (Int32.ofNat len)), .val .null, .unset] [])) := (c2.trans (st3 _ (Steps.refl _))).trans (by
    refine XS.iloadN X3.here hexec rfl (hb hbytes d4) rfl ?_
    refine XS.ifYes X3.here hexec rfl (pc0 := 5) rfl (hb hbytes d5) rfl (i0_ne_t (nz32 (by omega) l0)) (by decide) rfl ?_
    exact Steps.refl _)
  obtain ⟨T5, X5, q5, st5⟩ := X3.sget hexec hown (wk W (.fieldLink "java/lang/String" 38 "java/lang/String" "COMPACT_STRINGS" "Z")) s1 (fun _ _ h => by rw [hh3]; exact h) (g := (mkF m 27 #[.val (.ref a), .val (.ref b), .val (.int (Int32.ofNat o)), .val (.int (Int32.ofNat len)), .val .null, .unset] [])) rfl (hb hbytes d27)
  have hh5 := q5.trans hh3
  have c6 : Steps p.tables e below (s₁.setTop (entryFrame m #[.ref a, .ref b, .int (Int32.ofNat o), .int (Int32.ofNat len), .null] 6)) (T5.setTop (mkF m 30 #[.val (.ref a), .val (.ref b), .val (.int (Int32.ofNat o)), .val (.int (Int32.ofNat len)), .val .null, .unset] [.int z])) := c4.trans (st5 _ (Steps.refl _))
  have c7 : Steps p.tables e below (s₁.setTop (entryFrame m #[.ref a, .ref b, .int (Int32.ofNat o), .int (Int32.ofNat len), .null] 6)) (T5.setTop (mkF m 36 #[.val (.ref a), .val (.ref b), .val (.int (Int32.ofNat o)), .val (.int (Int32.ofNat len)), .val .null, .unset] [.int (Int32.ofNat len), .int (Int32.ofNat o), .ref b])) := c6.trans (by
    refine XS.ifNo X5.here hexec rfl (hb hbytes d30) rfl (i0_eq_f hz) ?_
    refine XS.aloadN X5.here hexec rfl (hb hbytes d33) rfl rfl ?_
    refine XS.iloadN X5.here hexec rfl (hb hbytes d34) rfl ?_
    refine XS.iloadN X5.here hexec rfl (hb hbytes d35) rfl ?_
    exact Steps.refl _)
  obtain ⟨v8, T8, X8, E8, g8⟩ := X5.callS hexec (Cmp3.law l b A o len) hown (wks W (staticW "java/lang/String" 177 Cmp3.yN)) (wk W Cmp3.tab) (W := 0) (Nat.le_of_ble_eq_true rfl) (Nat.le_of_ble_eq_true rfl) (Nat.le_refl _) (by show 0 + len ≤ len; omega) (g := (mkF m 36 #[.val (.ref a), .val (.ref b), .val (.int (Int32.ofNat o)), .val (.int (Int32.ofNat len)), .val .null, .unset] [.int (Int32.ofNat len), .int (Int32.ofNat o), .ref b])) rfl (by rw [hml]; rfl) c7 (argsL := [.ref b, .int (Int32.ofNat o), .int (Int32.ofNat len)]) (rest := []) rfl rfl (by show 2 * 0 + 0 ≤ _; decide) (hb hbytes d36) (⟨rfl, hA.mv X5.warmed.alike hh5, l1, l2, hp⟩)
  obtain ⟨e8, z8⟩ := E8
  obtain ⟨rfl, N, n1, n2, n3, n4, n5, n6⟩ := NewArr.mv _ T5 s _ _ hh5.symm (Vm.Alike.refl _) rfl e8
  rw [hh5] at z8
  have hB1 := hB.keep X8.warmed.alike (n6 _ _ hB.1)
  have hne : s.heap.size ≠ a := (Nat.ne_of_lt (Array.getElem?_eq_some_iff.mp hB.1).1).symm
  have c9 : Steps p.tables e below (s₁.setTop (entryFrame m #[.ref a, .ref b, .int (Int32.ofNat o), .int (Int32.ofNat len), .null] 6)) (T8.setTop (mkF m 39 #[.val (.ref a), .val (.ref b), .val (.int (Int32.ofNat o)), .val (.int (Int32.ofNat len)), .val .null, .unset] [.ref s.heap.size])) := g8
  have c10 : Steps p.tables e below (s₁.setTop (entryFrame m #[.ref a, .ref b, .int (Int32.ofNat o), .int (Int32.ofNat len), .null] 6)) (T8.setTop (mkF m 45 #[.val (.ref a), .val (.ref b), .val (.int (Int32.ofNat o)), .val (.int (Int32.ofNat len)), .val .null, .val (.ref s.heap.size)] [.int (Int32.ofNat N.slots.size), .ref s.heap.size, .ref a])) := by
    have hc : Steps p.tables e below (s₁.setTop (entryFrame m #[.ref a, .ref b, .int (Int32.ofNat o), .int (Int32.ofNat len), .null] 6)) (T8.setTop (mkF m 45 #[.val (.ref a), .val (.ref b), .val (.int (Int32.ofNat o)), .val (.int (Int32.ofNat len)), .val .null, .val (.ref s.heap.size)] [.int (Int32.ofNat len), .ref s.heap.size, .ref a])) := c9.trans (by
      refine XS.astore X8.here hexec rfl (hb hbytes d39) rfl rfl rfl ?_
      refine XS.aloadN X8.here hexec rfl (hb hbytes d41) rfl rfl ?_
      refine XS.aload X8.here hexec rfl (hb hbytes d42) rfl rfl ?_
      refine XS.iloadN X8.here hexec rfl (hb hbytes d44) rfl ?_
      exact Steps.refl _)
    rw [n4]; exact hc
  obtain ⟨v11, T11, X11, E11, g11⟩ := X8.callS hexec (CodL.law l s.heap.size N) hown (wks W (staticW "java/lang/String" 47 CodL.yN)) (wk W CodL.tab) (W := 1) (Nat.le_of_ble_eq_true rfl) (Nat.le_of_ble_eq_true rfl) (Nat.le_refl _) (by show 0 + len + 0 ≤ len; omega) (g := (mkF m 45 #[.val (.ref a), .val (.ref b), .val (.int (Int32.ofNat o)), .val (.int (Int32.ofNat len)), .val .null, .val (.ref s.heap.size)] [.int (Int32.ofNat N.slots.size), .ref s.heap.size, .ref a])) rfl (by rw [hml]; rfl) c10 (argsL := [.ref s.heap.size, .int (Int32.ofNat N.slots.size)]) (rest := [.ref a]) rfl rfl (by show 2 * 0 + (1 + 0) ≤ _; decide) (hb hbytes d45) (⟨rfl, n1⟩)
  obtain ⟨rfl, q11⟩ := E11
  have hB11 := hB1.mv (X8.warmed.alike.symm.trans X11.warmed.alike) q11
  have c12 : Steps p.tables e below (s₁.setTop (entryFrame m #[.ref a, .ref b, .int (Int32.ofNat o), .int (Int32.ofNat len), .null] 6)) (T11.setTop (mkF m 48 #[.val (.ref a), .val (.ref b), .val (.int (Int32.ofNat o)), .val (.int (Int32.ofNat len)), .val .null, .val (.ref s.heap.size)] [.int 0, .ref a])) := g11
  obtain ⟨T13, X13, p13, bl13, sl13, st13⟩ := X11.finit hexec hown (wk W (.fieldLink "java/lang/String" 15 "java/lang/String" "coder" "B")) (Or.inr ⟨_, (wk W (.laysFinal "java/lang/String" "java/lang/String" "coder" "B"))⟩) (Or.inl ⟨rfl, hnm⟩) f2 (Or.inl rfl) hB11 (t := .byte) (by decide +kernel) rfl (g := (mkF m 48 #[.val (.ref a), .val (.ref b), .val (.int (Int32.ofNat o)), .val (.int (Int32.ofNat len)), .val .null, .val (.ref s.heap.size)] [.int 0, .ref a])) rfl (rest := []) rfl (hb hbytes d48)
  have c14 : Steps p.tables e below (s₁.setTop (entryFrame m #[.ref a, .ref b, .int (Int32.ofNat o), .int (Int32.ofNat len), .null] 6)) (T13.setTop (mkF m 54 #[.val (.ref a), .val (.ref b), .val (.int (Int32.ofNat o)), .val (.int (Int32.ofNat len)), .val .null, .val (.ref s.heap.size)] [.ref s.heap.size, .ref a])) := (c12.trans (st13 _ (Steps.refl _))).trans (by
    refine XS.aloadN X13.here hexec rfl (hb hbytes d51) rfl rfl ?_
    refine XS.aload X13.here hexec rfl (hb hbytes d52) rfl rfl ?_
    exact Steps.refl _)
  obtain ⟨T15, X15, p15, bl15, sl15, st15⟩ := X13.finit hexec hown (wk W (.fieldLink "java/lang/String" 9 "java/lang/String" "value" "[B")) (Or.inr ⟨_, (wk W (.laysFinal "java/lang/String" "java/lang/String" "value" "[B"))⟩) (Or.inl ⟨rfl, hnm⟩) f1 (Or.inl rfl) bl13 (t := (.array .byte)) (by decide +kernel) rfl (g := (mkF m 54 #[.val (.ref a), .val (.ref b), .val (.int (Int32.ofNat o)), .val (.int (Int32.ofNat len)), .val .null, .val (.ref s.heap.size)] [.ref s.heap.size, .ref a])) rfl (rest := []) rfl (hb hbytes d54)
  have c16 : Steps p.tables e below (s₁.setTop (entryFrame m #[.ref a, .ref b, .int (Int32.ofNat o), .int (Int32.ofNat len), .null] 6)) (T15.setTop (mkF m 57 #[.val (.ref a), .val (.ref b), .val (.int (Int32.ofNat o)), .val (.int (Int32.ofNat len)), .val .null, .val (.ref s.heap.size)] [])) := c14.trans (st15 _ (Steps.refl _))
  have ap := apart (Or.inr ⟨_, (wk W (.laysFinal "java/lang/String" "java/lang/String" "value" "[B"))⟩) (Or.inr ⟨_, (wk W (.laysFinal "java/lang/String" "java/lang/String" "coder" "B"))⟩) f1 f2 (t₁ := .array .byte) (t₂ := .byte) (by decide +kernel) (by decide +kernel) (by decide)
  have al := X8.warmed.alike.symm.trans X15.warmed.alike
  have n7 : T11.heap[s.heap.size]? = some N := by rw [q11]; exact n1.1
  exact ⟨T15, none, _, _, _, X15, by simp, rfl, by omega, (fun _ => rfl), ⟨rfl, _, N, bl15, ((Same.refl D _).set _ (by simp)).set _ (by simp), sl15, (Cell.slots_setSlot_ne _ ap).trans sl13, n1.keep al (p15.other hne (p13.other hne n7)), n2, by rw [al.findClass]; exact n3, n4, n5, fun y c h1 h2 => p15.other h1 (p13.other h1 (by rw [q11]; exact n6 y c h2)), by rw [p15.2.2, p13.2.2, q11]; exact z8⟩, fun fs hl => c16.trans (X15.returnOut hexec hret (hb hbytes d57) hl)⟩
end New4
namespace New1
def yN : MethodName := ⟨"java/lang/String", "<init>", "([C)V"⟩
abbrev yB : ByteArray := jdk_42_method_3_code
theorem d0 : decode yB 0 = .ok (.aload_n 0, 1) := by decide +kernel
theorem d1 : decode yB 1 = .ok (.aload_n 1, 1) := by decide +kernel
theorem d2 : decode yB 2 = .ok (.iconst 0, 1) := by decide +kernel
theorem d3 : decode yB 3 = .ok (.aload_n 1, 1) := by decide +kernel
theorem d4 : decode yB 4 = .ok (.arraylength, 1) := by decide +kernel
theorem d5 : decode yB 5 = .ok (.aconst_null, 1) := by decide +kernel
theorem d6 : decode yB 6 = .ok (.invokespecial 27, 3) := by decide +kernel
theorem d9 : decode yB 9 = .ok (.return_, 1) := by decide +kernel
def site : List Cond := [New4.tab] ++ initW "java/lang/String" 27 New4.yN
def tab : Cond := tabOf yN yB 2 none site
def P (a : Addr) (D : Cell) (fV fC : Field) (b : Addr) (A : Cell) (z : Int32) (args : Array Value) (s : State) : Prop := args = #[.ref a, .ref b] ∧ Blank "java/lang/String" a D s ∧ Found "java/lang/String" "value" "[B" fV s ∧ Found "java/lang/String" "coder" "B" fC s ∧ Ch b A s ∧ StaticIs s "java/lang/String" "COMPACT_STRINGS" "Z" (.int z) ∧ ¬ z = 0 ∧ 0 < A.slots.size ∧ A.slots.size ≤ 536870912 ∧ ∀ i, i < A.slots.size → ¬ 255 < cv A i
def E (a : Addr) (D : Cell) (fV fC : Field) (A : Cell) (r : Option Value) (s u : State) : Prop := Got a D fV fC A 0 A.slots.size r s u
/-- new String(chars), not empty, no char above 255: a Latin-1 String of their low bytes -/
theorem law (l : Launch) (a : Addr) (D : Cell) (fV fC : Field) (b : Addr) (A : Cell) (z : Int32) : Law l yN 2 1 3 52 yB 2 none site (P a D fV fC b A z) (E a D fV fC A) [⟨a, fC.slot⟩, ⟨a, fV.slot⟩] 1 A.slots.size := by
  refine Law.of_walk (plainFor_of_name (by decide +kernel)) (by decide +kernel) (by decide +kernel) (by decide) (fun _ _ h => by rw [h.1]; rfl) (fun _ U U' hal hh h => ⟨h.1, h.2.1.mv hal hh, h.2.2.1.al hal, h.2.2.2.1.al hal, h.2.2.2.2.1.mv hal hh, h.2.2.2.2.2.1.there hal hh, h.2.2.2.2.2.2⟩) (fun r U U' V V' h1 hal h2 h => Got.mv r U U' V V' h1 hal h2 h) ?_
  intro p e s m args below meth c s₁ X0 hexec hbytes hml hret hlk hnm hown hh0 W hP
  obtain ⟨rfl, hB, f1, f2, hA, s1, hz, l0, l2, hp⟩ := hP
  have c1 : Steps p.tables e below (s₁.setTop (entryFrame m #[.ref a, .ref b] 2)) (s₁.setTop (mkF m 0 #[.val (.ref a), .val (.ref b)] [])) := entry rfl
  have c2 : Steps p.tables e below (s₁.setTop (entryFrame m #[.ref a, .ref b] 2)) (s₁.setTop (mkF m 6 #[.val (.ref a), .val (.ref b)] [.null, .int (Int32.ofNat A.slots.size), .int 0, .ref b, .ref a])) := c1.trans (by
    refine XS.aloadN X0.here hexec rfl (hb hbytes d0) rfl rfl ?_
    refine XS.aloadN X0.here hexec rfl (hb hbytes d1) rfl rfl ?_
    refine iconstV X0.here hexec rfl 0 (hb hbytes d2) (by decide) ?_
    refine XS.aloadN X0.here hexec rfl (hb hbytes d3) rfl rfl ?_
    refine X0.alen hexec (hA.1.mv X0.warmed.alike hh0) rfl rfl (hb hbytes d4) ?_
    refine XS.aconstNull X0.here hexec rfl (hb hbytes d5) ?_
    exact Steps.refl _)
  obtain ⟨v3, T3, X3, E3, g3⟩ := X0.callN hexec (New4.law l a D fV fC b A z 0 A.slots.size) rfl hown (wks W (initW "java/lang/String" 27 New4.yN)) (W New4.tab (by simp only [site, List.mem_cons, List.mem_append, true_or, or_true])) (W := 0) (Nat.le_of_ble_eq_true rfl) (Nat.le_of_ble_eq_true rfl) (Nat.le_refl _) (by show 0 + A.slots.size ≤ A.slots.size; omega) (g := (mkF m 6 #[.val (.ref a), .val (.ref b)] [.null, .int (Int32.ofNat A.slots.size), .int (Int32.ofNat 0), .ref b, .ref a])) rfl (by rw [hml]; rfl) c2 (argsL := [.ref b, .int (Int32.ofNat 0), .int (Int32.ofNat A.slots.size), .null]) (rest := []) rfl rfl (by show 2 * 0 + 0 ≤ _; decide) (hb hbytes d6) (⟨rfl, hB.mv X0.warmed.alike hh0, f1.al X0.warmed.alike, f2.al X0.warmed.alike, hA.mv X0.warmed.alike hh0, s1.there X0.warmed.alike hh0, hz, l0, by omega, l2, fun i hi => by rw [Nat.zero_add]; exact hp i hi⟩)
  have e0 := Got.mv _ s₁ s _ _ hh0.symm (Vm.Alike.refl _) rfl E3
  obtain rfl := e0.1
  have c4 : Steps p.tables e below (s₁.setTop (entryFrame m #[.ref a, .ref b] 2)) (T3.setTop (mkF m 9 #[.val (.ref a), .val (.ref b)] [])) := g3
  exact ⟨T3, none, _, _, _, X3, by simp, rfl, by omega, (fun _ => rfl), e0, fun fs hl => c4.trans (X3.returnOut hexec hret (hb hbytes d9) hl)⟩
theorem pays {l : Launch} {R : Room} {p : Program} {e : Env} {below : List Frame} {s : State} {sargs : Array Value} {len W : Nat} (a : Addr) (D : Cell) (fV fC : Field) (b : Addr) (A : Cell) (z : Int32) (htab : tab.before sargs s = true) (hfr : 4 ≤ R.frames) (hlo : W + 65 ≤ R.locals) :
    Back l R p e below s sargs yN len W (fun A₁ a₁ => A₁.cells + 1 ≤ R.cells ∧ A₁.slots + A.slots.size ≤ R.slots ∧ P a D fV fC b A z a₁ A₁.U) (fun A₁ _ v₁ B₁ => E a D fV fC A v₁ A₁.U B₁.U ∧ B₁.locs = A₁.locs ++ [⟨a, fC.slot⟩, ⟨a, fV.slot⟩] ∧ B₁.cells = A₁.cells + 1 ∧ B₁.slots = A₁.slots + A.slots.size) :=
  (law l a D fV fC b A z).pays htab hfr (by omega)
end New1
/-- the byte, read back as charAt reads it, is the char -/
theorem lo8_mask {x : Int32} (h0 : ¬ x < 0) (h1 : ¬ 255 < x) : lo8 x &&& 255 = x := by
  have t : ∀ k : Fin 256, lo8 (Int32.ofNat k.val) &&& 255 = Int32.ofNat k.val := by decide +kernel
  rw [Int32.lt_iff_toInt_lt] at h0 h1
  have e0 : (0 : Int32).toInt = 0 := rfl
  have e1 : (255 : Int32).toInt = 255 := rfl
  obtain ⟨k, hk⟩ : ∃ k : Nat, x.toInt = k := ⟨x.toInt.toNat, by omega⟩
  have hx : x = Int32.ofNat k := Int32.toInt_inj.mp (by rw [hk, Int32.toInt_ofNat_small (by omega)])
  rw [hx]
  exact t ⟨k, by omega⟩
end StrChars
namespace StrChars.Road
open Jvm Sem ClassFile Op Lib Jvm.Stand Jvm.Free Jvm.Free.XT
open Jvm.Lib.Cold (StaticIs)
abbrev ST : String := "java/lang/String"
/-- every table word that New1's law asks, flat -/
abbrev words : List Jvm.Cond := [.code New1.yN New1.yB 2 none, .initialized ST, .methodLink ST 27 New4.yN, .instanceMethod New4.yN,
  .code New4.yN New4.yB 6 none, .fieldLink ST 38 ST "COMPACT_STRINGS" "Z", .laysFinal ST ST "value" "[B", .fieldLink ST 9 ST "value" "[B", .laysFinal ST ST "coder" "B", .fieldLink ST 15 ST "coder" "B",
  .methodLink ST 1 Lib.objectInit, .instanceMethod Lib.objectInit, .code Lib.objectInit ⟨#[0xb1]⟩ 1 none, .methodLink ST 177 Cmp3.yN, .static Cmp3.yN, .methodLink ST 47 CodL.yN, .static CodL.yN,
  .code Cmp3.yN Cmp3.yB 6 (some (.array .byte)), .initialized U16, .arrayClass .byte, .methodLink U16 115 Cmp5.yN, .static Cmp5.yN, .code Cmp5.yN Cmp5.yB 7 (some .int), .code CodL.yN CodL.yB 2 (some .byte)]
theorem tab_of {a : Array Value} {s : State} (h : ∀ w ∈ words, w.before a s = true) : New1.tab.before a s = true := by
  have h5 : Cmp5.tab.before a s = true := unparts (wk h (.code Cmp5.yN Cmp5.yB 7 (some .int))) (wks h (.initialized Cmp5.yN.cls :: Cmp5.site))
  have hc : CodL.tab.before a s = true := unparts (wk h (.code CodL.yN CodL.yB 2 (some .byte))) (wks h (.initialized CodL.yN.cls :: CodL.site))
  have q5 : ∀ w ∈ Cmp5.tab :: words, w.before a s = true := fun w hw => (List.mem_cons.mp hw).elim (fun e => e ▸ h5) (h w)
  have h3 : Cmp3.tab.before a s = true := unparts (wk q5 (.code Cmp3.yN Cmp3.yB 6 (some (.array .byte)))) (wks q5 (.initialized Cmp3.yN.cls :: Cmp3.site))
  have q3 : ∀ w ∈ Cmp3.tab :: CodL.tab :: words, w.before a s = true := fun w hw => (List.mem_cons.mp hw).elim (fun e => e ▸ h3) fun hw => (List.mem_cons.mp hw).elim (fun e => e ▸ hc) (h w)
  have h4 : New4.tab.before a s = true := unparts (wk q3 (.code New4.yN New4.yB 6 none)) (wks q3 (.initialized New4.yN.cls :: New4.site))
  have q4 : ∀ w ∈ New4.tab :: words, w.before a s = true := fun w hw => (List.mem_cons.mp hw).elim (fun e => e ▸ h4) (h w)
  exact unparts (wk q4 (.code New1.yN New1.yB 2 none)) (wks q4 (.initialized New1.yN.cls :: New1.site))
/-- the words ride from the start Z to the walk's own state -/
theorem moved {Z s : State} {a0 args : Array Value} (hZ : Z.Warmed39 s.vm) (hw : ∀ d ∈ words, d.before a0 Z = true) : ∀ d ∈ words, d.before args s = true := fun d hd => by
  have q := hw d hd
  have t : ∀ d ∈ words, d = .arrayClass .byte ∨ (d.onTables && d.keepsFace) = true := by decide +kernel
  rcases t d hd with rfl | t
  · exact RoadKit.mvA hZ q
  · exact RoadKit.mv hZ q t
/-- WHAT COMES BACK, over the tables of the start Z: h the heap at the call, h' behind it -/
def Q (Z : State) (x : Addr) (A : Cell) (h : Heap) (v : Option Value) (h' : Heap) (L : List Loc) : Prop := v = none ∧ (∀ y ∈ L, y.base = x) ∧ RoadKit.Keep h h' [x] ∧ h'.size = h.size + 1 ∧ RoadKit.Exa Z h' x ST ∧ RoadKit.Fld Z h' x ST "value" "[B" (.ref h.size) ∧ RoadKit.Fld Z h' x ST "coder" "B" (.int 0) ∧
  (∃ V : Cell, RoadKit.Arr Z h' h.size V .byte ∧ V.vm = .none ∧ Z.vm.findClass "[B" = some V.cls ∧ V.slots.size = A.slots.size ∧ ∀ j, j < A.slots.size → V.slots[j]? = some (.int (lo8 (cv A j)))) ∧
  ∀ (O n d : String) (w : Value), RoadKit.Fld Z h x O n d w → RoadKit.slotOf Z O n d ≠ RoadKit.slotOf Z ST "value" "[B" → RoadKit.slotOf Z O n d ≠ RoadKit.slotOf Z ST "coder" "B" → RoadKit.Fld Z h' x O n d w
/-- **new String(chars) AT A CALL, IN THE ROAD'S FORM**: for specialBack behind newO: x the fresh String, b the char[] with the cell A -/
theorem back {p : Program} {l : Launch} {e : Env} {R : Room} {s : State} {args : Array Value} {below : List Frame} {len W : Nat} {Z : State} {a0 : Array Value} {h : Heap} (hZ : Z.Warmed39 s.vm) (hw : ∀ d ∈ words, d.before a0 Z = true) {kI : Nat} (wi : (Jvm.Cond.instantiable ST kI).before a0 Z = true)
    {x b : Addr} {A : Cell} {z : Int32} {v0 c0 : Value} (E : RoadKit.Exa Z h x ST) (V : RoadKit.Fld Z h x ST "value" "[B" v0) (C : RoadKit.Fld Z h x ST "coder" "B" c0) (K : RoadKit.Arr Z h b A .char) (hty : Typed .char A) (S : RoadKit.Sta Z h ST "COMPACT_STRINGS" "Z" (.int z)) (hz : ¬ z = 0)
    (l0 : 0 < A.slots.size) (l2 : A.slots.size ≤ 536870912) (hp : ∀ i, i < A.slots.size → ¬ 255 < cv A i) (hfr : 4 ≤ R.frames) (hlo : W + 65 ≤ R.locals) :
    Back l R p e below s args New1.yN len W (fun P a => a = #[.ref x, .ref b] ∧ P.U.heap = h ∧ P.cells + 1 ≤ R.cells ∧ P.slots + A.slots.size ≤ R.slots)
      (fun P _ v B => ∃ L, Q Z x A h v B.U.heap L ∧ B.locs = P.locs ++ L ∧ B.cells = P.cells + 1 ∧ B.slots = P.slots + A.slots.size) := by
  intro m meth c P g ig mk a X hg hsize hdg hW hn hp'
  obtain ⟨rfl, rfl, r1, r2⟩ := hp'
  have al : Z.vm.Alike P.U.vm := hZ.alike.trans X.warmed.alike
  obtain ⟨D, cfV, kV, iV, fV, hD, gV, stV, knV, obV, asV, slV⟩ := id V
  obtain ⟨D', cfC, kC, iC, fC, hD', gC, stC, -, -, asC, slC⟩ := id C
  cases hD.symm.trans hD'
  obtain ⟨D2, kD, e1, e2, e3, e4, e5⟩ := id E
  cases hD.symm.trans e1
  obtain ⟨c2, k2, i1, i2, i3, -⟩ := Cond.instantiable_spec wi
  cases e2.symm.trans i1
  cases e3.symm.trans i2
  obtain ⟨kU, u1, u2⟩ := al.2.2 _ _ e3
  have hB : Blank ST x D P.U := ⟨hD, ⟨knV, fun q hq => by rw [hq] at obV; cases obV⟩, by rw [al.findClass]; exact e2, kU, u1, by rw [u2]; exact i3, by rw [u2]; exact e5 i3⟩
  have F1 : Found ST "value" "[B" fV P.U := ⟨SBG.found_only al ⟨cfV, kV, iV, gV⟩, stV⟩
  have F2 : Found ST "coder" "B" fC P.U := ⟨SBG.found_only al ⟨cfC, kC, iC, gC⟩, stC⟩
  have hA : Ch b A P.U := ⟨⟨K.1, State.isArrayOf_alike al K.2.1, K.2.2, by omega⟩, hty⟩
  have hS : StaticIs P.U ST "COMPACT_STRINGS" "Z" (.int z) := by
    obtain ⟨cfS, iS, kS, fS, st, cS, t1, t2, t3, t4, t5, t6, t7⟩ := S
    exact StaticIs.there (s := { Z with heap := P.U.heap }) ⟨cfS, iS, kS, fS, st, cS, t1, t2, t3, t4, t5, (fun q => by rw [q] at t6; cases t6), t7⟩ al rfl
  obtain ⟨v, B, X', ⟨⟨hv, E', V', q1, q2, q3, q4, q5, q6, q7, q8, q9, q10, q11⟩, hl, hc, hs⟩, st⟩ := New1.pays x D fV fC b A z (tab_of (moved hZ hw)) hfr hlo m meth c P g ig mk _ X hg hsize hdg hW hn ⟨r1, r2, rfl, hB, F1, F2, hA, hS, hz, l0, l2, hp⟩
  have al' : Z.vm.Alike B.U.vm := hZ.alike.trans X'.warmed.alike
  have hsz : E'.slots.size = D.slots.size := by
    obtain ⟨-, -, -, kB, w1, w2, w3⟩ := q1
    obtain ⟨kB', y1, y2⟩ := al'.2.2 _ _ e3
    rw [q2.2.1] at w1
    cases w1.symm.trans y1
    rw [w3, e5 i3, y2]
  refine ⟨v, B, X', ⟨_, ⟨hv, ?_, ⟨by omega, fun y cy hy hn' => q10 y cy (by simpa using hn') hy, fun y cy hy => ?_⟩, q11, ⟨E', _, q1.1, by rw [q2.2.1]; exact e2, by rw [q2.2.1]; exact e3, by rw [q2.1]; exact obV, fun _ => by rw [hsz]; exact e5 i3⟩,
    ⟨E', cfV, kV, iV, fV, q1.1, gV, stV, by rw [q2.1]; exact knV, by rw [q2.1]; exact obV, by rw [q2.2.1]; exact asV, q3⟩, ⟨E', cfC, kC, iC, fC, q1.1, gC, stC, by rw [q2.1]; exact knV, by rw [q2.1]; exact obV, by rw [q2.2.1]; exact asC, q4⟩,
    ⟨V', ⟨q5.1, State.isArrayOf_alike al'.symm q5.2.1, q5.2.2.1⟩, q6, by rw [← al'.findClass]; exact q7, q8, fun j hj => by have := q9 j hj; rwa [Nat.zero_add] at this⟩, fun O n d w F n1 n2 => ?_⟩, hl, hc, hs⟩, st⟩
  · intro y hy
    simp only [List.mem_cons, List.not_mem_nil, or_false] at hy
    rcases hy with rfl | rfl <;> rfl
  · by_cases q : y = x
    · subst q
      cases hD.symm.trans hy
      exact ⟨E', q1.1, q2.2.1, q2.1, hsz⟩
    · exact ⟨cy, q10 y cy q hy, rfl, rfl, rfl⟩
  · obtain ⟨D3, cf, k, i, f, g1, g2, g3, g4, g5, g6, g7⟩ := F
    cases hD.symm.trans g1
    simp only [RoadKit.slotOf, g2, gV, gC, Option.map_some, Option.getD_some] at n1 n2
    exact ⟨E', cf, k, i, f, q1.1, g2, g3, by rw [q2.1]; exact g4, by rw [q2.1]; exact g5, by rw [q2.2.1]; exact g6, by rw [q2.2.2 f.slot (by simp [n1, n2])]; exact g7⟩
end StrChars.Road
namespace StrChars.Road
open Jvm Sem ClassFile Op Lib Jvm.Stand Jvm.Free Jvm.Free.XT
/-- WHAT COMES BACK, the byte[] as a list of values -/
def QA (Z : State) (x : Addr) (zn : Int32) (cs : List Int32) (h : Heap) (v : Option Value) (h' : Heap) (L : List Loc) : Prop := v = none ∧ (∀ y ∈ L, y.base = x) ∧ RoadKit.Keep h h' [x] ∧ h'.size = h.size + 1 ∧ RoadKit.Exa Z h' x ST ∧ RoadKit.Fld Z h' x ST "value" "[B" (.ref h.size) ∧ RoadKit.Fld Z h' x ST "coder" "B" (.int 0) ∧
  (∃ kb, Z.vm.findClass "[B" = some kb ∧ RoadKit.Arv Z h' h.size kb .byte zn (cs.map fun c => .int (lo8 c)) (.int 0)) ∧
  ∀ (O n d : String) (w : Value), RoadKit.Fld Z h x O n d w → RoadKit.slotOf Z O n d ≠ RoadKit.slotOf Z ST "value" "[B" → RoadKit.slotOf Z O n d ≠ RoadKit.slotOf Z ST "coder" "B" → RoadKit.Fld Z h' x O n d w
/-- **new String(chars) AT A CALL, THE ARRAYS AS LISTS**: the char[] at b holds cs, not empty, no char above 255 -/
theorem backArv {p : Program} {l : Launch} {e : Env} {R : Room} {s : State} {args : Array Value} {below : List Frame} {len W : Nat} {Z : State} {a0 : Array Value} {h : Heap} (hZ : Z.Warmed39 s.vm) (hw : ∀ d ∈ words, d.before a0 Z = true) {kI : Nat} (wi : (Jvm.Cond.instantiable ST kI).before a0 Z = true)
    {x b : Addr} {k : ClassId} {zn z : Int32} {cs : List Int32} {dv v0 c0 : Value} (E : RoadKit.Exa Z h x ST) (V : RoadKit.Fld Z h x ST "value" "[B" v0) (C : RoadKit.Fld Z h x ST "coder" "B" c0) (K : RoadKit.Arv Z h b k .char zn (cs.map Value.int) dv) (S : RoadKit.Sta Z h ST "COMPACT_STRINGS" "Z" (.int z)) (hz : ¬ z = 0)
    (hlen : zn.toNatClampNeg = cs.length) (h0 : 0 < cs.length) (hbig : cs.length ≤ 536870912) (hall : ∀ c ∈ cs, ¬ 255 < c) (hfr : 4 ≤ R.frames) (hlo : W + 65 ≤ R.locals) :
    Back l R p e below s args New1.yN len W (fun P a => a = #[.ref x, .ref b] ∧ P.U.heap = h ∧ P.cells + 1 ≤ R.cells ∧ P.slots + cs.length ≤ R.slots)
      (fun P _ v B => ∃ L, QA Z x zn cs h v B.U.heap L ∧ B.locs = P.locs ++ L ∧ B.cells = P.cells + 1 ∧ B.slots = P.slots + cs.length) := by
  obtain ⟨A, K1, K2, K3, K4, K5, K6⟩ := K
  have e : A.slots.size = cs.length := K3.trans hlen
  have hat : ∀ (i : Nat) (hi : i < cs.length), A.slots[i]? = some (.int cs[i]) := fun i hi => by rw [K5 i (by omega)]; simp [List.getD_eq_getElem?_getD, hi]
  have hcv : ∀ (i : Nat) (hi : i < cs.length), cv A i = cs[i] := fun i hi => by unfold cv; rw [hat i hi]
  have hty : Typed .char A := fun i v hv => by
    have hi : i < A.slots.size := (Array.getElem?_eq_some_iff.mp hv).1
    have q := K5 i hi
    rw [hv] at q
    rw [Option.some.inj q]
    exact K6 i hi
  refine Back.mono (back hZ hw wi E V C K1 hty S hz (by omega) (by omega) (fun i hi => by rw [hcv i (by omega)]; exact hall _ (List.getElem_mem _)) hfr hlo) (fun P a hp => ⟨hp.1, hp.2.1, hp.2.2.1, by rw [e]; exact hp.2.2.2⟩) (fun P a v B hp hq => ?_)
  obtain ⟨L, ⟨q1, q2, q3, q4, q5, q6, q7, ⟨V', v1, v2, v3, v4, v5⟩, q9⟩, hl, hc, hs⟩ := hq
  refine ⟨L, ⟨q1, q2, q3, q4, q5, q6, q7, ⟨V'.cls, v3, V', v1, rfl, by rw [v4, e, hlen], K4, fun i hi => ?_, fun i hi => ?_⟩, q9⟩, hl, hc, by rw [hs, e]⟩
  · have hi' : i < cs.length := by omega
    rw [v5 i (by omega), hcv i hi']; simp [List.getD_eq_getElem?_getD, hi']
  · have hi' : i < cs.length := by omega
    simp only [List.getD_eq_getElem?_getD, List.getElem?_map, List.getElem?_eq_getElem hi', Option.map_some, Option.getD_some]
    exact fits_lo8 _
end StrChars.Road
namespace StrChars.Road
open Jvm Sem ClassFile Op Lib Jvm.Stand Jvm.Free Jvm.Free.XT
/-- WHAT COMES BACK, in the writer's own shape -/
def QV (Z : State) (x : Addr) (N : Int32) (bs : List Int32) (h : Heap) (n0 : Nat) (v : Option Value) (h' : Heap) (L : List Loc) : Prop := v = none ∧ RoadKit.Fr n0 L ∧ RoadKit.Keep h h' [x] ∧ RoadKit.Exa Z h' x ST ∧ RoadKit.Fld Z h' x ST "coder" "B" (.int 0) ∧
  ∃ (t : Addr) (kb : ClassId), n0 ≤ t ∧ h.size ≤ t ∧ ¬ t = x ∧ RoadKit.Fld Z h' x ST "value" "[B" (.ref t) ∧ RoadKit.Arv Z h' t kb .byte N (bs.map Value.int) (.int 0)
/-- **new String(chars) AT A CALL, FOR THE WRITER**: a char[] of n known ints, each 0 to 255 -/
theorem backV {p : Program} {l : Launch} {e : Env} {R : Room} {s : State} {args : Array Value} {below : List Frame} {len W : Nat} {Z : State} {a0 : Array Value} {h : Heap} (hZ : Z.Warmed39 s.vm) (hw : ∀ d ∈ words, d.before a0 Z = true) {kI : Nat} (wi : (Jvm.Cond.instantiable ST kI).before a0 Z = true)
    {x b : Addr} {kC : ClassId} {cs bs : List Int32} {d v0 c0 : Value} {z N : Int32} {n n0 : Nat} (hx0 : n0 ≤ x) (hh0 : n0 ≤ h.size) (E : RoadKit.Exa Z h x ST) (V : RoadKit.Fld Z h x ST "value" "[B" v0) (C : RoadKit.Fld Z h x ST "coder" "B" c0) (K : RoadKit.Arv Z h b kC .char N (cs.map Value.int) d) (S : RoadKit.Sta Z h ST "COMPACT_STRINGS" "Z" (.int z)) (hz : ¬ z = 0)
    (hn : cs.length = n) (hN : N = Int32.ofNat n) (l0 : 0 < n) (l2 : n ≤ 4000) (hp : ∀ c ∈ cs, ¬ c < 0 ∧ ¬ (255 : Int32) < c) (hb : bs = cs.map (fun c => c.toInt8.toInt32)) (hfr : 4 ≤ R.frames) (hlo : W + 65 ≤ R.locals) :
    Back l R p e below s args (⟨"java/lang/String", "<init>", "([C)V"⟩ : MethodName) len W (fun P a => a = #[.ref x, .ref b] ∧ P.U.heap = h ∧ P.cells + 1 ≤ R.cells ∧ P.slots + n ≤ R.slots)
      (fun P _ v B => ∃ L, QV Z x N bs h n0 v B.U.heap L ∧ B.locs = P.locs ++ L ∧ B.cells = P.cells + 1 ∧ B.slots = P.slots + n) := by
  subst hn hN hb
  refine Back.mono (backArv hZ hw wi E V C K S hz (n32 (by omega)) l0 (by omega) (fun c hc => (hp c hc).2) hfr hlo) (fun P a hp => hp) (fun P a v B hp hq => ?_)
  obtain ⟨L, ⟨q1, q2, q3, q4, q5, q6, q7, ⟨kb, v1, v2⟩, q9⟩, hl, hc, hs⟩ := hq
  exact ⟨L, ⟨q1, fun y hy => by rw [q2 y hy]; exact hx0, q3, q5, q7, h.size, kb, hh0, Nat.le_refl _, Nat.ne_of_gt E.lt, q6, by rw [List.map_map]; exact v2⟩, hl, hc, hs⟩
end StrChars.Road
namespace StrChars
open Jvm Sem ClassFile Op Lib Jvm.Stand Jvm.Free.XT Jvm.Free.ALB Jvm.Free.JM Jvm.Free
open Jvm.Lib.Cold (StaticIs)
def hi8 (x : Int32) : Int32 := lo8 (x >>> ((8 : Int32) &&& 31))
/-- what StringUTF16.getChar makes of two bytes -/
def pairCh (u v : Int32) : Int32 := (((u &&& 255) <<< ((0 : Int32) &&& 31)) ||| ((v &&& 255) <<< ((8 : Int32) &&& 31))).toUInt32.toUInt16.toUInt32.toInt32
theorem lo8_and (x : Int32) : (lo8 x &&& 255).toBitVec.toNat = x.toBitVec.toNat % 256 := by
  have h : (lo8 x).toBitVec = (x.toBitVec.signExtend 8).signExtend 32 := by rw [lo8, Int8.toBitVec_toInt32, Int32.toBitVec_toInt8]
  rw [Int32.toBitVec_and, BitVec.toNat_and, h]
  have e : ((x.toBitVec.signExtend 8).signExtend 32).toNat % 256 = x.toBitVec.toNat % 256 := by
    rw [BitVec.toNat_signExtend]
    have hlt := x.toBitVec.isLt
    simp only [BitVec.toNat_setWidth, BitVec.toNat_signExtend]
    split <;> split <;> omega
  rw [← e]
  exact Nat.and_two_pow_sub_one_eq_mod _ 8
theorem pair_says {c : Int32} (h0 : ¬ c < 0) (h1 : ¬ 65535 < c) : pairCh (lo8 c) (hi8 c) = c := by
  rw [Int32.lt_iff_toInt_lt] at h0 h1
  have e0 : (0 : Int32).toInt = 0 := rfl
  have e1 : (65535 : Int32).toInt = 65535 := rfl
  have hc : c.toInt = c.toBitVec.toNat := by
    have := c.toBitVec.isLt
    have e : c.toInt = c.toBitVec.toInt := rfl
    rw [e] at h0 h1
    rw [e]
    rw [BitVec.toInt_eq_toNat_cond] at h0 h1 ⊢
    split at h0 <;> split <;> omega
  have hn : c.toBitVec.toNat < 65536 := by omega
  have a1 := lo8_and c
  have a2 : (hi8 c &&& 255).toBitVec.toNat = c.toBitVec.toNat / 256 := by
    rw [hi8, lo8_and]
    have e : ((8 : Int32) &&& 31) = 8 := by decide
    rw [e, Int32.toBitVec_shiftRight]
    have e2 : ((8 : Int32).toBitVec.smod 32) = 8#32 := by decide
    rw [e2, BitVec.sshiftRight_eq', BitVec.toNat_sshiftRight_of_msb_false (by rw [BitVec.msb_eq_false_iff_two_mul_lt]; omega)]
    show c.toBitVec.toNat >>> 8 % 256 = _
    rw [Nat.shiftRight_eq_div_pow]
    omega
  unfold pairCh
  apply Int32.toBitVec_inj.mp
  apply BitVec.eq_of_toNat_eq
  have f0 : ((0 : Int32) &&& 31) = 0 := by decide
  have f8 : ((8 : Int32) &&& 31) = 8 := by decide
  rw [f0, f8]
  have g : (((lo8 c &&& 255) <<< (0 : Int32)) ||| ((hi8 c &&& 255) <<< (8 : Int32))).toBitVec.toNat = c.toBitVec.toNat := by
    rw [Int32.toBitVec_or, Int32.toBitVec_shiftLeft, Int32.toBitVec_shiftLeft]
    have s0 : ((0 : Int32).toBitVec.smod 32) = 0#32 := by decide
    have s8 : ((8 : Int32).toBitVec.smod 32) = 8#32 := by decide
    rw [s0, s8, BitVec.toNat_or]
    simp only [BitVec.shiftLeft_eq', BitVec.toNat_shiftLeft, a1, a2]
    show (c.toBitVec.toNat % 256) <<< 0 % 2 ^ 32 ||| (c.toBitVec.toNat / 256) <<< 8 % 2 ^ 32 = _
    rw [Nat.shiftLeft_zero, Nat.mod_eq_of_lt (show c.toBitVec.toNat % 256 < 2 ^ 32 by omega), Nat.mod_eq_of_lt (show (c.toBitVec.toNat / 256) <<< 8 < 2 ^ 32 by rw [Nat.shiftLeft_eq]; omega), Nat.or_comm, ← Nat.shiftLeft_add_eq_or_of_lt (by omega), Nat.shiftLeft_eq]
    omega
  show BitVec.toNat (((((lo8 c &&& 255) <<< (0 : Int32)) ||| ((hi8 c &&& 255) <<< (8 : Int32))).toBitVec.setWidth 16).setWidth 32) = _
  rw [BitVec.toNat_setWidth, BitVec.toNat_setWidth, g]
  omega
end StrChars
namespace StrChars
open Jvm Sem ClassFile Op Lib Jvm.Stand Jvm.Free.XT Jvm.Free.ALB Jvm.Free.JM Jvm.Free
open Jvm.Lib.Cold (StaticIs)
/-- charAt's cast of a byte read back -/
def chr8 (u : Int32) : Int32 := (u &&& 255).toUInt32.toUInt16.toUInt32.toInt32
theorem chr8_lo8 {c : Int32} (h0 : ¬ c < 0) (h1 : ¬ 255 < c) : chr8 (lo8 c) = c := by
  have t : ∀ k : Fin 256, (Int32.ofNat k.val).toUInt32.toUInt16.toUInt32.toInt32 = Int32.ofNat k.val := by decide +kernel
  unfold chr8
  rw [lo8_mask h0 h1]
  rw [Int32.lt_iff_toInt_lt] at h0 h1
  have e0 : (0 : Int32).toInt = 0 := rfl
  have e1 : (255 : Int32).toInt = 255 := rfl
  obtain ⟨k, hk⟩ : ∃ k : Nat, c.toInt = k := ⟨c.toInt.toNat, by omega⟩
  have hx : c = Int32.ofNat k := Int32.toInt_inj.mp (by rw [hk, Int32.toInt_ofNat_small (by omega)])
  rw [hx]
  exact t ⟨k, by omega⟩
theorem narrow_ch {c : Int32} (h0 : ¬ c < 0) (h1 : ¬ 65535 < c) : narrow .char (.int c) = .int c := by
  have q : narrow .char (.int (pairCh (lo8 c) (hi8 c))) = .int (pairCh (lo8 c) (hi8 c)) := narrow_c _
  rwa [pair_says h0 h1] at q
/-- the array's cell V codes the n chars f 0 .. f (n - 1) by the coder cd, as the JDK does: coder 1 just where some char is above 255 -/
def Cod (cd : Int32) (n : Nat) (f : Nat → Int32) (V : Cell) : Prop := (cd = 0 ∧ V.slots.size = n ∧ ∀ j, j < n → V.slots[j]? = some (.int (lo8 (f j))) ∧ ¬ 255 < f j) ∨ (cd = 1 ∧ V.slots.size = 2 * n ∧ (∀ j, j < n → V.slots[2 * j]? = some (.int (lo8 (f j))) ∧ V.slots[2 * j + 1]? = some (.int (hi8 (f j)))) ∧ ∃ j, j < n ∧ 255 < f j)
theorem Cod.cd {cd : Int32} {n : Nat} {f : Nat → Int32} {V : Cell} (h : Cod cd n f V) : cd = 0 ∨ cd = 1 := h.imp (fun q => q.1) fun q => q.1
/-- **x is a String of the n chars f 0 .. f (n - 1)**, Latin-1 or UTF-16; its array at t has the cell V -/
def Txt (x t : Addr) (V : Cell) (cd : Int32) (n : Nat) (f : Nat → Int32) (U : State) : Prop := Exact "java/lang/String" x U ∧ Has x "java/lang/String" "value" "[B" (.ref t) U ∧ Has x "java/lang/String" "coder" "B" (.int cd) U ∧ XT.Arr .byte t V U ∧ Cod cd n f V ∧ ∀ j, j < n → ¬ f j < 0 ∧ ¬ 65535 < f j
theorem Txt.mv {x t : Addr} {V : Cell} {cd : Int32} {n : Nat} {f : Nat → Int32} {U U' : State} (h : Txt x t V cd n f U) (hal : U.vm.Alike U'.vm) (hh : U'.heap = U.heap) : Txt x t V cd n f U' := ⟨h.1.mv hal hh, h.2.1.mv hal hh, h.2.2.1.mv hal hh, h.2.2.2.1.mv hal hh, h.2.2.2.2⟩
namespace IsL
def yN : MethodName := ⟨"java/lang/String", "isLatin1", "()Z"⟩
abbrev yB : ByteArray := jdk_42_method_154_code
theorem d0 : decode yB 0 = .ok (.getstatic 38, 3) := by decide +kernel
theorem d3 : decode yB 3 = .ok (.ifCond (.eq) 14, 3) := by decide +kernel
theorem d6 : decode yB 6 = .ok (.aload_n 0, 1) := by decide +kernel
theorem d7 : decode yB 7 = .ok (.getfield 15, 3) := by decide +kernel
theorem d10 : decode yB 10 = .ok (.ifCond (.ne) 7, 3) := by decide +kernel
theorem d13 : decode yB 13 = .ok (.iconst 1, 1) := by decide +kernel
theorem d14 : decode yB 14 = .ok (.goto 4, 3) := by decide +kernel
theorem d17 : decode yB 17 = .ok (.iconst 0, 1) := by decide +kernel
theorem d18 : decode yB 18 = .ok (.ireturn, 1) := by decide +kernel
def site : List Cond := [.fieldLink "java/lang/String" 38 "java/lang/String" "COMPACT_STRINGS" "Z", .fieldLink "java/lang/String" 15 "java/lang/String" "coder" "B"]
def tab : Cond := tabOf yN yB 1 (some .boolean) site
def P (x : Addr) (cd z : Int32) (args : Array Value) (s : State) : Prop := args = #[.ref x] ∧ Has x "java/lang/String" "coder" "B" (.int cd) s ∧ (cd = 0 ∨ cd = 1) ∧ StaticIs s "java/lang/String" "COMPACT_STRINGS" "Z" (.int z) ∧ ¬ z = 0
def E (cd : Int32) (r : Option Value) (s u : State) : Prop := XT.PureE (some (.int (1 - cd))) r s u
theorem law (l : Launch) (x : Addr) (cd z : Int32) : Law l yN 1 0 0 0 yB 1 (some .boolean) site (P x cd z) (E cd) [] 0 0 := by
  refine Law.of_walk (plainFor_of_name (by decide +kernel)) (by decide +kernel) (by decide +kernel) (by decide) (fun _ _ h => by rw [h.1]; rfl) (fun _ U U' hal hh h => ⟨h.1, h.2.1.mv hal hh, h.2.2.1, h.2.2.2.1.there hal hh, h.2.2.2.2⟩) (fun r U U' V V' h1 hal h2 h => XT.PureE.mv r U U' V V' h1 hal h2 h) ?_
  intro p e s m args below meth c s₁ X0 hexec hbytes hml hret hlk hnm hown hh0 W hP
  obtain ⟨rfl, hx, hc, s1, hz⟩ := hP
  have c1 : Steps p.tables e below (s₁.setTop (entryFrame m #[.ref x] 1)) (s₁.setTop (mkF m 0 #[.val (.ref x)] [])) := entry rfl
  obtain ⟨T2, X2, q2, st2⟩ := X0.sget hexec hown (wk W (.fieldLink "java/lang/String" 38 "java/lang/String" "COMPACT_STRINGS" "Z")) s1 (fun _ _ h => by rw [hh0]; exact h) (g := (mkF m 0 #[.val (.ref x)] [])) rfl (hb hbytes d0)
  have hh2 := q2.trans hh0
  have c3 : Steps p.tables e below (s₁.setTop (entryFrame m #[.ref x] 1)) (T2.setTop (mkF m 7 #[.val (.ref x)] [.ref x])) := (c1.trans (st2 _ (Steps.refl _))).trans (by
    refine XS.ifNo X2.here hexec rfl (hb hbytes d3) rfl (i0_eq_f hz) ?_
    refine XS.aloadN X2.here hexec rfl (hb hbytes d6) rfl rfl ?_
    exact Steps.refl _)
  obtain ⟨T4, X4, q4, st4⟩ := X2.hget hexec hown (wk W (.fieldLink "java/lang/String" 15 "java/lang/String" "coder" "B")) (hx.mv X2.warmed.alike hh2) (g := (mkF m 7 #[.val (.ref x)] [.ref x])) rfl (rest := []) rfl (hb hbytes d7)
  have c5 : Steps p.tables e below (s₁.setTop (entryFrame m #[.ref x] 1)) (T4.setTop (mkF m 10 #[.val (.ref x)] [.int cd])) := c3.trans (st4 _ (Steps.refl _))
  have c6 : Steps p.tables e below (s₁.setTop (entryFrame m #[.ref x] 1)) (T4.setTop (mkF m 18 #[.val (.ref x)] [.int (1 - cd)])) := by
    rcases hc with rfl | rfl
    · exact c5.trans (by
        refine XS.ifNo X4.here hexec rfl (hb hbytes d10) rfl (i0_ne_f rfl) ?_
        refine iconstV X4.here hexec rfl 1 (hb hbytes d13) (by decide) ?_
        refine XS.goto X4.here hexec rfl (pc0 := 14) rfl (hb hbytes d14) (by decide) rfl ?_
        exact Steps.refl _)
    · exact c5.trans (by
        refine XS.ifYes X4.here hexec rfl (pc0 := 10) rfl (hb hbytes d10) rfl (i0_ne_t (by decide)) (by decide) rfl ?_
        refine iconstV X4.here hexec rfl 0 (hb hbytes d17) (by decide) ?_
        exact Steps.refl _)
  exact ⟨T4, some (.int (1 - cd)), _, _, _, X4, rfl, rfl, rfl, (fun h => by cases h), ⟨rfl, q4.trans hh2⟩, fun fs hl => c6.trans (X4.ireturnOut hexec hret (by rcases hc with rfl | rfl <;> rfl) (Or.inr (Or.inl rfl)) (hb hbytes d18) hl)⟩
end IsL
namespace LChA
def yN : MethodName := ⟨"java/lang/StringLatin1", "charAt", "([BI)C"⟩
abbrev yB : ByteArray := jdk_43_method_2_code
theorem d0 : decode yB 0 = .ok (.iload_n 1, 1) := by decide +kernel
theorem d1 : decode yB 1 = .ok (.aload_n 0, 1) := by decide +kernel
theorem d2 : decode yB 2 = .ok (.arraylength, 1) := by decide +kernel
theorem d3 : decode yB 3 = .ok (.invokestatic 9, 3) := by decide +kernel
theorem d6 : decode yB 6 = .ok (.aload_n 0, 1) := by decide +kernel
theorem d7 : decode yB 7 = .ok (.iload_n 1, 1) := by decide +kernel
theorem d8 : decode yB 8 = .ok (.baload, 1) := by decide +kernel
theorem d9 : decode yB 9 = .ok (.sipush 255, 3) := by decide +kernel
theorem d12 : decode yB 12 = .ok (.iand, 1) := by decide +kernel
theorem d13 : decode yB 13 = .ok (.i2c, 1) := by decide +kernel
theorem d14 : decode yB 14 = .ok (.ireturn, 1) := by decide +kernel
def site : List Cond := [JO.Str_checkIndex.tab] ++ staticW "java/lang/StringLatin1" 9 JO.Str_checkIndex.yN
def tab : Cond := tabOf yN yB 2 (some .char) site
def P (t : Addr) (V : Cell) (i : Nat) (u : Int32) (fm : Value) (args : Array Value) (s : State) : Prop := args = #[.ref t, .int (Int32.ofNat i)] ∧ XT.Arr .byte t V s ∧ V.slots[i]? = some (.int u) ∧ (StaticIs s "jdk/internal/util/Preconditions" "SIOOBE_FORMATTER" "Ljava/util/function/BiFunction;" fm ∧ fm.isRef = true)
def E (u : Int32) (r : Option Value) (s w : State) : Prop := XT.PureE (some (.int (chr8 u))) r s w
theorem law (l : Launch) (t : Addr) (V : Cell) (i : Nat) (u : Int32) (fm : Value) : Law l yN 2 2 2 27 yB 2 (some .char) site (P t V i u fm) (E u) [] 0 0 := by
  refine Law.of_walk (plainFor_of_name (by decide +kernel)) (by decide +kernel) (by decide +kernel) (by decide) (fun _ _ h => by rw [h.1]; rfl) (fun _ U U' hal hh h => ⟨h.1, h.2.1.mv hal hh, h.2.2.1, h.2.2.2.1.there hal hh, h.2.2.2.2⟩) (fun r U U' V V' h1 hal h2 h => XT.PureE.mv r U U' V V' h1 hal h2 h) ?_
  intro p e s m args below meth c s₁ X0 hexec hbytes hml hret hlk hnm hown hh0 W hP
  obtain ⟨rfl, hV, hu, s1, rf⟩ := hP
  have v31 := hV.2.2.2
  have hi : i < V.slots.size := (Array.getElem?_eq_some_iff.mp hu).1
  have c1 : Steps p.tables e below (s₁.setTop (entryFrame m #[.ref t, .int (Int32.ofNat i)] 2)) (s₁.setTop (mkF m 0 #[.val (.ref t), .val (.int (Int32.ofNat i))] [])) := entry rfl
  have c2 : Steps p.tables e below (s₁.setTop (entryFrame m #[.ref t, .int (Int32.ofNat i)] 2)) (s₁.setTop (mkF m 3 #[.val (.ref t), .val (.int (Int32.ofNat i))] [.int (Int32.ofNat V.slots.size), .int (Int32.ofNat i)])) := c1.trans (by
    refine XS.iloadN X0.here hexec rfl (hb hbytes d0) rfl ?_
    refine XS.aloadN X0.here hexec rfl (hb hbytes d1) rfl rfl ?_
    refine X0.alen hexec (hV.mv X0.warmed.alike hh0) rfl rfl (hb hbytes d2) ?_
    exact Steps.refl _)
  obtain ⟨v3, T3, X3, E3, g3⟩ := X0.callS hexec (JO.Str_checkIndex.law l (Int32.ofNat i) (Int32.ofNat V.slots.size) fm) hown (wks W (staticW "java/lang/StringLatin1" 9 JO.Str_checkIndex.yN)) (wk W JO.Str_checkIndex.tab) (W := 0) (Nat.le_of_ble_eq_true rfl) (Nat.le_of_ble_eq_true rfl) (Nat.le_refl _) (Nat.le_refl _) (g := (mkF m 3 #[.val (.ref t), .val (.int (Int32.ofNat i))] [.int (Int32.ofNat V.slots.size), .int (Int32.ofNat i)])) rfl (by rw [hml]; rfl) c2 (argsL := [.int (Int32.ofNat i), .int (Int32.ofNat V.slots.size)]) (rest := []) rfl rfl (by show 2 * 0 + 0 ≤ _; decide) (hb hbytes d3) (⟨rfl, rf, s1.there X0.warmed.alike hh0, Int32.ofNat_not_neg (by omega), lt32 v31 hi⟩)
  obtain ⟨rfl, q3⟩ := E3
  have hh3 := q3.trans hh0
  have c4 : Steps p.tables e below (s₁.setTop (entryFrame m #[.ref t, .int (Int32.ofNat i)] 2)) (T3.setTop (mkF m 14 #[.val (.ref t), .val (.int (Int32.ofNat i))] [.int (chr8 u)])) := Steps.trans g3 (by
    refine XS.aloadN X3.here hexec rfl (hb hbytes d6) rfl rfl ?_
    refine XS.iloadN X3.here hexec rfl (hb hbytes d7) rfl ?_
    refine X3.aget hexec (hV.mv X3.warmed.alike hh3) rfl hu rfl rfl (hb hbytes d8) ?_
    refine sipushV X3.here hexec rfl 255 (hb hbytes d9) (by decide) ?_
    refine XS.iand X3.here hexec rfl (hb hbytes d12) rfl ?_
    refine i2c X3.here hexec rfl (hb hbytes d13) rfl ?_
    exact Steps.refl _)
  exact ⟨T3, some (.int (chr8 u)), _, _, _, X3, rfl, rfl, rfl, (fun h => by cases h), ⟨rfl, hh3⟩, fun fs hl => c4.trans (X3.ireturnOut hexec hret (narrow_c _) (Or.inr (Or.inr (Or.inr (Or.inl rfl)))) (hb hbytes d14) hl)⟩
end LChA
end StrChars
namespace StrChars.Road
open Jvm Sem ClassFile Op Lib Jvm.Stand Jvm.Free Jvm.Free.XT
open Jvm.Lib.Cold (StaticIs)
theorem consq {a : Array Value} {s : State} {c : Jvm.Cond} {L : List Jvm.Cond} (h0 : c.before a s = true) (h : ∀ w ∈ L, w.before a s = true) : ∀ w ∈ c :: L, w.before a s = true := fun w hw => (List.mem_cons.mp hw).elim (fun e => e ▸ h0) (h w)
/-- the bytes of the chars cs, low before high -/
def wideBytes : List Int32 → List Value
  | [] => []
  | c :: cs => .int (lo8 c) :: .int (hi8 c) :: wideBytes cs
theorem wide_lo (d : Value) : ∀ (cs : List Int32) (j : Nat), j < cs.length → (wideBytes cs).getD (2 * j) d = .int (lo8 (cs.getD j 0))
  | [], j, h => absurd h (Nat.not_lt_zero j)
  | c :: cs, 0, _ => rfl
  | c :: cs, j + 1, h => by
    have q := wide_lo d cs j (by simpa using h)
    rw [show 2 * (j + 1) = 2 * j + 1 + 1 from by omega]
    simpa [wideBytes] using q
theorem wide_hi (d : Value) : ∀ (cs : List Int32) (j : Nat), j < cs.length → (wideBytes cs).getD (2 * j + 1) d = .int (hi8 (cs.getD j 0))
  | [], j, h => absurd h (Nat.not_lt_zero j)
  | c :: cs, 0, _ => rfl
  | c :: cs, j + 1, h => by
    have q := wide_hi d cs j (by simpa using h)
    rw [show 2 * (j + 1) + 1 = 2 * j + 1 + 1 + 1 from by omega]
    simpa [wideBytes] using q
theorem low_at (d : Value) (cs : List Int32) (j : Nat) (h : j < cs.length) : (cs.map fun c => Value.int (lo8 c)).getD j d = .int (lo8 (cs.getD j 0)) := by
  simp [List.getD_eq_getElem?_getD, h]
/-- an array of N2 bytes vs codes the chars cs by the coder cd -/
def CodA (cs : List Int32) (cd N2 : Int32) (vs : List Value) : Prop := (cd = 0 ∧ N2 = Int32.ofNat cs.length ∧ vs = (cs.map fun c => Value.int (lo8 c)) ∧ ∀ c ∈ cs, ¬ 255 < c) ∨ (cd = 1 ∧ N2 = Int32.ofNat (2 * cs.length) ∧ vs = wideBytes cs ∧ ∃ c ∈ cs, 255 < c)
theorem CodA.cod {cs : List Int32} {cd N2 : Int32} {vs : List Value} {V : Cell} (h : CodA cs cd N2 vs) (hn : 2 * cs.length < 2 ^ 31) (hs : V.slots.size = N2.toNatClampNeg) (hv : RoadKit.Has V vs (.int 0)) : Cod cd cs.length (fun j => cs.getD j 0) V := by
  rcases h with ⟨rfl, rfl, rfl, h⟩ | ⟨rfl, rfl, rfl, c, hc, hw⟩
  · rw [n32 (by omega)] at hs
    exact Or.inl ⟨rfl, hs, fun j hj => ⟨by rw [hv j (by omega), low_at _ _ _ hj], by
      have e : cs.getD j 0 = cs[j] := by simp [List.getD_eq_getElem?_getD, hj]
      show ¬ 255 < cs.getD j 0
      rw [e]; exact h _ (List.getElem_mem _)⟩⟩
  · rw [n32 (by omega)] at hs
    obtain ⟨j, hj, rfl⟩ := List.getElem_of_mem hc
    exact Or.inr ⟨rfl, hs, fun j hj => ⟨by rw [hv _ (by omega), wide_lo _ _ _ hj], by rw [hv _ (by omega), wide_hi _ _ _ hj]⟩, j, hj, by
      have e : cs.getD j 0 = cs[j] := by simp [List.getD_eq_getElem?_getD, hj]
      show 255 < cs.getD j 0
      rw [e]; exact hw⟩
/-- an object of exactly java/lang/String, its two fields found: as the laws ask it -/
theorem strObj {Z U : State} {a0 : Array Value} {kI : Nat} (wi : (Jvm.Cond.instantiable ST kI).before a0 Z = true) (al : Z.vm.Alike U.vm) {x : Addr} {v0 c0 : Value} (E : RoadKit.Exa Z U.heap x ST) (V : RoadKit.Fld Z U.heap x ST "value" "[B" v0) (C : RoadKit.Fld Z U.heap x ST "coder" "B" c0) :
    ∃ (D : Cell) (fV fC : Field), Blank ST x D U ∧ Found ST "value" "[B" fV U ∧ Found ST "coder" "B" fC U ∧ D.slots[fV.slot]? = some v0 ∧ D.slots[fC.slot]? = some c0 ∧ RoadKit.slotOf Z ST "value" "[B" = fV.slot ∧ RoadKit.slotOf Z ST "coder" "B" = fC.slot := by
  obtain ⟨D, cfV, kV, iV, fV, hD, gV, stV, knV, obV, asV, slV⟩ := V
  obtain ⟨D', cfC, kC, iC, fC, hD', gC, stC, -, -, asC, slC⟩ := C
  cases hD.symm.trans hD'
  obtain ⟨D2, kD, e1, e2, e3, e4, e5⟩ := E
  cases hD.symm.trans e1
  obtain ⟨c2, k2, i1, i2, i3, -⟩ := Cond.instantiable_spec wi
  cases e2.symm.trans i1
  cases e3.symm.trans i2
  obtain ⟨kU, u1, u2⟩ := al.2.2 _ _ e3
  exact ⟨D, fV, fC, ⟨hD, ⟨knV, fun q hq => by rw [hq] at obV; cases obV⟩, by rw [al.findClass]; exact e2, kU, u1, by rw [u2]; exact i3, by rw [u2]; exact e5 i3⟩, ⟨SBG.found_only al ⟨cfV, kV, iV, gV⟩, stV⟩, ⟨SBG.found_only al ⟨cfC, kC, iC, gC⟩, stC⟩, slV, slC, by simp [RoadKit.slotOf, gV], by simp [RoadKit.slotOf, gC]⟩
theorem sta_is {Z U : State} (al : Z.vm.Alike U.vm) {C n d : String} {v : Value} (S : RoadKit.Sta Z U.heap C n d v) : StaticIs U C n d v := by
  obtain ⟨cfS, iS, kS, fS, st, cS, t1, t2, t3, t4, t5, t6, t7⟩ := S
  exact StaticIs.there (s := { Z with heap := U.heap }) ⟨cfS, iS, kS, fS, st, cS, t1, t2, t3, t4, t5, (fun q => by rw [q] at t6; cases t6), t7⟩ al rfl
end StrChars.Road
namespace StrChars.Road
open Jvm Sem ClassFile Op Lib Jvm.Stand Jvm.Free Jvm.Free.XT
open Jvm.Lib.Cold (StaticIs)
/-- the road's facts of a String, as the laws ask it -/
theorem txt_of {Z U : State} {a0 : Array Value} {kI : Nat} (wi : (Jvm.Cond.instantiable ST kI).before a0 Z = true) (al : Z.vm.Alike U.vm) {x t : Addr} {kb : ClassId} {cs : List Int32} {cd N2 : Int32} {vs : List Value} (E : RoadKit.Exa Z U.heap x ST) (V : RoadKit.Fld Z U.heap x ST "value" "[B" (.ref t)) (C : RoadKit.Fld Z U.heap x ST "coder" "B" (.int cd)) (K : RoadKit.Arv Z U.heap t kb .byte N2 vs (.int 0)) (hc : CodA cs cd N2 vs) (hb : ∀ c ∈ cs, ¬ c < 0 ∧ ¬ (65535 : Int32) < c) (l2 : cs.length ≤ 4000) :
    ∃ A, Txt x t A cd cs.length (fun j => cs.getD j 0) U := by
  obtain ⟨A, K1, K2, K3, K4, K5, K6⟩ := K
  have hcod := hc.cod (by omega) K3 K5
  obtain ⟨D, fV, fC, hB, F1, F2, g1, g2, -, -⟩ := strObj wi al E V C
  exact ⟨A, ⟨_, hB.2.2.1, D, hB.1, rfl, by cases q : D.vm <;> first | rfl | exact absurd q (hB.2.1.2 _)⟩, Has.of hB F1 g1, Has.of hB F2 g2, ⟨K1.1, State.isArrayOf_alike al K1.2.1, K1.2.2, by rcases hcod with ⟨-, q, -⟩ | ⟨-, q, -⟩ <;> omega⟩, hcod, fun j hj => by
    have e : cs.getD j 0 = cs[j] := by simp [List.getD_eq_getElem?_getD, hj]
    show ¬ cs.getD j 0 < 0 ∧ ¬ 65535 < cs.getD j 0
    rw [e]; exact hb _ (List.getElem_mem _)⟩
end StrChars.Road
namespace StrChars
open Jvm Sem ClassFile Op Lib Jvm.Stand Jvm.Free.XT Jvm.Free.ALB Jvm.Free.JM Jvm.Free
open Jvm.Lib.Cold (StaticIs)
namespace ChN
def yN : MethodName := ⟨"java/lang/String", "charAt", "(I)C"⟩
abbrev yB : ByteArray := jdk_42_method_56_code
theorem d0 : decode yB 0 = .ok (.aload_n 0, 1) := by decide +kernel
theorem d1 : decode yB 1 = .ok (.invokevirtual 492, 3) := by decide +kernel
theorem d4 : decode yB 4 = .ok (.ifCond (.eq) 12, 3) := by decide +kernel
theorem d7 : decode yB 7 = .ok (.aload_n 0, 1) := by decide +kernel
theorem d8 : decode yB 8 = .ok (.getfield 9, 3) := by decide +kernel
theorem d11 : decode yB 11 = .ok (.iload_n 1, 1) := by decide +kernel
theorem d12 : decode yB 12 = .ok (.invokestatic 495, 3) := by decide +kernel
theorem d15 : decode yB 15 = .ok (.ireturn, 1) := by decide +kernel
def site : List Cond := [.fieldLink "java/lang/String" 9 "java/lang/String" "value" "[B", IsL.tab, LChA.tab] ++ virtW "java/lang/String" 492 "java/lang/String" IsL.yN IsL.yN ++ staticW "java/lang/String" 495 LChA.yN
def tab : Cond := tabOf yN yB 2 (some .char) site
def P (x t : Addr) (V : Cell) (n : Nat) (f : Nat → Int32) (z : Int32) (fm : Value) (i : Nat) (args : Array Value) (s : State) : Prop := args = #[.ref x, .int (Int32.ofNat i)] ∧ Txt x t V 0 n f s ∧ i < n ∧ StaticIs s "java/lang/String" "COMPACT_STRINGS" "Z" (.int z) ∧ ¬ z = 0 ∧ StaticIs s "jdk/internal/util/Preconditions" "SIOOBE_FORMATTER" "Ljava/util/function/BiFunction;" fm ∧ fm.isRef = true
def E (f : Nat → Int32) (i : Nat) (r : Option Value) (s u : State) : Prop := XT.PureE (some (.int (f i))) r s u
/-- charAt(i) of a Latin-1 String of n chars, i < n: f i -/
theorem law (l : Launch) (x t : Addr) (V : Cell) (n : Nat) (f : Nat → Int32) (z : Int32) (fm : Value) (i : Nat) : Law l yN 2 1 3 40 yB 2 (some .char) site (P x t V n f z fm i) (E f i) [] 0 0 := by
  refine Law.of_walk (plainFor_of_name (by decide +kernel)) (by decide +kernel) (by decide +kernel) (by decide) (fun _ _ h => by rw [h.1]; rfl) (fun _ U U' hal hh h => ⟨h.1, h.2.1.mv hal hh, h.2.2.1, h.2.2.2.1.there hal hh, h.2.2.2.2.1, h.2.2.2.2.2.1.there hal hh, h.2.2.2.2.2.2⟩) (fun r U U' V V' h1 hal h2 h => XT.PureE.mv r U U' V V' h1 hal h2 h) ?_
  intro p e s m args below meth c s₁ X0 hexec hbytes hml hret hlk hnm hown hh0 W hP
  obtain ⟨rfl, hx, hi, s1, hz, s3, rf⟩ := hP
  have v31 := hx.2.2.2.1.2.2.2
  have hr := hx.2.2.2.2.2 i hi
  have hx0 := hx.mv X0.warmed.alike hh0
  have c1 : Steps p.tables e below (s₁.setTop (entryFrame m #[.ref x, .int (Int32.ofNat i)] 2)) (s₁.setTop (mkF m 1 #[.val (.ref x), .val (.int (Int32.ofNat i))] [.ref x])) := Steps.trans (entry rfl) (by
    show Steps p.tables e below (s₁.setTop (mkF m 0 #[.val (.ref x), .val (.int (Int32.ofNat i))] [])) _
    refine XS.aloadN X0.here hexec rfl (hb hbytes d0) rfl rfl ?_
    exact Steps.refl _)
  obtain ⟨v2, T2, X2, E2, g2⟩ := X0.callV hexec (IsL.law l x 0 z) hown (wks W (virtW "java/lang/String" 492 "java/lang/String" IsL.yN IsL.yN)) rfl (by decide) (wk W IsL.tab) (W := 0) (Nat.le_of_ble_eq_true rfl) (Nat.le_of_ble_eq_true rfl) (Nat.le_refl _) (Nat.le_refl _) (hx0.1.fc X0.warmed.alike) hx0.1.is (g := (mkF m 1 #[.val (.ref x), .val (.int (Int32.ofNat i))] [.ref x])) rfl (by rw [hml]; rfl) c1 (argsL := []) (rest := []) rfl rfl (by show 2 * 0 + 0 ≤ _; decide) (hb hbytes d1) (⟨rfl, hx0.2.2.1, hx.2.2.2.2.1.cd, s1.there X0.warmed.alike hh0, hz⟩)
  obtain ⟨rfl, q2⟩ := E2
  have hh2 := q2.trans hh0
  have hx2 := hx.mv X2.warmed.alike hh2
  obtain ⟨-, k1, k2⟩ | ⟨k0, -⟩ := hx.2.2.2.2.1
  · have c3 : Steps p.tables e below (s₁.setTop (entryFrame m #[.ref x, .int (Int32.ofNat i)] 2)) (T2.setTop (mkF m 8 #[.val (.ref x), .val (.int (Int32.ofNat i))] [.ref x])) := Steps.trans g2 (by
      refine XS.ifNo X2.here hexec rfl (hb hbytes d4) rfl (i0_eq_f (by decide)) ?_
      refine XS.aloadN X2.here hexec rfl (hb hbytes d7) rfl rfl ?_
      exact Steps.refl _)
    obtain ⟨T4, X4, q4, st4⟩ := X2.hget hexec hown (wk W (.fieldLink "java/lang/String" 9 "java/lang/String" "value" "[B")) hx2.2.1 (g := (mkF m 8 #[.val (.ref x), .val (.int (Int32.ofNat i))] [.ref x])) rfl (rest := []) rfl (hb hbytes d8)
    have hh4 := q4.trans hh2
    have c5 : Steps p.tables e below (s₁.setTop (entryFrame m #[.ref x, .int (Int32.ofNat i)] 2)) (T4.setTop (mkF m 12 #[.val (.ref x), .val (.int (Int32.ofNat i))] [.int (Int32.ofNat i), .ref t])) := (c3.trans (st4 _ (Steps.refl _))).trans (by
      refine XS.iloadN X4.here hexec rfl (hb hbytes d11) rfl ?_
      exact Steps.refl _)
    obtain ⟨v6, T6, X6, E6, g6⟩ := X4.callS hexec (LChA.law l t V i (lo8 (f i)) fm) hown (wks W (staticW "java/lang/String" 495 LChA.yN)) (wk W LChA.tab) (W := 0) (Nat.le_of_ble_eq_true rfl) (Nat.le_of_ble_eq_true rfl) (Nat.le_refl _) (Nat.le_refl _) (g := (mkF m 12 #[.val (.ref x), .val (.int (Int32.ofNat i))] [.int (Int32.ofNat i), .ref t])) rfl (by rw [hml]; rfl) c5 (argsL := [.ref t, .int (Int32.ofNat i)]) (rest := []) rfl rfl (by show 2 * 0 + 0 ≤ _; decide) (hb hbytes d12) (⟨rfl, hx.2.2.2.1.mv X4.warmed.alike hh4, (k2 i hi).1, s3.there X4.warmed.alike hh4, rf⟩)
    obtain ⟨rfl, q6⟩ := E6
    rw [chr8_lo8 hr.1 (k2 i hi).2] at g6
    exact ⟨T6, some (.int (f i)), _, _, _, X6, rfl, rfl, rfl, (fun h => by cases h), ⟨rfl, q6.trans hh4⟩, fun fs hl => Steps.trans g6 (X6.ireturnOut hexec hret (narrow_ch hr.1 hr.2) (Or.inr (Or.inr (Or.inr (Or.inl rfl)))) (hb hbytes d15) hl)⟩
  · exact absurd k0 (by decide)
theorem pays {l : Launch} {R : Room} {p : Program} {e : Env} {below : List Frame} {s : State} {sargs : Array Value} {len W : Nat} (x t : Addr) (V : Cell) (n : Nat) (f : Nat → Int32) (z : Int32) (fm : Value) (i : Nat) (htab : tab.before sargs s = true) (hfr : 4 ≤ R.frames) (hlo : W + 53 ≤ R.locals) :
    Back l R p e below s sargs yN len W (fun A₁ a₁ => A₁.cells + 0 ≤ R.cells ∧ A₁.slots + 0 ≤ R.slots ∧ P x t V n f z fm i a₁ A₁.U) (fun A₁ _ v₁ B₁ => E f i v₁ A₁.U B₁.U ∧ B₁.locs = A₁.locs ++ [] ∧ B₁.cells = A₁.cells + 0 ∧ B₁.slots = A₁.slots + 0) :=
  (law l x t V n f z fm i).pays htab hfr (by omega)
end ChN
end StrChars
namespace StrChars.Road
open Jvm Sem ClassFile Op Lib Jvm.Stand Jvm.Free Jvm.Free.XT
open Jvm.Lib.Cold (StaticIs)
/-- the words of String.charAt(int), the Latin-1 road alone -/
abbrev wordsChN : List Jvm.Cond := [.code ChN.yN ChN.yB 2 (some .char), .initialized ST, .fieldLink ST 9 ST "value" "[B", .fieldLink ST 38 ST "COMPACT_STRINGS" "Z", .fieldLink ST 15 ST "coder" "B", .code IsL.yN IsL.yB 1 (some .boolean), .methodLink ST 492 IsL.yN, .declares IsL.yN, .selects ST IsL.yN IsL.yN, .instanceMethod IsL.yN,
  .methodLink ST 495 LChA.yN, .static LChA.yN, .code LChA.yN LChA.yB 2 (some .char), .initialized "java/lang/StringLatin1", .methodLink "java/lang/StringLatin1" 9 JO.Str_checkIndex.yN, .static JO.Str_checkIndex.yN, .code JO.Str_checkIndex.yN JO.Str_checkIndex.yB 2 none,
  .fieldLink ST 1053 "jdk/internal/util/Preconditions" "SIOOBE_FORMATTER" "Ljava/util/function/BiFunction;", .methodLink ST 1059 JC.PreCheck.yN, .static JC.PreCheck.yN, .code JC.PreCheck.yN JC.PreCheck.yB 3 (some .int), .initialized "jdk/internal/util/Preconditions"]
theorem tabChN_of {a : Array Value} {s : State} (h : ∀ w ∈ wordsChN, w.before a s = true) : ChN.tab.before a s = true := by
  have hp : JC.PreCheck.tab.before a s = true := unparts (wk h (.code JC.PreCheck.yN JC.PreCheck.yB 3 (some .int))) (wks h (.initialized JC.PreCheck.yN.cls :: JC.PreCheck.site))
  have qk := consq hp h
  have hk : JO.Str_checkIndex.tab.before a s = true := unparts (wk qk (.code JO.Str_checkIndex.yN JO.Str_checkIndex.yB 2 none)) (wks qk (.initialized JO.Str_checkIndex.yN.cls :: JO.Str_checkIndex.site))
  have ql := consq hk h
  have hl : LChA.tab.before a s = true := unparts (wk ql (.code LChA.yN LChA.yB 2 (some .char))) (wks ql (.initialized LChA.yN.cls :: LChA.site))
  have hi : IsL.tab.before a s = true := unparts (wk h (.code IsL.yN IsL.yB 1 (some .boolean))) (wks h (.initialized IsL.yN.cls :: IsL.site))
  have q := consq hi (consq hl h)
  exact unparts (wk q (.code ChN.yN ChN.yB 2 (some .char))) (wks q (.initialized ChN.yN.cls :: ChN.site))
theorem movedChN {Z s : State} {a0 args : Array Value} (hZ : Z.Warmed39 s.vm) (hw : ∀ d ∈ wordsChN, d.before a0 Z = true) : ∀ d ∈ wordsChN, d.before args s = true := fun d hd => by
  have t : ∀ d ∈ wordsChN, (d.onTables && d.keepsFace) = true := by decide +kernel
  exact RoadKit.mv hZ (hw d hd) (t d hd)
/-- **charAt(i) OF A LATIN-1 STRING**, i < n: the char -/
theorem chN {p : Program} {l : Launch} {e : Env} {R : Room} {s : State} {args : Array Value} {below : List Frame} {len W : Nat} {Z : State} {a0 : Array Value} {h : Heap} (hZ : Z.Warmed39 s.vm) (hw : ∀ d ∈ wordsChN, d.before a0 Z = true) {kI : Nat} (wi : (Jvm.Cond.instantiable ST kI).before a0 Z = true)
    {x t : Addr} {kb : ClassId} {cs : List Int32} {N2 z : Int32} {vs : List Value} {fm : Value} {i : Nat} {j : Int32} (E : RoadKit.Exa Z h x ST) (V : RoadKit.Fld Z h x ST "value" "[B" (.ref t)) (C : RoadKit.Fld Z h x ST "coder" "B" (.int 0)) (K : RoadKit.Arv Z h t kb .byte N2 vs (.int 0)) (hc : CodA cs 0 N2 vs) (hb : ∀ c ∈ cs, ¬ c < 0 ∧ ¬ (65535 : Int32) < c)
    (S : RoadKit.Sta Z h ST "COMPACT_STRINGS" "Z" (.int z)) (hz : ¬ z = 0) (F : RoadKit.Sta Z h "jdk/internal/util/Preconditions" "SIOOBE_FORMATTER" "Ljava/util/function/BiFunction;" fm) (rf : fm.isRef = true) (l2 : cs.length ≤ 4000) (hi : i < cs.length) (hj : j = Int32.ofNat i) (hfr : 4 ≤ R.frames) (hlo : W + 53 ≤ R.locals) :
    Back l R p e below s args (⟨"java/lang/String", "charAt", "(I)C"⟩ : MethodName) len W (fun P a => a = #[.ref x, .int j] ∧ P.U.heap = h ∧ P.cells + 0 ≤ R.cells ∧ P.slots + 0 ≤ R.slots)
      (fun P _ v B => ∃ L, (v = some (.int (cs.getD i 0)) ∧ L = [] ∧ B.U.heap = h) ∧ B.locs = P.locs ++ L ∧ B.cells = P.cells + 0 ∧ B.slots = P.slots + 0) := by
  subst hj
  intro m meth c P g ig mk a X hg hsize hdg hW hn hp'
  obtain ⟨rfl, rfl, r1, r2⟩ := hp'
  have al : Z.vm.Alike P.U.vm := hZ.alike.trans X.warmed.alike
  obtain ⟨A, hx⟩ := txt_of wi al E V C K hc hb l2
  obtain ⟨v, B, X', ⟨⟨hv, hh⟩, hl, hk, hs⟩, st⟩ := ChN.pays x t A cs.length (fun j => cs.getD j 0) z fm i (tabChN_of (movedChN hZ hw)) hfr hlo m meth c P g ig mk _ X hg hsize hdg hW hn ⟨r1, r2, rfl, hx, hi, sta_is al S, hz, sta_is al F, rf⟩
  exact ⟨v, B, X', ⟨[], ⟨hv, rfl, hh⟩, hl, hk, hs⟩, st⟩
/-- what backV says of its String, as the contracts of this text ask it: cs's low bytes, coder 0 -/
theorem codOf {cs : List Int32} {n : Nat} (hn : cs.length = n) (hb : ∀ c ∈ cs, ¬ 255 < c) : CodA cs 0 (Int32.ofNat n) ((cs.map lo8).map Value.int) := Or.inl ⟨rfl, by rw [hn], by simp [List.map_map, Function.comp_def], hb⟩
end StrChars.Road
end Jvm.Pilot.@@N@@
namespace Jvm.Pilot.@@N@@
open Jvm Jvm.ClassFile Sem Op Lib Jvm.Free Jvm.Stand Jvm.LawKit Jvm.RoadKit Bundle Jvm.Pilot.@@N@@.Jvm.D
/-- from the frame g at T the run reaches a state of which P holds -/
def own_Go (p : Program) (e : Env) (below : List Frame) (P : State → Outcome → Prop) (T : State) (g : JFrame) : Prop := ∃ t o, Steps p.tables e below (T.setTop g) t ∧ P t o
/-- the run has left the method: what it returned, the heap and the places written are as Q says -/
def own_P (s : State) (below : List Frame) (R : Room) (Q : Option Value → Heap → List Loc → Prop) (t : State) (o : Outcome) : Prop := t.status = .running ∧ Ended t below o ∧ ∃ v L, o = .returned v ∧ Q v t.heap L ∧ FrameEnd s o t L R.cells R.slots
section OwnKit
variable {p : Program} {l : Launch} {e : Env} {R : Room} {s : State} {m : MethodId} {args : Array Value} {below : List Frame} {meth : Method} {c : Code} {T T' : State} {locs : List Loc} {cells slots : Nat} {P : State → Outcome → Prop} {g g' : JFrame}
theorem own_by (k : ∀ t, Steps p.tables e below (T'.setTop g') t → Steps p.tables e below (T.setTop g) t) (h : own_Go p e below P T' g') : own_Go p e below P T g := by
  obtain ⟨t, o, st, q⟩ := h
  exact ⟨t, o, k t st, q⟩
theorem own_via (k : Steps p.tables e below (T.setTop g) (T'.setTop g')) (h : own_Go p e below P T' g') : own_Go p e below P T g := own_by (fun _ st => k.trans st) h
theorem own_in (q : g = g') (h : own_Go p e below P T g') : own_Go p e below P T g := q ▸ h
theorem own_out {v : Option Value} {Q : Option Value → Heap → List Loc → Prop} (X : Stand p l e R s m args below meth c T locs cells slots) (hv : meth.sig.returnType = none → v = none) (hlk : meth.locks = false) (hc : cells ≤ R.cells) (hs : slots ≤ R.slots) (q : Q v T.heap locs)
    (k : ∀ fs, (∀ (f : JFrame) (acts : List Action), f.method = m → f.locked = none → f.entered = [] → (doReturn e (T.setTop f) acts v).1 = T.setFrames fs) → Steps p.tables e below (T.setTop g) (T.setFrames fs)) : own_Go p e below (own_P s below R Q) T g := by
  obtain ⟨fs, hr, hrun, hended, hW, hsame⟩ := X.leave (v := v) hv hlk
  exact ⟨_, _, k fs hr, hrun, hended, _, _, rfl, q, ⟨_, rfl⟩, hW, hsame.mono hc hs⟩
theorem own_some {t : FieldType} {w : Value} (h : meth.sig.returnType = some t) : meth.sig.returnType = none → some w = none := fun q => by rw [h] at q; cases q
theorem own_retN {pc : Nat} {Ls : Array Slot} {z : Int32} {t : FieldType} {rest : List Value} {Q : Option Value → Heap → List Loc → Prop} (X : Stand p l e R s m args below meth c T locs cells slots) (hx : p.tables.exec = Jvm.exec) (hret : meth.sig.returnType = some t) (ht : t = .boolean ∨ t = .byte ∨ t = .char ∨ t = .short)
    (hd : decode c.code pc = .ok (.ireturn, 1)) (hlk : meth.locks = false) (hc : cells ≤ R.cells) (hs : slots ≤ R.slots) (q : Q (some (.int (nar t z))) T.heap locs) : own_Go p e below (own_P s below R Q) T (mkF m pc Ls (.int z :: rest)) :=
  own_out X (own_some hret) hlk hc hs q fun _ hr => retN X hx hret ht hd hr
theorem own_retI {pc : Nat} {Ls : Array Slot} {z : Int32} {rest : List Value} {Q : Option Value → Heap → List Loc → Prop} (X : Stand p l e R s m args below meth c T locs cells slots) (hx : p.tables.exec = Jvm.exec) (hret : meth.sig.returnType = some .int)
    (hd : decode c.code pc = .ok (.ireturn, 1)) (hlk : meth.locks = false) (hc : cells ≤ R.cells) (hs : slots ≤ R.slots) (q : Q (some (.int z)) T.heap locs) : own_Go p e below (own_P s below R Q) T (mkF m pc Ls (.int z :: rest)) :=
  own_out X (own_some hret) hlk hc hs q fun _ hr => retOut X hx hret rfl (Or.inl ⟨rfl, Or.inl rfl, _, rfl⟩) hd hr
theorem own_retJ {pc : Nat} {Ls : Array Slot} {z : Int64} {rest : List Value} {Q : Option Value → Heap → List Loc → Prop} (X : Stand p l e R s m args below meth c T locs cells slots) (hx : p.tables.exec = Jvm.exec) (hret : meth.sig.returnType = some .long)
    (hd : decode c.code pc = .ok (.lreturn, 1)) (hlk : meth.locks = false) (hc : cells ≤ R.cells) (hs : slots ≤ R.slots) (q : Q (some (.long z)) T.heap locs) : own_Go p e below (own_P s below R Q) T (mkF m pc Ls (.long z :: rest)) :=
  own_out X (own_some hret) hlk hc hs q fun _ hr => retOut X hx hret rfl (Or.inr (Or.inl ⟨rfl, rfl, _, rfl⟩)) hd hr
theorem own_retR {pc : Nat} {Ls : Array Slot} {w : Value} {t : FieldType} {rest : List Value} {Q : Option Value → Heap → List Loc → Prop} (X : Stand p l e R s m args below meth c T locs cells slots) (hx : p.tables.exec = Jvm.exec) (hret : meth.sig.returnType = some t) (ht : t.isReference = true) (hw : w.isRef = true) (hn : narrow t w = w)
    (hd : decode c.code pc = .ok (.areturn, 1)) (hlk : meth.locks = false) (hc : cells ≤ R.cells) (hs : slots ≤ R.slots) (q : Q (some w) T.heap locs) : own_Go p e below (own_P s below R Q) T (mkF m pc Ls (w :: rest)) :=
  own_out X (own_some hret) hlk hc hs q fun _ hr => retOut X hx hret hn (Or.inr (Or.inr (Or.inr (Or.inr ⟨rfl, ht, hw⟩)))) hd hr
theorem own_ret0 {pc : Nat} {Ls : Array Slot} {Q : Option Value → Heap → List Loc → Prop} (X : Stand p l e R s m args below meth c T locs cells slots) (hx : p.tables.exec = Jvm.exec) (hret : meth.sig.returnType = none)
    (hd : decode c.code pc = .ok (.return_, 1)) (hlk : meth.locks = false) (hc : cells ≤ R.cells) (hs : slots ≤ R.slots) (q : Q none T.heap locs) : own_Go p e below (own_P s below R Q) T (mkF m pc Ls []) :=
  own_out X (fun _ => rfl) hlk hc hs q fun _ hr => X.returnOut hx hret hd hr
theorem own_hide {n0 : Nat} (X : Stand p l e R s m args below meth c T locs cells slots) (N : Fr n0 locs) : ∃ L, Stand p l e R s m args below meth c T L cells slots ∧ Fr n0 L := ⟨locs, X, N⟩
theorem own_fitsR {C : String} {v : Value} (h : v.isRef = true) : fits (.object C) v = true := by
  cases v <;> first | rfl | (simp [Value.isRef] at h)
theorem own_tab (xs : List Int32) (d : Int32) (k : Nat) : (xs.map Value.int).getD k (.int d) = .int (xs.getD k d) := by
  simp only [List.getD_eq_getElem?_getD, List.getElem?_map]
  cases xs[k]? <;> rfl
end OwnKit
theorem own_len {s : State} {args : Array Value} {t : Term} {a : Addr} {cl : Cell} {ty : FieldType} {z : Int32} (ht : t.eval args s none [] s = some (.ref a)) (A : Arr s s.heap a cl ty) (h : (Term.length t).eval args s none [] s = some (.int z)) : cl.slots.size < 2 ^ 31 ∧ cl.slots.size.toInt32 = z := by
  have hl : cl.slots.size < 2 ^ 31 := Jvm.Free.SBG.length_lt ht (A.fin (Vm.Alike.refl _)) h
  exact ⟨hl, Value.int.inj (Option.some.inj ((len_f ht (A.fin (Vm.Alike.refl _)) hl).symm.trans h))⟩
theorem own_elem {s : State} {args : Array Value} {t u : Term} {a w : Addr} {cl : Cell} {ty : FieldType} {j : Int32} (ht : t.eval args s none [] s = some (.ref a)) (hu : u.eval args s none [] s = some (.ref w)) (A : Arr s s.heap a cl ty) (h : (Cond.eq (.elem t (.int j)) u).value args s none s [] = some true) : cl.slots[j.toNatClampNeg]? = some (.ref w) := by
  obtain ⟨x, y, e1, e2, k1, k2⟩ := cmp_v (Or.inl h)
  cases hu.symm.trans e2
  have hx : x.isRef = true := k2.2
  have e := gotT (eq_R e1 e2 hx rfl) h
  rw [e] at e1
  exact (elem_in e1 ht (Term.int_eval j) A.1).2
theorem own_up (cs : List Int32) (h : ∀ c ∈ cs, ¬ c < 0 ∧ ¬ (255 : Int32) < c) : ∀ c ∈ cs, ¬ c < 0 ∧ ¬ (65535 : Int32) < c := fun c hc => by
  obtain ⟨h1, h2⟩ := h c hc
  refine ⟨h1, fun q => h2 ?_⟩
  rw [Int32.lt_iff_toInt_lt, show (65535 : Int32).toInt = 65535 from by decide] at q
  rw [Int32.lt_iff_toInt_lt, show (255 : Int32).toInt = 255 from by decide]
  omega
/-- the place of a sign of US-ASCII, as the table holds it -/
def own_pl (j : Int32) : Int32 := if j < 45 then -1 else if j = 45 then 0 else if j < 48 then -1 else if j < 58 then j - 47 else if j < 65 then -1 else if j < 91 then j - 54 else if j < 95 then -1 else if j = 95 then 37 else if j = 96 then -1 else if j < 123 then j - 59 else -1
def own_PL (Z : State) (a : Addr) (cl : Cell) : Prop := Arr Z Z.heap a cl .byte ∧ cl.slots.size = 128 ∧ ∀ j : Int32, ¬ (j < 0 ∨ cl.slots.size ≤ j.toNatClampNeg) → cl.slots[j.toNatClampNeg]? = some (.int (own_pl j))
theorem own_plin {cl : Cell} {j : Int32} (hs : cl.slots.size = 128) (h0 : ¬ j < 0) (h1 : j < (128 : Int32)) : ¬ (j < 0 ∨ cl.slots.size ≤ j.toNatClampNeg) := by
  rw [Int32.lt_iff_toInt_lt, show (128 : Int32).toInt = 128 from by decide] at h1
  rintro (q | q)
  · exact h0 q
  · rw [hs] at q
    have q2 : 128 ≤ j.toInt.toNat := q
    omega
theorem own_mem (cs : List Int32) (h : cs.length = 22) (i : Nat) (hi : i < 22) : cs.getD i 0 ∈ cs := by
  rw [List.getD_eq_getElem?_getD, List.getElem?_eq_getElem (by omega)]
  exact List.getElem_mem _
theorem own_two {j : Int32} (c1 : ¬ j < 45) (c2 : ¬ j = 45) (c3 : j < 48) : j = 46 ∨ j = 47 := by
  rw [Int32.lt_iff_toInt_lt, show (45 : Int32).toInt = 45 from by decide] at c1
  rw [Int32.lt_iff_toInt_lt, show (48 : Int32).toInt = 48 from by decide] at c3
  rw [← Int32.toInt_inj, show (45 : Int32).toInt = 45 from by decide] at c2
  rw [← Int32.toInt_inj, ← Int32.toInt_inj, show (46 : Int32).toInt = 46 from by decide, show (47 : Int32).toInt = 47 from by decide]
  omega
theorem own_ge97 {j : Int32} (c1 : ¬ j < 95) (c2 : ¬ j = 95) (c3 : ¬ j = 96) : ¬ j < 97 := by
  rw [Int32.lt_iff_toInt_lt, show (95 : Int32).toInt = 95 from by decide] at c1
  rw [← Int32.toInt_inj, show (95 : Int32).toInt = 95 from by decide] at c2
  rw [← Int32.toInt_inj, show (96 : Int32).toInt = 96 from by decide] at c3
  rw [Int32.lt_iff_toInt_lt, show (97 : Int32).toInt = 97 from by decide]
  omega

theorem own_or {s : State} {args : Array Value} {idx : List Nat} {G X : Jvm.Cond} {P : Prop} [Decidable P] (hG : G.value args s none s idx = some (decide P)) (hn : ¬ P) (h : (Jvm.Cond.or G X).value args s none s idx = some true) : X.value args s none s idx = some true := by
  rwa [Jvm.Cond.or_of_right (by rw [hG, decide_eq_false hn])] at h
theorem own_places {s : State} {args : Array Value} (hw : ∀ d ∈ tables_1, d.before args s = true) (hn : narrow_1.value args s none s [] = some true) : ∃ (wPL : Addr) (cPL : Cell), Sta s s.heap "com/example/vacant_errand/vacanterrand/PackedId" "PLACES" "[B" (.ref wPL) ∧ own_PL s wPL cPL := by
  obtain ⟨hn1a, hn1b⟩ := and_e hn
  obtain ⟨hn2a, hn2b⟩ := and_e hn1b
  obtain ⟨hn3a, hn3b⟩ := and_e hn2b
  obtain ⟨hn4a, hn4b⟩ := and_e hn3b
  obtain ⟨hn5a, hn5b⟩ := and_e hn4b
  obtain ⟨hn6a, hn6b⟩ := and_e hn5b
  obtain ⟨hn7a, hn7b⟩ := and_e hn6b
  obtain ⟨hn8a, hn8b⟩ := and_e hn7b
  obtain ⟨hn9a, hn9b⟩ := and_e hn8b
  obtain ⟨hn10a, hn10b⟩ := and_e hn9b
  obtain ⟨hn11a, hn11b⟩ := and_e hn10b
  obtain ⟨hn12a, hn12b⟩ := and_e hn11b
  obtain ⟨hn13a, hn13b⟩ := and_e hn12b
  obtain ⟨wPL, ev⟩ := arr_v hn1a
  obtain ⟨cPL, A⟩ := Arr.start ev hn1a
  obtain ⟨l1, l2⟩ := own_len ev A (eqv_i (Term.int_eval (128)) hn2a)
  have hsz : cPL.slots.size = 128 := by
    have q := len_toInt l1
    rw [l2, show (128 : Int32).toInt = 128 from by decide] at q
    omega
  refine ⟨wPL, cPL, Sta.start ev (Or.inr ⟨(hw _ (List.mem_of_getElem? (i := 44) rfl)), (hw _ (List.mem_of_getElem? (i := 72) rfl))⟩), A, hsz, fun j hj => ?_⟩
  have nn : ¬ j < 0 := fun x => hj (Or.inl x)
  have lt : j.toNatClampNeg < cPL.slots.size := Nat.lt_of_not_le fun x => hj (Or.inr x)
  have at_ : ∀ {v : Value}, (Term.elem (Jvm.Term.static "com/example/vacant_errand/vacanterrand/PackedId" "PLACES" "[B") (.index 0)).eval args s none [j.toNatClampNeg] s = some v → cPL.slots[j.toNatClampNeg]? = some v := fun e => (elem_in e (show ((Jvm.Term.static "com/example/vacant_errand/vacanterrand/PackedId" "PLACES" "[B") : Term).eval args s none [j.toNatClampNeg] s = some (.ref wPL) from ev) (idx_at nn) A.1).2
  have al : ∀ {G : Jvm.Cond}, (Jvm.Cond.all (Jvm.Term.static "com/example/vacant_errand/vacanterrand/PackedId" "PLACES" "[B") G).value args s none s [] = some true → G.value args s none s [j.toNatClampNeg] = some true := fun h => Jvm.Cond.all_elim ev (A.fin (Vm.Alike.refl _)) h _ lt
  have el : ∀ {k v : Int32}, (Jvm.Cond.eq (.elem (Jvm.Term.static "com/example/vacant_errand/vacanterrand/PackedId" "PLACES" "[B") (.int k)) (.int v)).value args s none s [] = some true → j = k → cPL.slots[j.toNatClampNeg]? = some (.int v) := fun h q => by
    have e := eqv_i (Term.int_eval _) h
    rw [q]
    exact (elem_in e ev (Term.int_eval _) A.1).2
  unfold own_pl
  have sm : ∀ k : Int32, j < k → ¬ k ≤ j := fun k q w => absurd (Int32.lt_of_lt_of_le q w) Int32.lt_irrefl
  by_cases c1 : j < 45
  · rw [if_pos c1]; exact at_ (eqv_i (Term.int_eval (-1)) (own_or (Cond.le_ints (Term.int_eval (45)) (idx_at nn)) (sm _ c1) (al hn3a)))
  rw [if_neg c1]
  by_cases c2 : j = 45
  · rw [if_pos c2]; exact el hn4a c2
  rw [if_neg c2]
  by_cases c3 : j < 48
  · rw [if_pos c3]
    have e : j = 46 ∨ j = 47 := own_two c1 c2 c3
    rcases e with e | e
    · exact el hn5a e
    · exact el hn6a e
  rw [if_neg c3]
  by_cases c4 : j < 58
  · rw [if_pos c4]; exact at_ (eqv_i (Term.sub_int (idx_at nn) (Term.int_eval (47))) (own_or (Cond.le_ints (Term.int_eval (58)) (idx_at nn)) (sm _ c4) (own_or (Cond.lt_ints (idx_at nn) (Term.int_eval (48))) c3 (al hn7a))))
  rw [if_neg c4]
  by_cases c5 : j < 65
  · rw [if_pos c5]; exact at_ (eqv_i (Term.int_eval (-1)) (own_or (Cond.le_ints (Term.int_eval (65)) (idx_at nn)) (sm _ c5) (own_or (Cond.lt_ints (idx_at nn) (Term.int_eval (58))) c4 (al hn8a))))
  rw [if_neg c5]
  by_cases c6 : j < 91
  · rw [if_pos c6]; exact at_ (eqv_i (Term.sub_int (idx_at nn) (Term.int_eval (54))) (own_or (Cond.le_ints (Term.int_eval (91)) (idx_at nn)) (sm _ c6) (own_or (Cond.lt_ints (idx_at nn) (Term.int_eval (65))) c5 (al hn9a))))
  rw [if_neg c6]
  by_cases c7 : j < 95
  · rw [if_pos c7]; exact at_ (eqv_i (Term.int_eval (-1)) (own_or (Cond.le_ints (Term.int_eval (95)) (idx_at nn)) (sm _ c7) (own_or (Cond.lt_ints (idx_at nn) (Term.int_eval (91))) c6 (al hn10a))))
  rw [if_neg c7]
  by_cases c8 : j = 95
  · rw [if_pos c8]; exact el hn11a c8
  rw [if_neg c8]
  by_cases c9 : j = 96
  · rw [if_pos c9]; exact el hn12a c9
  rw [if_neg c9]
  have d97 : ¬ j < 97 := own_ge97 c7 c8 c9
  by_cases c10 : j < 123
  · rw [if_pos c10]; exact at_ (eqv_i (Term.sub_int (idx_at nn) (Term.int_eval (59))) (own_or (Cond.le_ints (Term.int_eval (123)) (idx_at nn)) (sm _ c10) (own_or (Cond.lt_ints (idx_at nn) (Term.int_eval (97))) d97 (al hn13a))))
  rw [if_neg c10]
  exact at_ (eqv_i (Term.int_eval (-1)) (own_or (Cond.lt_ints (idx_at nn) (Term.int_eval (123))) c10 (al hn13b)))
theorem d16_0 : decode prog_5_method_8_code 0 = .ok (.iload_n 0, 1) := by decide +kernel
theorem d16_1 : decode prog_5_method_8_code 1 = .ok (.getstatic 46, 3) := by decide +kernel
theorem d16_4 : decode prog_5_method_8_code 4 = .ok (.arraylength, 1) := by decide +kernel
theorem d16_5 : decode prog_5_method_8_code 5 = .ok (.if_icmp .ge 11, 3) := by decide +kernel
theorem d16_8 : decode prog_5_method_8_code 8 = .ok (.getstatic 46, 3) := by decide +kernel
theorem d16_11 : decode prog_5_method_8_code 11 = .ok (.iload_n 0, 1) := by decide +kernel
theorem d16_12 : decode prog_5_method_8_code 12 = .ok (.baload, 1) := by decide +kernel
theorem d16_13 : decode prog_5_method_8_code 13 = .ok (.goto 4, 3) := by decide +kernel
theorem d16_16 : decode prog_5_method_8_code 16 = .ok (.iconst (-1), 1) := by decide +kernel
theorem d16_17 : decode prog_5_method_8_code 17 = .ok (.ireturn, 1) := by decide +kernel
theorem pn_com_example_vacant_errand_vacanterrand_PackedId : plainName "com/example/vacant_errand/vacanterrand/PackedId" = true := by first | (simp [plainName, overriddenIn]; done) | decide +kernel
def own_F16 (p16_0 : Int32) : Int32 := (if p16_0 < (128 : Int32) then (own_pl p16_0) else (-1 : Int32))
theorem own_ef16 (m : MethodId) (x0 : Int32) : entryFrame m #[(.int x0)] 1 = mkF m 0 #[.val (.int x0)] [] := by first | (simp [entryFrame, mkF, argsToLocals, Value.category]; done) | rfl
def own_Q16 (r : Int32) (h0 : Heap) (n0 : Nat) (v : Option Value) (h : Heap) (L : List Loc) : Prop := v = some (.int r) ∧ Fr n0 L ∧ h = h0
set_option maxRecDepth 65536 in
set_option maxHeartbeats 40000000 in
theorem own_rm16 (l : Launch) (Z : State) (a0 : Array Value) (hw : ∀ d ∈ tables_1, d.before a0 Z = true) (ws : List Jvm.Cond) (p16_0 : Int32) (wPL : Addr) (cPL : Cell) (h0 : Heap) (n0 : Nat) (Z0 : n0 ≤ h0.size) (O0 : Old Z n0 h0) (HC : ¬ p16_0 < 0) (SPL : Sta Z Z.heap "com/example/vacant_errand/vacanterrand/PackedId" "PLACES" "[B" (.ref wPL)) (TPL : own_PL Z wPL cPL) :
    MetFree l (⟨"com/example/vacant_errand/vacanterrand/PackedId", "place", "(C)I"⟩ : MethodName) (head1 (Jvm.Cond.code (⟨"com/example/vacant_errand/vacanterrand/PackedId", "place", "(C)I"⟩ : MethodName) prog_5_method_8_code 1 (some .int) :: ws) ({ frames := 0, cells := 0, slots := 0, locals := 0 } : Room)) (fun a U => a = #[(.int p16_0)] ∧ Z.Warmed39 U.vm ∧ U.heap = h0) (fun _ _ _ _ _ => True) (fun _ U o U' => ∃ v L, o = .returned v ∧ own_Q16 (own_F16 p16_0) h0 n0 v U'.heap L ∧ FrameEnd U o U' L ({ frames := 0, cells := 0, slots := 0, locals := 0 } : Room).cells ({ frames := 0, cells := 0, slots := 0, locals := 0 } : Room).slots) := by
  refine MetFree.of_bodySF (plainFor_of_name pn_com_example_vacant_errand_vacanterrand_PackedId) hisR ?_
  intro p e s m args below meth c s₁ Bd hml0 hP hK
  obtain ⟨rfl, hZ, hh⟩ := hP
  have hx := Bd.exec
  have hby := Bd.bytes
  have hlk : meth.locks = false := BodyLoose.notSynchronized Bd
  have hml : c.maxLocals = 1 := hml0
  have hown : s.vm.findClass "com/example/vacant_errand/vacanterrand/PackedId" = some m.cls := findClass_of_methodNamed Bd.named
  have hnm := (name_of_methodNamed Bd.named Bd.method).1
  have X0 : Stand p l e ({ frames := 0, cells := 0, slots := 0, locals := 0 } : Room) s m #[(.int p16_0)] below meth c s₁ [] 0 0 := Stand.of_body Bd
  have e0 : s₁.heap = h0 := by rw [← hh, Bd.state]; rfl
  have N0 := Fr.nil n0
  show own_Go p e below (own_P s below ({ frames := 0, cells := 0, slots := 0, locals := 0 } : Room) (own_Q16 (own_F16 p16_0) h0 n0)) s₁ (entryFrame m #[(.int p16_0)] 1)
  refine own_in (own_ef16 m p16_0) ?_
  refine own_by (T' := s₁) (g' := (mkF m 1 #[.val (.int p16_0)] [(.int p16_0)])) (fun t k => ?_) ?_
  · show Steps p.tables e below (s₁.setTop (mkF m 0 #[.val (.int p16_0)] [])) t
    refine XS.iloadN X0.here hx rfl (hb hby d16_0) rfl ?_
    show Steps p.tables e below (s₁.setTop (mkF m 1 #[.val (.int p16_0)] [(.int p16_0)])) t
    exact k
  obtain ⟨T1, X1, e1, st1⟩ := getS2 X0 hx hZ hown (host := "") (Or.inl (hw _ (List.mem_of_getElem? (i := 71) rfl))) Via.refl e0 (SPL.ext O0.2) (g := (mkF m 1 #[.val (.int p16_0)] [(.int p16_0)])) rfl (hb hby d16_1)
  refine own_by (T' := T1) (g' := (mkF m 4 #[.val (.int p16_0)] [(.ref wPL), (.int p16_0)])) st1 ?_
  refine own_by (T' := T1) (g' := (mkF m 5 #[.val (.int p16_0)] [(.int (128 : Int32)), (.int p16_0)])) (fun t k => X1.arraylength hx (by rw [e1]; exact (TPL.1.ext O0.2).1) (State.isArrayOf_alike hZ.alike TPL.1.2.1) (g := (mkF m 4 #[.val (.int p16_0)] [(.ref wPL), (.int p16_0)])) rfl rfl (hb hby d16_4) t (by rw [TPL.2.1]; exact k)) ?_
  by_cases hc2 : p16_0 < (128 : Int32)
  · skip
    refine own_by (T' := T1) (g' := (mkF m 8 #[.val (.int p16_0)] [])) (fun t k => ?_) ?_
    · show Steps p.tables e below (T1.setTop (mkF m 5 #[.val (.int p16_0)] [(.int (128 : Int32)), (.int p16_0)])) t
      refine XS.icmpNo X1.here hx rfl (hb hby d16_5) rfl (tlt hc2).2.1 ?_
      show Steps p.tables e below (T1.setTop (mkF m 8 #[.val (.int p16_0)] [])) t
      exact k
    obtain ⟨T5, X5, e5, st5⟩ := getS2 X1 hx hZ hown (host := "") (Or.inl (hw _ (List.mem_of_getElem? (i := 71) rfl))) Via.refl e1 (SPL.ext O0.2) (g := (mkF m 8 #[.val (.int p16_0)] [])) rfl (hb hby d16_8)
    refine own_by (T' := T5) (g' := (mkF m 11 #[.val (.int p16_0)] [(.ref wPL)])) st5 ?_
    refine own_by (T' := T5) (g' := (mkF m 12 #[.val (.int p16_0)] [(.int p16_0), (.ref wPL)])) (fun t k => ?_) ?_
    · show Steps p.tables e below (T5.setTop (mkF m 11 #[.val (.int p16_0)] [(.ref wPL)])) t
      refine XS.iloadN X5.here hx rfl (hb hby d16_11) rfl ?_
      show Steps p.tables e below (T5.setTop (mkF m 12 #[.val (.int p16_0)] [(.int p16_0), (.ref wPL)])) t
      exact k
    have hin6 : ¬ (p16_0 < 0 ∨ cPL.slots.size ≤ (p16_0).toNatClampNeg) := own_plin TPL.2.1 HC hc2
    refine own_by (T' := T5) (g' := (mkF m 13 #[.val (.int p16_0)] [(.int (own_pl p16_0))])) (fun t k => X5.baloadBytes hx (j := p16_0) (v := (.int (own_pl p16_0))) (by rw [e5]; exact (TPL.1.ext O0.2).1) (State.isArrayOf_alike hZ.alike TPL.1.2.1) TPL.1.2.2 hin6 (TPL.2.2 _ hin6) (g := (mkF m 12 #[.val (.int p16_0)] [(.int p16_0), (.ref wPL)])) rfl rfl (hb hby d16_12) t k) ?_
    refine own_by (T' := T5) (g' := (mkF m 17 #[.val (.int p16_0)] [(.int (own_pl p16_0))])) (fun t k => ?_) ?_
    · show Steps p.tables e below (T5.setTop (mkF m 13 #[.val (.int p16_0)] [(.int (own_pl p16_0))])) t
      refine XS.goto X5.here hx rfl (pc0 := 13) (pc' := 17) rfl (hb hby d16_13) (by decide) (by decide) ?_
      show Steps p.tables e below (T5.setTop (mkF m 17 #[.val (.int p16_0)] [(.int (own_pl p16_0))])) t
      exact k
    rw [show own_F16 p16_0 = (own_pl p16_0) from ((if_pos hc2).trans rfl)]
    exact own_retI X5 hx Bd.returns (hb hby d16_17) hlk (by decide) (by decide) ⟨rfl, N0, e5⟩
  · skip
    refine own_by (T' := T1) (g' := (mkF m 17 #[.val (.int p16_0)] [(.int (-1 : Int32))])) (fun t k => ?_) ?_
    · show Steps p.tables e below (T1.setTop (mkF m 5 #[.val (.int p16_0)] [(.int (128 : Int32)), (.int p16_0)])) t
      refine XS.icmpYes X1.here hx rfl (pc0 := 5) (pc' := 16) rfl (hb hby d16_5) rfl (flt hc2).2.1 (by decide) (by decide) ?_
      show Steps p.tables e below (T1.setTop (mkF m 16 #[.val (.int p16_0)] [])) t
      refine XS.iconst X1.here hx rfl (hb hby d16_16) ?_
      show Steps p.tables e below (T1.setTop (mkF m 17 #[.val (.int p16_0)] [(.int (-1 : Int32))])) t
      exact k
    rw [show own_F16 p16_0 = (-1 : Int32) from ((if_neg hc2).trans rfl)]
    exact own_retI X1 hx Bd.returns (hb hby d16_17) hlk (by decide) (by decide) ⟨rfl, N0, e1⟩
theorem d10_0 : decode prog_5_method_3_code 0 = .ok (.lconst 0, 1) := by decide +kernel
theorem d10_1 : decode prog_5_method_3_code 1 = .ok (.lstore_n 1, 1) := by decide +kernel
theorem d10_2 : decode prog_5_method_3_code 2 = .ok (.iconst 0, 1) := by decide +kernel
theorem d10_3 : decode prog_5_method_3_code 3 = .ok (.istore_n 3, 1) := by decide +kernel
theorem d10_4 : decode prog_5_method_3_code 4 = .ok (.iload_n 3, 1) := by decide +kernel
theorem d10_5 : decode prog_5_method_3_code 5 = .ok (.bipush 10, 2) := by decide +kernel
theorem d10_7 : decode prog_5_method_3_code 7 = .ok (.if_icmp .ge 24, 3) := by decide +kernel
theorem d10_10 : decode prog_5_method_3_code 10 = .ok (.lload_n 1, 1) := by decide +kernel
theorem d10_11 : decode prog_5_method_3_code 11 = .ok (.bipush 6, 2) := by decide +kernel
theorem d10_13 : decode prog_5_method_3_code 13 = .ok (.lshl, 1) := by decide +kernel
theorem d10_14 : decode prog_5_method_3_code 14 = .ok (.aload_n 0, 1) := by decide +kernel
theorem d10_15 : decode prog_5_method_3_code 15 = .ok (.iload_n 3, 1) := by decide +kernel
theorem d10_16 : decode prog_5_method_3_code 16 = .ok (.invokevirtual 17, 3) := by decide +kernel
theorem pd__I_C : parseMethodDescriptor "(I)C" = some ⟨[.int], some .char⟩ := by decide +kernel
theorem d10_19 : decode prog_5_method_3_code 19 = .ok (.invokestatic 25, 3) := by decide +kernel
theorem pd__C_I : parseMethodDescriptor "(C)I" = some ⟨[.char], some .int⟩ := by decide +kernel
theorem d10_22 : decode prog_5_method_3_code 22 = .ok (.i2l, 1) := by decide +kernel
theorem d10_23 : decode prog_5_method_3_code 23 = .ok (.lor, 1) := by decide +kernel
theorem d10_24 : decode prog_5_method_3_code 24 = .ok (.lstore_n 1, 1) := by decide +kernel
theorem d10_25 : decode prog_5_method_3_code 25 = .ok (.iinc 3 1, 3) := by decide +kernel
theorem d10_28 : decode prog_5_method_3_code 28 = .ok (.goto (-24), 3) := by decide +kernel
theorem d10_31 : decode prog_5_method_3_code 31 = .ok (.lload_n 1, 1) := by decide +kernel
theorem d10_32 : decode prog_5_method_3_code 32 = .ok (.iconst 4, 1) := by decide +kernel
theorem d10_33 : decode prog_5_method_3_code 33 = .ok (.lshl, 1) := by decide +kernel
theorem d10_34 : decode prog_5_method_3_code 34 = .ok (.aload_n 0, 1) := by decide +kernel
theorem d10_35 : decode prog_5_method_3_code 35 = .ok (.bipush 10, 2) := by decide +kernel
theorem d10_37 : decode prog_5_method_3_code 37 = .ok (.invokevirtual 17, 3) := by decide +kernel
theorem d10_40 : decode prog_5_method_3_code 40 = .ok (.invokestatic 25, 3) := by decide +kernel
theorem d10_43 : decode prog_5_method_3_code 43 = .ok (.iconst 2, 1) := by decide +kernel
theorem d10_44 : decode prog_5_method_3_code 44 = .ok (.iushr, 1) := by decide +kernel
theorem d10_45 : decode prog_5_method_3_code 45 = .ok (.i2l, 1) := by decide +kernel
theorem d10_46 : decode prog_5_method_3_code 46 = .ok (.lor, 1) := by decide +kernel
theorem d10_47 : decode prog_5_method_3_code 47 = .ok (.lreturn, 1) := by decide +kernel
def own_F10 (cs10 : List Int32) : Int64 := (((((((((((((((((((((((0 : Int64) <<< ((6 : Int32) &&& 0x3f).toInt64) ||| ((own_F16 (cs10.getD 0 0)).toInt64)) <<< ((6 : Int32) &&& 0x3f).toInt64) ||| ((own_F16 (cs10.getD 1 0)).toInt64)) <<< ((6 : Int32) &&& 0x3f).toInt64) ||| ((own_F16 (cs10.getD 2 0)).toInt64)) <<< ((6 : Int32) &&& 0x3f).toInt64) ||| ((own_F16 (cs10.getD 3 0)).toInt64)) <<< ((6 : Int32) &&& 0x3f).toInt64) ||| ((own_F16 (cs10.getD 4 0)).toInt64)) <<< ((6 : Int32) &&& 0x3f).toInt64) ||| ((own_F16 (cs10.getD 5 0)).toInt64)) <<< ((6 : Int32) &&& 0x3f).toInt64) ||| ((own_F16 (cs10.getD 6 0)).toInt64)) <<< ((6 : Int32) &&& 0x3f).toInt64) ||| ((own_F16 (cs10.getD 7 0)).toInt64)) <<< ((6 : Int32) &&& 0x3f).toInt64) ||| ((own_F16 (cs10.getD 8 0)).toInt64)) <<< ((6 : Int32) &&& 0x3f).toInt64) ||| ((own_F16 (cs10.getD 9 0)).toInt64)) <<< ((4 : Int32) &&& 0x3f).toInt64) ||| ((((own_F16 (cs10.getD 10 0)).toUInt32 >>> ((2 : Int32) &&& 31).toUInt32).toInt32).toInt64))
theorem own_ef10 (m : MethodId) (x0 : Addr) : entryFrame m #[(.ref x0)] 4 = mkF m 0 #[.val (.ref x0), .unset, .unset, .unset] [] := by first | (simp [entryFrame, mkF, argsToLocals, Value.category]; done) | rfl
def own_Q10 (r : Int64) (h0 : Heap) (n0 : Nat) (v : Option Value) (h : Heap) (L : List Loc) : Prop := v = some (.long r) ∧ Fr n0 L ∧ h = h0
set_option maxRecDepth 65536 in
set_option maxHeartbeats 40000000 in
theorem own_rm10 (l : Launch) (Z : State) (a0 : Array Value) (hw : ∀ d ∈ tables_1, d.before a0 Z = true) (ws : List Jvm.Cond) (a10_0 : Addr) (cs10 : List Int32) (t10 : Addr) (kb10 : ClassId) (cs : Int32) (fm : Value) (wPL : Addr) (cPL : Cell) (h0 : Heap) (n0 : Nat) (Z0 : n0 ≤ h0.size) (O0 : Old Z n0 h0) (E10 : Exa Z h0 a10_0 "java/lang/String") (V10 : Fld Z h0 a10_0 "java/lang/String" "value" "[B" (.ref t10)) (C10 : Fld Z h0 a10_0 "java/lang/String" "coder" "B" (.int 0)) (K10 : Arv Z h0 t10 kb10 .byte (22 : Int32) ((cs10.map (fun c => c.toInt8.toInt32)).map Value.int) (.int 0)) (HL10 : cs10.length = 22) (HP10 : ∀ c ∈ cs10, ¬ c < 0 ∧ ¬ (255 : Int32) < c) (SC : Sta Z Z.heap "java/lang/String" "COMPACT_STRINGS" "Z" (.int cs)) (HCS : ¬ (cs = (0 : Int32))) (SFm : Sta Z Z.heap "jdk/internal/util/Preconditions" "SIOOBE_FORMATTER" "Ljava/util/function/BiFunction;" fm) (HFm : fm.isRef = true) (SPL : Sta Z Z.heap "com/example/vacant_errand/vacanterrand/PackedId" "PLACES" "[B" (.ref wPL)) (TPL : own_PL Z wPL cPL) :
    MetFree l (⟨"com/example/vacant_errand/vacanterrand/PackedId", "high", "(Ljava/lang/String;)J"⟩ : MethodName) (head1 (Jvm.Cond.code (⟨"com/example/vacant_errand/vacanterrand/PackedId", "high", "(Ljava/lang/String;)J"⟩ : MethodName) prog_5_method_3_code 4 (some .long) :: ws) ({ frames := 4, cells := 0, slots := 0, locals := 55 } : Room)) (fun a U => a = #[(.ref a10_0)] ∧ Z.Warmed39 U.vm ∧ U.heap = h0) (fun _ _ _ _ _ => True) (fun _ U o U' => ∃ v L, o = .returned v ∧ own_Q10 (own_F10 cs10) h0 n0 v U'.heap L ∧ FrameEnd U o U' L ({ frames := 4, cells := 0, slots := 0, locals := 55 } : Room).cells ({ frames := 4, cells := 0, slots := 0, locals := 55 } : Room).slots) := by
  refine MetFree.of_bodySF (plainFor_of_name pn_com_example_vacant_errand_vacanterrand_PackedId) hisR ?_
  intro p e s m args below meth c s₁ Bd hml0 hP hK
  obtain ⟨rfl, hZ, hh⟩ := hP
  have hx := Bd.exec
  have hby := Bd.bytes
  have hlk : meth.locks = false := BodyLoose.notSynchronized Bd
  have hml : c.maxLocals = 4 := hml0
  have hown : s.vm.findClass "com/example/vacant_errand/vacanterrand/PackedId" = some m.cls := findClass_of_methodNamed Bd.named
  have hnm := (name_of_methodNamed Bd.named Bd.method).1
  have X0 : Stand p l e ({ frames := 4, cells := 0, slots := 0, locals := 55 } : Room) s m #[(.ref a10_0)] below meth c s₁ [] 0 0 := Stand.of_body Bd
  have e0 : s₁.heap = h0 := by rw [← hh, Bd.state]; rfl
  have N0 := Fr.nil n0
  show own_Go p e below (own_P s below ({ frames := 4, cells := 0, slots := 0, locals := 55 } : Room) (own_Q10 (own_F10 cs10) h0 n0)) s₁ (entryFrame m #[(.ref a10_0)] 4)
  refine own_in (own_ef10 m a10_0) ?_
  refine own_by (T' := s₁) (g' := (mkF m 16 #[.val (.ref a10_0), .val (.long (0 : Int64)), .second, .val (.int (0 : Int32))] [(.int (0 : Int32)), (.ref a10_0), (.long ((0 : Int64) <<< ((6 : Int32) &&& 0x3f).toInt64))])) (fun t k => ?_) ?_
  · show Steps p.tables e below (s₁.setTop (mkF m 0 #[.val (.ref a10_0), .unset, .unset, .unset] [])) t
    refine XS.lconst X0.here hx rfl (hb hby d10_0) ?_
    show Steps p.tables e below (s₁.setTop (mkF m 1 #[.val (.ref a10_0), .unset, .unset, .unset] [(.long (0 : Int64))])) t
    refine XS.lstoreN X0.here hx rfl (hb hby d10_1) rfl (l' := #[.val (.ref a10_0), .val (.long (0 : Int64)), .second, .unset]) rfl ?_
    show Steps p.tables e below (s₁.setTop (mkF m 2 #[.val (.ref a10_0), .val (.long (0 : Int64)), .second, .unset] [])) t
    refine XS.iconst X0.here hx rfl (hb hby d10_2) ?_
    show Steps p.tables e below (s₁.setTop (mkF m 3 #[.val (.ref a10_0), .val (.long (0 : Int64)), .second, .unset] [(.int (0 : Int32))])) t
    refine XS.istoreN X0.here hx rfl (hb hby d10_3) rfl (l' := #[.val (.ref a10_0), .val (.long (0 : Int64)), .second, .val (.int (0 : Int32))]) rfl ?_
    show Steps p.tables e below (s₁.setTop (mkF m 4 #[.val (.ref a10_0), .val (.long (0 : Int64)), .second, .val (.int (0 : Int32))] [])) t
    refine XS.iloadN X0.here hx rfl (hb hby d10_4) rfl ?_
    show Steps p.tables e below (s₁.setTop (mkF m 5 #[.val (.ref a10_0), .val (.long (0 : Int64)), .second, .val (.int (0 : Int32))] [(.int (0 : Int32))])) t
    refine XS.bipush X0.here hx rfl (hb hby d10_5) ?_
    show Steps p.tables e below (s₁.setTop (mkF m 7 #[.val (.ref a10_0), .val (.long (0 : Int64)), .second, .val (.int (0 : Int32))] [(.int (10 : Int32)), (.int (0 : Int32))])) t
    refine XS.icmpNo X0.here hx rfl (hb hby d10_7) rfl (tlt (by decide : (0 : Int32) < (10 : Int32))).2.1 ?_
    show Steps p.tables e below (s₁.setTop (mkF m 10 #[.val (.ref a10_0), .val (.long (0 : Int64)), .second, .val (.int (0 : Int32))] [])) t
    refine XS.lloadN X0.here hx rfl (hb hby d10_10) rfl ?_
    show Steps p.tables e below (s₁.setTop (mkF m 11 #[.val (.ref a10_0), .val (.long (0 : Int64)), .second, .val (.int (0 : Int32))] [(.long (0 : Int64))])) t
    refine XS.bipush X0.here hx rfl (hb hby d10_11) ?_
    show Steps p.tables e below (s₁.setTop (mkF m 13 #[.val (.ref a10_0), .val (.long (0 : Int64)), .second, .val (.int (0 : Int32))] [(.int (6 : Int32)), (.long (0 : Int64))])) t
    refine XS.lshl X0.here hx rfl (hb hby d10_13) rfl ?_
    show Steps p.tables e below (s₁.setTop (mkF m 14 #[.val (.ref a10_0), .val (.long (0 : Int64)), .second, .val (.int (0 : Int32))] [(.long ((0 : Int64) <<< ((6 : Int32) &&& 0x3f).toInt64))])) t
    refine XS.aloadN X0.here hx rfl (hb hby d10_14) rfl rfl ?_
    show Steps p.tables e below (s₁.setTop (mkF m 15 #[.val (.ref a10_0), .val (.long (0 : Int64)), .second, .val (.int (0 : Int32))] [(.ref a10_0), (.long ((0 : Int64) <<< ((6 : Int32) &&& 0x3f).toInt64))])) t
    refine XS.iloadN X0.here hx rfl (hb hby d10_15) rfl ?_
    show Steps p.tables e below (s₁.setTop (mkF m 16 #[.val (.ref a10_0), .val (.long (0 : Int64)), .second, .val (.int (0 : Int32))] [(.int (0 : Int32)), (.ref a10_0), (.long ((0 : Int64) <<< ((6 : Int32) &&& 0x3f).toInt64))])) t
    exact k
  have hch7 : ∀ d ∈ StrChars.Road.wordsChN, d.before a0 Z = true := fun d hd => hw d ((by decide +kernel : ∀ d ∈ StrChars.Road.wordsChN, d ∈ tables_1) d hd)
  have hcd7 : StrChars.Road.CodA cs10 0 (22 : Int32) ((cs10.map (fun c => c.toInt8.toInt32)).map Value.int) := StrChars.Road.codOf (n := 22) HL10 (fun x hx => (HP10 x hx).2)
  obtain ⟨cq7, kq7, q7a, q7b, q7c⟩ := isOf hZ e0 E10
  obtain ⟨v7, _, ⟨T7, L7, k7, n7⟩, -, X7, ⟨Lc7, hQ7, l7, y7, z7⟩, st7⟩ := X0.virtualBack hx (y := (⟨"java/lang/String", "charAt", "(I)C"⟩ : MethodName)) (z := (⟨"java/lang/String", "charAt", "(I)C"⟩ : MethodName)) hown (mvT hZ (hw _ (List.mem_of_getElem? (i := 46) rfl))) (mvT hZ (hw _ (List.mem_of_getElem? (i := 47) rfl))) (notFace_of_selects (args := #[]) (mvT hZ (hw _ (List.mem_of_getElem? (i := 49) rfl)))) (mvT hZ (hw _ (List.mem_of_getElem? (i := 49) rfl))) (mvT hZ (hw _ (List.mem_of_getElem? (i := 48) rfl))) (by decide) (StrChars.Road.chN (W := 2) hZ hch7 (kI := 4) (hw _ (List.mem_of_getElem? (i := 14) rfl)) E10 V10 C10 K10 hcd7 (own_up _ HP10) (SC.ext O0.2) HCS (SFm.ext O0.2) HFm (by rw [HL10]; decide) (i := 0) (by rw [HL10]; decide) (j := (0 : Int32)) rfl (by decide) (by decide)) q7a q7c (g := (mkF m 16 #[.val (.ref a10_0), .val (.long (0 : Int64)), .second, .val (.int (0 : Int32))] [(.int (0 : Int32)), (.ref a10_0), (.long ((0 : Int64) <<< ((6 : Int32) &&& 0x3f).toInt64))])) rfl (by rw [hml]; rfl) (Steps.refl _) (argsL := [(.int (0 : Int32))]) (rest := [(.long ((0 : Int64) <<< ((6 : Int32) &&& 0x3f).toInt64))]) (lenOf pd__I_C rfl) rfl (by show 2 * 0 + _ ≤ _; exact Nat.le_of_eq rfl) (hb hby d10_16) (fun _ _ => ⟨rfl, e0, (by decide : 0 + 0 ≤ _), (by decide : 0 + 0 ≤ _)⟩)
  dsimp only [Pt.U, Pt.locs, Pt.cells, Pt.slots] at X7 l7 y7 z7 st7 hQ7
  subst y7 z7
  obtain ⟨rfl, rfl, e7⟩ := hQ7
  have N8 : Fr n0 L7 := by rw [l7]; exact Fr.app N0 (Fr.nil n0)
  refine own_via (T' := T7) (g' := (mkF m 19 #[.val (.ref a10_0), .val (.long (0 : Int64)), .second, .val (.int (0 : Int32))] [(.int (cs10.getD 0 0)), (.long ((0 : Int64) <<< ((6 : Int32) &&& 0x3f).toInt64))])) st7 ?_
  obtain ⟨v9, _, ⟨T9, L9, k9, n9⟩, -, X9, ⟨Lc9, hQ9, l9, y9, z9⟩, st9⟩ := Jvm.LawKit.callS X7 hx (y := (⟨"com/example/vacant_errand/vacanterrand/PackedId", "place", "(C)I"⟩ : MethodName)) hown (mvT hZ (hw _ (List.mem_of_getElem? (i := 68) rfl))) (mvT hZ (hw _ (List.mem_of_getElem? (i := 69) rfl))) (mvT hZ (hw _ (List.mem_of_getElem? (i := 44) rfl))) (mvT hZ (hw _ (List.mem_of_getElem? (i := 70) rfl))) (by decide) (backOf (W := 2) (own_rm16 l Z a0 hw [] (cs10.getD 0 0) wPL cPL h0 n0 Z0 O0 (HP10 _ (own_mem cs10 HL10 0 (by decide))).1 SPL TPL) hZ (hw _ (List.mem_of_getElem? (i := 70) rfl)) (hw _ (List.mem_of_getElem? (i := 44) rfl)) (by decide) (by decide)) (g := (mkF m 19 #[.val (.ref a10_0), .val (.long (0 : Int64)), .second, .val (.int (0 : Int32))] [(.int (cs10.getD 0 0)), (.long ((0 : Int64) <<< ((6 : Int32) &&& 0x3f).toInt64))])) rfl (by rw [hml]; rfl) (argsL := [(.int (cs10.getD 0 0))]) (rest := [(.long ((0 : Int64) <<< ((6 : Int32) &&& 0x3f).toInt64))]) (lenOf pd__C_I rfl) rfl (by show 2 * 0 + _ ≤ _; exact Nat.le_of_eq rfl) (hb hby d10_19) (fun _ _ => ⟨rfl, e7, (by decide : 0 + 0 ≤ _), (by decide : 0 + 0 ≤ _)⟩)
  dsimp only [Pt.U, Pt.locs, Pt.cells, Pt.slots] at X9 l9 y9 z9 st9 hQ9
  subst y9 z9
  obtain ⟨rfl, M9, e9⟩ := hQ9
  have N10 : Fr n0 L9 := by rw [l9]; exact Fr.app N8 M9
  refine own_by (T' := T9) (g' := (mkF m 22 #[.val (.ref a10_0), .val (.long (0 : Int64)), .second, .val (.int (0 : Int32))] [(.int (own_F16 (cs10.getD 0 0))), (.long ((0 : Int64) <<< ((6 : Int32) &&& 0x3f).toInt64))])) st9 ?_
  refine own_by (T' := T9) (g' := (mkF m 16 #[.val (.ref a10_0), .val (.long (((0 : Int64) <<< ((6 : Int32) &&& 0x3f).toInt64) ||| ((own_F16 (cs10.getD 0 0)).toInt64))), .second, .val (.int (1 : Int32))] [(.int (1 : Int32)), (.ref a10_0), (.long ((((0 : Int64) <<< ((6 : Int32) &&& 0x3f).toInt64) ||| ((own_F16 (cs10.getD 0 0)).toInt64)) <<< ((6 : Int32) &&& 0x3f).toInt64))])) (fun t k => ?_) ?_
  · show Steps p.tables e below (T9.setTop (mkF m 22 #[.val (.ref a10_0), .val (.long (0 : Int64)), .second, .val (.int (0 : Int32))] [(.int (own_F16 (cs10.getD 0 0))), (.long ((0 : Int64) <<< ((6 : Int32) &&& 0x3f).toInt64))])) t
    refine XS.i2l X9.here hx rfl (hb hby d10_22) rfl ?_
    show Steps p.tables e below (T9.setTop (mkF m 23 #[.val (.ref a10_0), .val (.long (0 : Int64)), .second, .val (.int (0 : Int32))] [(.long ((own_F16 (cs10.getD 0 0)).toInt64)), (.long ((0 : Int64) <<< ((6 : Int32) &&& 0x3f).toInt64))])) t
    refine XS.lor X9.here hx rfl (hb hby d10_23) rfl ?_
    show Steps p.tables e below (T9.setTop (mkF m 24 #[.val (.ref a10_0), .val (.long (0 : Int64)), .second, .val (.int (0 : Int32))] [(.long (((0 : Int64) <<< ((6 : Int32) &&& 0x3f).toInt64) ||| ((own_F16 (cs10.getD 0 0)).toInt64)))])) t
    refine XS.lstoreN X9.here hx rfl (hb hby d10_24) rfl (l' := #[.val (.ref a10_0), .val (.long (((0 : Int64) <<< ((6 : Int32) &&& 0x3f).toInt64) ||| ((own_F16 (cs10.getD 0 0)).toInt64))), .second, .val (.int (0 : Int32))]) rfl ?_
    show Steps p.tables e below (T9.setTop (mkF m 25 #[.val (.ref a10_0), .val (.long (((0 : Int64) <<< ((6 : Int32) &&& 0x3f).toInt64) ||| ((own_F16 (cs10.getD 0 0)).toInt64))), .second, .val (.int (0 : Int32))] [])) t
    refine XS.iinc X9.here hx rfl (hb hby d10_25) rfl (l' := #[.val (.ref a10_0), .val (.long (((0 : Int64) <<< ((6 : Int32) &&& 0x3f).toInt64) ||| ((own_F16 (cs10.getD 0 0)).toInt64))), .second, .val (.int (1 : Int32))]) rfl ?_
    show Steps p.tables e below (T9.setTop (mkF m 28 #[.val (.ref a10_0), .val (.long (((0 : Int64) <<< ((6 : Int32) &&& 0x3f).toInt64) ||| ((own_F16 (cs10.getD 0 0)).toInt64))), .second, .val (.int (1 : Int32))] [])) t
    refine XS.goto X9.here hx rfl (pc0 := 28) (pc' := 4) rfl (hb hby d10_28) (by decide) (by decide) ?_
    show Steps p.tables e below (T9.setTop (mkF m 4 #[.val (.ref a10_0), .val (.long (((0 : Int64) <<< ((6 : Int32) &&& 0x3f).toInt64) ||| ((own_F16 (cs10.getD 0 0)).toInt64))), .second, .val (.int (1 : Int32))] [])) t
    refine XS.iloadN X9.here hx rfl (hb hby d10_4) rfl ?_
    show Steps p.tables e below (T9.setTop (mkF m 5 #[.val (.ref a10_0), .val (.long (((0 : Int64) <<< ((6 : Int32) &&& 0x3f).toInt64) ||| ((own_F16 (cs10.getD 0 0)).toInt64))), .second, .val (.int (1 : Int32))] [(.int (1 : Int32))])) t
    refine XS.bipush X9.here hx rfl (hb hby d10_5) ?_
    show Steps p.tables e below (T9.setTop (mkF m 7 #[.val (.ref a10_0), .val (.long (((0 : Int64) <<< ((6 : Int32) &&& 0x3f).toInt64) ||| ((own_F16 (cs10.getD 0 0)).toInt64))), .second, .val (.int (1 : Int32))] [(.int (10 : Int32)), (.int (1 : Int32))])) t
    refine XS.icmpNo X9.here hx rfl (hb hby d10_7) rfl (tlt (by decide : (1 : Int32) < (10 : Int32))).2.1 ?_
    show Steps p.tables e below (T9.setTop (mkF m 10 #[.val (.ref a10_0), .val (.long (((0 : Int64) <<< ((6 : Int32) &&& 0x3f).toInt64) ||| ((own_F16 (cs10.getD 0 0)).toInt64))), .second, .val (.int (1 : Int32))] [])) t
    refine XS.lloadN X9.here hx rfl (hb hby d10_10) rfl ?_
    show Steps p.tables e below (T9.setTop (mkF m 11 #[.val (.ref a10_0), .val (.long (((0 : Int64) <<< ((6 : Int32) &&& 0x3f).toInt64) ||| ((own_F16 (cs10.getD 0 0)).toInt64))), .second, .val (.int (1 : Int32))] [(.long (((0 : Int64) <<< ((6 : Int32) &&& 0x3f).toInt64) ||| ((own_F16 (cs10.getD 0 0)).toInt64)))])) t
    refine XS.bipush X9.here hx rfl (hb hby d10_11) ?_
    show Steps p.tables e below (T9.setTop (mkF m 13 #[.val (.ref a10_0), .val (.long (((0 : Int64) <<< ((6 : Int32) &&& 0x3f).toInt64) ||| ((own_F16 (cs10.getD 0 0)).toInt64))), .second, .val (.int (1 : Int32))] [(.int (6 : Int32)), (.long (((0 : Int64) <<< ((6 : Int32) &&& 0x3f).toInt64) ||| ((own_F16 (cs10.getD 0 0)).toInt64)))])) t
    refine XS.lshl X9.here hx rfl (hb hby d10_13) rfl ?_
    show Steps p.tables e below (T9.setTop (mkF m 14 #[.val (.ref a10_0), .val (.long (((0 : Int64) <<< ((6 : Int32) &&& 0x3f).toInt64) ||| ((own_F16 (cs10.getD 0 0)).toInt64))), .second, .val (.int (1 : Int32))] [(.long ((((0 : Int64) <<< ((6 : Int32) &&& 0x3f).toInt64) ||| ((own_F16 (cs10.getD 0 0)).toInt64)) <<< ((6 : Int32) &&& 0x3f).toInt64))])) t
    refine XS.aloadN X9.here hx rfl (hb hby d10_14) rfl rfl ?_
    show Steps p.tables e below (T9.setTop (mkF m 15 #[.val (.ref a10_0), .val (.long (((0 : Int64) <<< ((6 : Int32) &&& 0x3f).toInt64) ||| ((own_F16 (cs10.getD 0 0)).toInt64))), .second, .val (.int (1 : Int32))] [(.ref a10_0), (.long ((((0 : Int64) <<< ((6 : Int32) &&& 0x3f).toInt64) ||| ((own_F16 (cs10.getD 0 0)).toInt64)) <<< ((6 : Int32) &&& 0x3f).toInt64))])) t
    refine XS.iloadN X9.here hx rfl (hb hby d10_15) rfl ?_
    show Steps p.tables e below (T9.setTop (mkF m 16 #[.val (.ref a10_0), .val (.long (((0 : Int64) <<< ((6 : Int32) &&& 0x3f).toInt64) ||| ((own_F16 (cs10.getD 0 0)).toInt64))), .second, .val (.int (1 : Int32))] [(.int (1 : Int32)), (.ref a10_0), (.long ((((0 : Int64) <<< ((6 : Int32) &&& 0x3f).toInt64) ||| ((own_F16 (cs10.getD 0 0)).toInt64)) <<< ((6 : Int32) &&& 0x3f).toInt64))])) t
    exact k
  have hch11 : ∀ d ∈ StrChars.Road.wordsChN, d.before a0 Z = true := fun d hd => hw d ((by decide +kernel : ∀ d ∈ StrChars.Road.wordsChN, d ∈ tables_1) d hd)
  have hcd11 : StrChars.Road.CodA cs10 0 (22 : Int32) ((cs10.map (fun c => c.toInt8.toInt32)).map Value.int) := StrChars.Road.codOf (n := 22) HL10 (fun x hx => (HP10 x hx).2)
  obtain ⟨cq11, kq11, q11a, q11b, q11c⟩ := isOf hZ e9 E10
  obtain ⟨v11, _, ⟨T11, L11, k11, n11⟩, -, X11, ⟨Lc11, hQ11, l11, y11, z11⟩, st11⟩ := X9.virtualBack hx (y := (⟨"java/lang/String", "charAt", "(I)C"⟩ : MethodName)) (z := (⟨"java/lang/String", "charAt", "(I)C"⟩ : MethodName)) hown (mvT hZ (hw _ (List.mem_of_getElem? (i := 46) rfl))) (mvT hZ (hw _ (List.mem_of_getElem? (i := 47) rfl))) (notFace_of_selects (args := #[]) (mvT hZ (hw _ (List.mem_of_getElem? (i := 49) rfl)))) (mvT hZ (hw _ (List.mem_of_getElem? (i := 49) rfl))) (mvT hZ (hw _ (List.mem_of_getElem? (i := 48) rfl))) (by decide) (StrChars.Road.chN (W := 2) hZ hch11 (kI := 4) (hw _ (List.mem_of_getElem? (i := 14) rfl)) E10 V10 C10 K10 hcd11 (own_up _ HP10) (SC.ext O0.2) HCS (SFm.ext O0.2) HFm (by rw [HL10]; decide) (i := 1) (by rw [HL10]; decide) (j := (1 : Int32)) rfl (by decide) (by decide)) q11a q11c (g := (mkF m 16 #[.val (.ref a10_0), .val (.long (((0 : Int64) <<< ((6 : Int32) &&& 0x3f).toInt64) ||| ((own_F16 (cs10.getD 0 0)).toInt64))), .second, .val (.int (1 : Int32))] [(.int (1 : Int32)), (.ref a10_0), (.long ((((0 : Int64) <<< ((6 : Int32) &&& 0x3f).toInt64) ||| ((own_F16 (cs10.getD 0 0)).toInt64)) <<< ((6 : Int32) &&& 0x3f).toInt64))])) rfl (by rw [hml]; rfl) (Steps.refl _) (argsL := [(.int (1 : Int32))]) (rest := [(.long ((((0 : Int64) <<< ((6 : Int32) &&& 0x3f).toInt64) ||| ((own_F16 (cs10.getD 0 0)).toInt64)) <<< ((6 : Int32) &&& 0x3f).toInt64))]) (lenOf pd__I_C rfl) rfl (by show 2 * 0 + _ ≤ _; exact Nat.le_of_eq rfl) (hb hby d10_16) (fun _ _ => ⟨rfl, e9, (by decide : 0 + 0 ≤ _), (by decide : 0 + 0 ≤ _)⟩)
  dsimp only [Pt.U, Pt.locs, Pt.cells, Pt.slots] at X11 l11 y11 z11 st11 hQ11
  subst y11 z11
  obtain ⟨rfl, rfl, e11⟩ := hQ11
  have N12 : Fr n0 L11 := by rw [l11]; exact Fr.app N10 (Fr.nil n0)
  refine own_via (T' := T11) (g' := (mkF m 19 #[.val (.ref a10_0), .val (.long (((0 : Int64) <<< ((6 : Int32) &&& 0x3f).toInt64) ||| ((own_F16 (cs10.getD 0 0)).toInt64))), .second, .val (.int (1 : Int32))] [(.int (cs10.getD 1 0)), (.long ((((0 : Int64) <<< ((6 : Int32) &&& 0x3f).toInt64) ||| ((own_F16 (cs10.getD 0 0)).toInt64)) <<< ((6 : Int32) &&& 0x3f).toInt64))])) st11 ?_
  obtain ⟨v13, _, ⟨T13, L13, k13, n13⟩, -, X13, ⟨Lc13, hQ13, l13, y13, z13⟩, st13⟩ := Jvm.LawKit.callS X11 hx (y := (⟨"com/example/vacant_errand/vacanterrand/PackedId", "place", "(C)I"⟩ : MethodName)) hown (mvT hZ (hw _ (List.mem_of_getElem? (i := 68) rfl))) (mvT hZ (hw _ (List.mem_of_getElem? (i := 69) rfl))) (mvT hZ (hw _ (List.mem_of_getElem? (i := 44) rfl))) (mvT hZ (hw _ (List.mem_of_getElem? (i := 70) rfl))) (by decide) (backOf (W := 2) (own_rm16 l Z a0 hw [] (cs10.getD 1 0) wPL cPL h0 n0 Z0 O0 (HP10 _ (own_mem cs10 HL10 1 (by decide))).1 SPL TPL) hZ (hw _ (List.mem_of_getElem? (i := 70) rfl)) (hw _ (List.mem_of_getElem? (i := 44) rfl)) (by decide) (by decide)) (g := (mkF m 19 #[.val (.ref a10_0), .val (.long (((0 : Int64) <<< ((6 : Int32) &&& 0x3f).toInt64) ||| ((own_F16 (cs10.getD 0 0)).toInt64))), .second, .val (.int (1 : Int32))] [(.int (cs10.getD 1 0)), (.long ((((0 : Int64) <<< ((6 : Int32) &&& 0x3f).toInt64) ||| ((own_F16 (cs10.getD 0 0)).toInt64)) <<< ((6 : Int32) &&& 0x3f).toInt64))])) rfl (by rw [hml]; rfl) (argsL := [(.int (cs10.getD 1 0))]) (rest := [(.long ((((0 : Int64) <<< ((6 : Int32) &&& 0x3f).toInt64) ||| ((own_F16 (cs10.getD 0 0)).toInt64)) <<< ((6 : Int32) &&& 0x3f).toInt64))]) (lenOf pd__C_I rfl) rfl (by show 2 * 0 + _ ≤ _; exact Nat.le_of_eq rfl) (hb hby d10_19) (fun _ _ => ⟨rfl, e11, (by decide : 0 + 0 ≤ _), (by decide : 0 + 0 ≤ _)⟩)
  dsimp only [Pt.U, Pt.locs, Pt.cells, Pt.slots] at X13 l13 y13 z13 st13 hQ13
  subst y13 z13
  obtain ⟨rfl, M13, e13⟩ := hQ13
  have N14 : Fr n0 L13 := by rw [l13]; exact Fr.app N12 M13
  refine own_by (T' := T13) (g' := (mkF m 22 #[.val (.ref a10_0), .val (.long (((0 : Int64) <<< ((6 : Int32) &&& 0x3f).toInt64) ||| ((own_F16 (cs10.getD 0 0)).toInt64))), .second, .val (.int (1 : Int32))] [(.int (own_F16 (cs10.getD 1 0))), (.long ((((0 : Int64) <<< ((6 : Int32) &&& 0x3f).toInt64) ||| ((own_F16 (cs10.getD 0 0)).toInt64)) <<< ((6 : Int32) &&& 0x3f).toInt64))])) st13 ?_
  refine own_by (T' := T13) (g' := (mkF m 16 #[.val (.ref a10_0), .val (.long (((((0 : Int64) <<< ((6 : Int32) &&& 0x3f).toInt64) ||| ((own_F16 (cs10.getD 0 0)).toInt64)) <<< ((6 : Int32) &&& 0x3f).toInt64) ||| ((own_F16 (cs10.getD 1 0)).toInt64))), .second, .val (.int (2 : Int32))] [(.int (2 : Int32)), (.ref a10_0), (.long ((((((0 : Int64) <<< ((6 : Int32) &&& 0x3f).toInt64) ||| ((own_F16 (cs10.getD 0 0)).toInt64)) <<< ((6 : Int32) &&& 0x3f).toInt64) ||| ((own_F16 (cs10.getD 1 0)).toInt64)) <<< ((6 : Int32) &&& 0x3f).toInt64))])) (fun t k => ?_) ?_
  · show Steps p.tables e below (T13.setTop (mkF m 22 #[.val (.ref a10_0), .val (.long (((0 : Int64) <<< ((6 : Int32) &&& 0x3f).toInt64) ||| ((own_F16 (cs10.getD 0 0)).toInt64))), .second, .val (.int (1 : Int32))] [(.int (own_F16 (cs10.getD 1 0))), (.long ((((0 : Int64) <<< ((6 : Int32) &&& 0x3f).toInt64) ||| ((own_F16 (cs10.getD 0 0)).toInt64)) <<< ((6 : Int32) &&& 0x3f).toInt64))])) t
    refine XS.i2l X13.here hx rfl (hb hby d10_22) rfl ?_
    show Steps p.tables e below (T13.setTop (mkF m 23 #[.val (.ref a10_0), .val (.long (((0 : Int64) <<< ((6 : Int32) &&& 0x3f).toInt64) ||| ((own_F16 (cs10.getD 0 0)).toInt64))), .second, .val (.int (1 : Int32))] [(.long ((own_F16 (cs10.getD 1 0)).toInt64)), (.long ((((0 : Int64) <<< ((6 : Int32) &&& 0x3f).toInt64) ||| ((own_F16 (cs10.getD 0 0)).toInt64)) <<< ((6 : Int32) &&& 0x3f).toInt64))])) t
    refine XS.lor X13.here hx rfl (hb hby d10_23) rfl ?_
    show Steps p.tables e below (T13.setTop (mkF m 24 #[.val (.ref a10_0), .val (.long (((0 : Int64) <<< ((6 : Int32) &&& 0x3f).toInt64) ||| ((own_F16 (cs10.getD 0 0)).toInt64))), .second, .val (.int (1 : Int32))] [(.long (((((0 : Int64) <<< ((6 : Int32) &&& 0x3f).toInt64) ||| ((own_F16 (cs10.getD 0 0)).toInt64)) <<< ((6 : Int32) &&& 0x3f).toInt64) ||| ((own_F16 (cs10.getD 1 0)).toInt64)))])) t
    refine XS.lstoreN X13.here hx rfl (hb hby d10_24) rfl (l' := #[.val (.ref a10_0), .val (.long (((((0 : Int64) <<< ((6 : Int32) &&& 0x3f).toInt64) ||| ((own_F16 (cs10.getD 0 0)).toInt64)) <<< ((6 : Int32) &&& 0x3f).toInt64) ||| ((own_F16 (cs10.getD 1 0)).toInt64))), .second, .val (.int (1 : Int32))]) rfl ?_
    show Steps p.tables e below (T13.setTop (mkF m 25 #[.val (.ref a10_0), .val (.long (((((0 : Int64) <<< ((6 : Int32) &&& 0x3f).toInt64) ||| ((own_F16 (cs10.getD 0 0)).toInt64)) <<< ((6 : Int32) &&& 0x3f).toInt64) ||| ((own_F16 (cs10.getD 1 0)).toInt64))), .second, .val (.int (1 : Int32))] [])) t
    refine XS.iinc X13.here hx rfl (hb hby d10_25) rfl (l' := #[.val (.ref a10_0), .val (.long (((((0 : Int64) <<< ((6 : Int32) &&& 0x3f).toInt64) ||| ((own_F16 (cs10.getD 0 0)).toInt64)) <<< ((6 : Int32) &&& 0x3f).toInt64) ||| ((own_F16 (cs10.getD 1 0)).toInt64))), .second, .val (.int (2 : Int32))]) rfl ?_
    show Steps p.tables e below (T13.setTop (mkF m 28 #[.val (.ref a10_0), .val (.long (((((0 : Int64) <<< ((6 : Int32) &&& 0x3f).toInt64) ||| ((own_F16 (cs10.getD 0 0)).toInt64)) <<< ((6 : Int32) &&& 0x3f).toInt64) ||| ((own_F16 (cs10.getD 1 0)).toInt64))), .second, .val (.int (2 : Int32))] [])) t
    refine XS.goto X13.here hx rfl (pc0 := 28) (pc' := 4) rfl (hb hby d10_28) (by decide) (by decide) ?_
    show Steps p.tables e below (T13.setTop (mkF m 4 #[.val (.ref a10_0), .val (.long (((((0 : Int64) <<< ((6 : Int32) &&& 0x3f).toInt64) ||| ((own_F16 (cs10.getD 0 0)).toInt64)) <<< ((6 : Int32) &&& 0x3f).toInt64) ||| ((own_F16 (cs10.getD 1 0)).toInt64))), .second, .val (.int (2 : Int32))] [])) t
    refine XS.iloadN X13.here hx rfl (hb hby d10_4) rfl ?_
    show Steps p.tables e below (T13.setTop (mkF m 5 #[.val (.ref a10_0), .val (.long (((((0 : Int64) <<< ((6 : Int32) &&& 0x3f).toInt64) ||| ((own_F16 (cs10.getD 0 0)).toInt64)) <<< ((6 : Int32) &&& 0x3f).toInt64) ||| ((own_F16 (cs10.getD 1 0)).toInt64))), .second, .val (.int (2 : Int32))] [(.int (2 : Int32))])) t
    refine XS.bipush X13.here hx rfl (hb hby d10_5) ?_
    show Steps p.tables e below (T13.setTop (mkF m 7 #[.val (.ref a10_0), .val (.long (((((0 : Int64) <<< ((6 : Int32) &&& 0x3f).toInt64) ||| ((own_F16 (cs10.getD 0 0)).toInt64)) <<< ((6 : Int32) &&& 0x3f).toInt64) ||| ((own_F16 (cs10.getD 1 0)).toInt64))), .second, .val (.int (2 : Int32))] [(.int (10 : Int32)), (.int (2 : Int32))])) t
    refine XS.icmpNo X13.here hx rfl (hb hby d10_7) rfl (tlt (by decide : (2 : Int32) < (10 : Int32))).2.1 ?_
    show Steps p.tables e below (T13.setTop (mkF m 10 #[.val (.ref a10_0), .val (.long (((((0 : Int64) <<< ((6 : Int32) &&& 0x3f).toInt64) ||| ((own_F16 (cs10.getD 0 0)).toInt64)) <<< ((6 : Int32) &&& 0x3f).toInt64) ||| ((own_F16 (cs10.getD 1 0)).toInt64))), .second, .val (.int (2 : Int32))] [])) t
    refine XS.lloadN X13.here hx rfl (hb hby d10_10) rfl ?_
    show Steps p.tables e below (T13.setTop (mkF m 11 #[.val (.ref a10_0), .val (.long (((((0 : Int64) <<< ((6 : Int32) &&& 0x3f).toInt64) ||| ((own_F16 (cs10.getD 0 0)).toInt64)) <<< ((6 : Int32) &&& 0x3f).toInt64) ||| ((own_F16 (cs10.getD 1 0)).toInt64))), .second, .val (.int (2 : Int32))] [(.long (((((0 : Int64) <<< ((6 : Int32) &&& 0x3f).toInt64) ||| ((own_F16 (cs10.getD 0 0)).toInt64)) <<< ((6 : Int32) &&& 0x3f).toInt64) ||| ((own_F16 (cs10.getD 1 0)).toInt64)))])) t
    refine XS.bipush X13.here hx rfl (hb hby d10_11) ?_
    show Steps p.tables e below (T13.setTop (mkF m 13 #[.val (.ref a10_0), .val (.long (((((0 : Int64) <<< ((6 : Int32) &&& 0x3f).toInt64) ||| ((own_F16 (cs10.getD 0 0)).toInt64)) <<< ((6 : Int32) &&& 0x3f).toInt64) ||| ((own_F16 (cs10.getD 1 0)).toInt64))), .second, .val (.int (2 : Int32))] [(.int (6 : Int32)), (.long (((((0 : Int64) <<< ((6 : Int32) &&& 0x3f).toInt64) ||| ((own_F16 (cs10.getD 0 0)).toInt64)) <<< ((6 : Int32) &&& 0x3f).toInt64) ||| ((own_F16 (cs10.getD 1 0)).toInt64)))])) t
    refine XS.lshl X13.here hx rfl (hb hby d10_13) rfl ?_
    show Steps p.tables e below (T13.setTop (mkF m 14 #[.val (.ref a10_0), .val (.long (((((0 : Int64) <<< ((6 : Int32) &&& 0x3f).toInt64) ||| ((own_F16 (cs10.getD 0 0)).toInt64)) <<< ((6 : Int32) &&& 0x3f).toInt64) ||| ((own_F16 (cs10.getD 1 0)).toInt64))), .second, .val (.int (2 : Int32))] [(.long ((((((0 : Int64) <<< ((6 : Int32) &&& 0x3f).toInt64) ||| ((own_F16 (cs10.getD 0 0)).toInt64)) <<< ((6 : Int32) &&& 0x3f).toInt64) ||| ((own_F16 (cs10.getD 1 0)).toInt64)) <<< ((6 : Int32) &&& 0x3f).toInt64))])) t
    refine XS.aloadN X13.here hx rfl (hb hby d10_14) rfl rfl ?_
    show Steps p.tables e below (T13.setTop (mkF m 15 #[.val (.ref a10_0), .val (.long (((((0 : Int64) <<< ((6 : Int32) &&& 0x3f).toInt64) ||| ((own_F16 (cs10.getD 0 0)).toInt64)) <<< ((6 : Int32) &&& 0x3f).toInt64) ||| ((own_F16 (cs10.getD 1 0)).toInt64))), .second, .val (.int (2 : Int32))] [(.ref a10_0), (.long ((((((0 : Int64) <<< ((6 : Int32) &&& 0x3f).toInt64) ||| ((own_F16 (cs10.getD 0 0)).toInt64)) <<< ((6 : Int32) &&& 0x3f).toInt64) ||| ((own_F16 (cs10.getD 1 0)).toInt64)) <<< ((6 : Int32) &&& 0x3f).toInt64))])) t
    refine XS.iloadN X13.here hx rfl (hb hby d10_15) rfl ?_
    show Steps p.tables e below (T13.setTop (mkF m 16 #[.val (.ref a10_0), .val (.long (((((0 : Int64) <<< ((6 : Int32) &&& 0x3f).toInt64) ||| ((own_F16 (cs10.getD 0 0)).toInt64)) <<< ((6 : Int32) &&& 0x3f).toInt64) ||| ((own_F16 (cs10.getD 1 0)).toInt64))), .second, .val (.int (2 : Int32))] [(.int (2 : Int32)), (.ref a10_0), (.long ((((((0 : Int64) <<< ((6 : Int32) &&& 0x3f).toInt64) ||| ((own_F16 (cs10.getD 0 0)).toInt64)) <<< ((6 : Int32) &&& 0x3f).toInt64) ||| ((own_F16 (cs10.getD 1 0)).toInt64)) <<< ((6 : Int32) &&& 0x3f).toInt64))])) t
    exact k
  have hch15 : ∀ d ∈ StrChars.Road.wordsChN, d.before a0 Z = true := fun d hd => hw d ((by decide +kernel : ∀ d ∈ StrChars.Road.wordsChN, d ∈ tables_1) d hd)
  have hcd15 : StrChars.Road.CodA cs10 0 (22 : Int32) ((cs10.map (fun c => c.toInt8.toInt32)).map Value.int) := StrChars.Road.codOf (n := 22) HL10 (fun x hx => (HP10 x hx).2)
  obtain ⟨cq15, kq15, q15a, q15b, q15c⟩ := isOf hZ e13 E10
  obtain ⟨v15, _, ⟨T15, L15, k15, n15⟩, -, X15, ⟨Lc15, hQ15, l15, y15, z15⟩, st15⟩ := X13.virtualBack hx (y := (⟨"java/lang/String", "charAt", "(I)C"⟩ : MethodName)) (z := (⟨"java/lang/String", "charAt", "(I)C"⟩ : MethodName)) hown (mvT hZ (hw _ (List.mem_of_getElem? (i := 46) rfl))) (mvT hZ (hw _ (List.mem_of_getElem? (i := 47) rfl))) (notFace_of_selects (args := #[]) (mvT hZ (hw _ (List.mem_of_getElem? (i := 49) rfl)))) (mvT hZ (hw _ (List.mem_of_getElem? (i := 49) rfl))) (mvT hZ (hw _ (List.mem_of_getElem? (i := 48) rfl))) (by decide) (StrChars.Road.chN (W := 2) hZ hch15 (kI := 4) (hw _ (List.mem_of_getElem? (i := 14) rfl)) E10 V10 C10 K10 hcd15 (own_up _ HP10) (SC.ext O0.2) HCS (SFm.ext O0.2) HFm (by rw [HL10]; decide) (i := 2) (by rw [HL10]; decide) (j := (2 : Int32)) rfl (by decide) (by decide)) q15a q15c (g := (mkF m 16 #[.val (.ref a10_0), .val (.long (((((0 : Int64) <<< ((6 : Int32) &&& 0x3f).toInt64) ||| ((own_F16 (cs10.getD 0 0)).toInt64)) <<< ((6 : Int32) &&& 0x3f).toInt64) ||| ((own_F16 (cs10.getD 1 0)).toInt64))), .second, .val (.int (2 : Int32))] [(.int (2 : Int32)), (.ref a10_0), (.long ((((((0 : Int64) <<< ((6 : Int32) &&& 0x3f).toInt64) ||| ((own_F16 (cs10.getD 0 0)).toInt64)) <<< ((6 : Int32) &&& 0x3f).toInt64) ||| ((own_F16 (cs10.getD 1 0)).toInt64)) <<< ((6 : Int32) &&& 0x3f).toInt64))])) rfl (by rw [hml]; rfl) (Steps.refl _) (argsL := [(.int (2 : Int32))]) (rest := [(.long ((((((0 : Int64) <<< ((6 : Int32) &&& 0x3f).toInt64) ||| ((own_F16 (cs10.getD 0 0)).toInt64)) <<< ((6 : Int32) &&& 0x3f).toInt64) ||| ((own_F16 (cs10.getD 1 0)).toInt64)) <<< ((6 : Int32) &&& 0x3f).toInt64))]) (lenOf pd__I_C rfl) rfl (by show 2 * 0 + _ ≤ _; exact Nat.le_of_eq rfl) (hb hby d10_16) (fun _ _ => ⟨rfl, e13, (by decide : 0 + 0 ≤ _), (by decide : 0 + 0 ≤ _)⟩)
  dsimp only [Pt.U, Pt.locs, Pt.cells, Pt.slots] at X15 l15 y15 z15 st15 hQ15
  subst y15 z15
  obtain ⟨rfl, rfl, e15⟩ := hQ15
  have N16 : Fr n0 L15 := by rw [l15]; exact Fr.app N14 (Fr.nil n0)
  refine own_via (T' := T15) (g' := (mkF m 19 #[.val (.ref a10_0), .val (.long (((((0 : Int64) <<< ((6 : Int32) &&& 0x3f).toInt64) ||| ((own_F16 (cs10.getD 0 0)).toInt64)) <<< ((6 : Int32) &&& 0x3f).toInt64) ||| ((own_F16 (cs10.getD 1 0)).toInt64))), .second, .val (.int (2 : Int32))] [(.int (cs10.getD 2 0)), (.long ((((((0 : Int64) <<< ((6 : Int32) &&& 0x3f).toInt64) ||| ((own_F16 (cs10.getD 0 0)).toInt64)) <<< ((6 : Int32) &&& 0x3f).toInt64) ||| ((own_F16 (cs10.getD 1 0)).toInt64)) <<< ((6 : Int32) &&& 0x3f).toInt64))])) st15 ?_
  obtain ⟨v17, _, ⟨T17, L17, k17, n17⟩, -, X17, ⟨Lc17, hQ17, l17, y17, z17⟩, st17⟩ := Jvm.LawKit.callS X15 hx (y := (⟨"com/example/vacant_errand/vacanterrand/PackedId", "place", "(C)I"⟩ : MethodName)) hown (mvT hZ (hw _ (List.mem_of_getElem? (i := 68) rfl))) (mvT hZ (hw _ (List.mem_of_getElem? (i := 69) rfl))) (mvT hZ (hw _ (List.mem_of_getElem? (i := 44) rfl))) (mvT hZ (hw _ (List.mem_of_getElem? (i := 70) rfl))) (by decide) (backOf (W := 2) (own_rm16 l Z a0 hw [] (cs10.getD 2 0) wPL cPL h0 n0 Z0 O0 (HP10 _ (own_mem cs10 HL10 2 (by decide))).1 SPL TPL) hZ (hw _ (List.mem_of_getElem? (i := 70) rfl)) (hw _ (List.mem_of_getElem? (i := 44) rfl)) (by decide) (by decide)) (g := (mkF m 19 #[.val (.ref a10_0), .val (.long (((((0 : Int64) <<< ((6 : Int32) &&& 0x3f).toInt64) ||| ((own_F16 (cs10.getD 0 0)).toInt64)) <<< ((6 : Int32) &&& 0x3f).toInt64) ||| ((own_F16 (cs10.getD 1 0)).toInt64))), .second, .val (.int (2 : Int32))] [(.int (cs10.getD 2 0)), (.long ((((((0 : Int64) <<< ((6 : Int32) &&& 0x3f).toInt64) ||| ((own_F16 (cs10.getD 0 0)).toInt64)) <<< ((6 : Int32) &&& 0x3f).toInt64) ||| ((own_F16 (cs10.getD 1 0)).toInt64)) <<< ((6 : Int32) &&& 0x3f).toInt64))])) rfl (by rw [hml]; rfl) (argsL := [(.int (cs10.getD 2 0))]) (rest := [(.long ((((((0 : Int64) <<< ((6 : Int32) &&& 0x3f).toInt64) ||| ((own_F16 (cs10.getD 0 0)).toInt64)) <<< ((6 : Int32) &&& 0x3f).toInt64) ||| ((own_F16 (cs10.getD 1 0)).toInt64)) <<< ((6 : Int32) &&& 0x3f).toInt64))]) (lenOf pd__C_I rfl) rfl (by show 2 * 0 + _ ≤ _; exact Nat.le_of_eq rfl) (hb hby d10_19) (fun _ _ => ⟨rfl, e15, (by decide : 0 + 0 ≤ _), (by decide : 0 + 0 ≤ _)⟩)
  dsimp only [Pt.U, Pt.locs, Pt.cells, Pt.slots] at X17 l17 y17 z17 st17 hQ17
  subst y17 z17
  obtain ⟨rfl, M17, e17⟩ := hQ17
  have N18 : Fr n0 L17 := by rw [l17]; exact Fr.app N16 M17
  refine own_by (T' := T17) (g' := (mkF m 22 #[.val (.ref a10_0), .val (.long (((((0 : Int64) <<< ((6 : Int32) &&& 0x3f).toInt64) ||| ((own_F16 (cs10.getD 0 0)).toInt64)) <<< ((6 : Int32) &&& 0x3f).toInt64) ||| ((own_F16 (cs10.getD 1 0)).toInt64))), .second, .val (.int (2 : Int32))] [(.int (own_F16 (cs10.getD 2 0))), (.long ((((((0 : Int64) <<< ((6 : Int32) &&& 0x3f).toInt64) ||| ((own_F16 (cs10.getD 0 0)).toInt64)) <<< ((6 : Int32) &&& 0x3f).toInt64) ||| ((own_F16 (cs10.getD 1 0)).toInt64)) <<< ((6 : Int32) &&& 0x3f).toInt64))])) st17 ?_
  refine own_by (T' := T17) (g' := (mkF m 16 #[.val (.ref a10_0), .val (.long (((((((0 : Int64) <<< ((6 : Int32) &&& 0x3f).toInt64) ||| ((own_F16 (cs10.getD 0 0)).toInt64)) <<< ((6 : Int32) &&& 0x3f).toInt64) ||| ((own_F16 (cs10.getD 1 0)).toInt64)) <<< ((6 : Int32) &&& 0x3f).toInt64) ||| ((own_F16 (cs10.getD 2 0)).toInt64))), .second, .val (.int (3 : Int32))] [(.int (3 : Int32)), (.ref a10_0), (.long ((((((((0 : Int64) <<< ((6 : Int32) &&& 0x3f).toInt64) ||| ((own_F16 (cs10.getD 0 0)).toInt64)) <<< ((6 : Int32) &&& 0x3f).toInt64) ||| ((own_F16 (cs10.getD 1 0)).toInt64)) <<< ((6 : Int32) &&& 0x3f).toInt64) ||| ((own_F16 (cs10.getD 2 0)).toInt64)) <<< ((6 : Int32) &&& 0x3f).toInt64))])) (fun t k => ?_) ?_
  · show Steps p.tables e below (T17.setTop (mkF m 22 #[.val (.ref a10_0), .val (.long (((((0 : Int64) <<< ((6 : Int32) &&& 0x3f).toInt64) ||| ((own_F16 (cs10.getD 0 0)).toInt64)) <<< ((6 : Int32) &&& 0x3f).toInt64) ||| ((own_F16 (cs10.getD 1 0)).toInt64))), .second, .val (.int (2 : Int32))] [(.int (own_F16 (cs10.getD 2 0))), (.long ((((((0 : Int64) <<< ((6 : Int32) &&& 0x3f).toInt64) ||| ((own_F16 (cs10.getD 0 0)).toInt64)) <<< ((6 : Int32) &&& 0x3f).toInt64) ||| ((own_F16 (cs10.getD 1 0)).toInt64)) <<< ((6 : Int32) &&& 0x3f).toInt64))])) t
    refine XS.i2l X17.here hx rfl (hb hby d10_22) rfl ?_
    show Steps p.tables e below (T17.setTop (mkF m 23 #[.val (.ref a10_0), .val (.long (((((0 : Int64) <<< ((6 : Int32) &&& 0x3f).toInt64) ||| ((own_F16 (cs10.getD 0 0)).toInt64)) <<< ((6 : Int32) &&& 0x3f).toInt64) ||| ((own_F16 (cs10.getD 1 0)).toInt64))), .second, .val (.int (2 : Int32))] [(.long ((own_F16 (cs10.getD 2 0)).toInt64)), (.long ((((((0 : Int64) <<< ((6 : Int32) &&& 0x3f).toInt64) ||| ((own_F16 (cs10.getD 0 0)).toInt64)) <<< ((6 : Int32) &&& 0x3f).toInt64) ||| ((own_F16 (cs10.getD 1 0)).toInt64)) <<< ((6 : Int32) &&& 0x3f).toInt64))])) t
    refine XS.lor X17.here hx rfl (hb hby d10_23) rfl ?_
    show Steps p.tables e below (T17.setTop (mkF m 24 #[.val (.ref a10_0), .val (.long (((((0 : Int64) <<< ((6 : Int32) &&& 0x3f).toInt64) ||| ((own_F16 (cs10.getD 0 0)).toInt64)) <<< ((6 : Int32) &&& 0x3f).toInt64) ||| ((own_F16 (cs10.getD 1 0)).toInt64))), .second, .val (.int (2 : Int32))] [(.long (((((((0 : Int64) <<< ((6 : Int32) &&& 0x3f).toInt64) ||| ((own_F16 (cs10.getD 0 0)).toInt64)) <<< ((6 : Int32) &&& 0x3f).toInt64) ||| ((own_F16 (cs10.getD 1 0)).toInt64)) <<< ((6 : Int32) &&& 0x3f).toInt64) ||| ((own_F16 (cs10.getD 2 0)).toInt64)))])) t
    refine XS.lstoreN X17.here hx rfl (hb hby d10_24) rfl (l' := #[.val (.ref a10_0), .val (.long (((((((0 : Int64) <<< ((6 : Int32) &&& 0x3f).toInt64) ||| ((own_F16 (cs10.getD 0 0)).toInt64)) <<< ((6 : Int32) &&& 0x3f).toInt64) ||| ((own_F16 (cs10.getD 1 0)).toInt64)) <<< ((6 : Int32) &&& 0x3f).toInt64) ||| ((own_F16 (cs10.getD 2 0)).toInt64))), .second, .val (.int (2 : Int32))]) rfl ?_
    show Steps p.tables e below (T17.setTop (mkF m 25 #[.val (.ref a10_0), .val (.long (((((((0 : Int64) <<< ((6 : Int32) &&& 0x3f).toInt64) ||| ((own_F16 (cs10.getD 0 0)).toInt64)) <<< ((6 : Int32) &&& 0x3f).toInt64) ||| ((own_F16 (cs10.getD 1 0)).toInt64)) <<< ((6 : Int32) &&& 0x3f).toInt64) ||| ((own_F16 (cs10.getD 2 0)).toInt64))), .second, .val (.int (2 : Int32))] [])) t
    refine XS.iinc X17.here hx rfl (hb hby d10_25) rfl (l' := #[.val (.ref a10_0), .val (.long (((((((0 : Int64) <<< ((6 : Int32) &&& 0x3f).toInt64) ||| ((own_F16 (cs10.getD 0 0)).toInt64)) <<< ((6 : Int32) &&& 0x3f).toInt64) ||| ((own_F16 (cs10.getD 1 0)).toInt64)) <<< ((6 : Int32) &&& 0x3f).toInt64) ||| ((own_F16 (cs10.getD 2 0)).toInt64))), .second, .val (.int (3 : Int32))]) rfl ?_
    show Steps p.tables e below (T17.setTop (mkF m 28 #[.val (.ref a10_0), .val (.long (((((((0 : Int64) <<< ((6 : Int32) &&& 0x3f).toInt64) ||| ((own_F16 (cs10.getD 0 0)).toInt64)) <<< ((6 : Int32) &&& 0x3f).toInt64) ||| ((own_F16 (cs10.getD 1 0)).toInt64)) <<< ((6 : Int32) &&& 0x3f).toInt64) ||| ((own_F16 (cs10.getD 2 0)).toInt64))), .second, .val (.int (3 : Int32))] [])) t
    refine XS.goto X17.here hx rfl (pc0 := 28) (pc' := 4) rfl (hb hby d10_28) (by decide) (by decide) ?_
    show Steps p.tables e below (T17.setTop (mkF m 4 #[.val (.ref a10_0), .val (.long (((((((0 : Int64) <<< ((6 : Int32) &&& 0x3f).toInt64) ||| ((own_F16 (cs10.getD 0 0)).toInt64)) <<< ((6 : Int32) &&& 0x3f).toInt64) ||| ((own_F16 (cs10.getD 1 0)).toInt64)) <<< ((6 : Int32) &&& 0x3f).toInt64) ||| ((own_F16 (cs10.getD 2 0)).toInt64))), .second, .val (.int (3 : Int32))] [])) t
    refine XS.iloadN X17.here hx rfl (hb hby d10_4) rfl ?_
    show Steps p.tables e below (T17.setTop (mkF m 5 #[.val (.ref a10_0), .val (.long (((((((0 : Int64) <<< ((6 : Int32) &&& 0x3f).toInt64) ||| ((own_F16 (cs10.getD 0 0)).toInt64)) <<< ((6 : Int32) &&& 0x3f).toInt64) ||| ((own_F16 (cs10.getD 1 0)).toInt64)) <<< ((6 : Int32) &&& 0x3f).toInt64) ||| ((own_F16 (cs10.getD 2 0)).toInt64))), .second, .val (.int (3 : Int32))] [(.int (3 : Int32))])) t
    refine XS.bipush X17.here hx rfl (hb hby d10_5) ?_
    show Steps p.tables e below (T17.setTop (mkF m 7 #[.val (.ref a10_0), .val (.long (((((((0 : Int64) <<< ((6 : Int32) &&& 0x3f).toInt64) ||| ((own_F16 (cs10.getD 0 0)).toInt64)) <<< ((6 : Int32) &&& 0x3f).toInt64) ||| ((own_F16 (cs10.getD 1 0)).toInt64)) <<< ((6 : Int32) &&& 0x3f).toInt64) ||| ((own_F16 (cs10.getD 2 0)).toInt64))), .second, .val (.int (3 : Int32))] [(.int (10 : Int32)), (.int (3 : Int32))])) t
    refine XS.icmpNo X17.here hx rfl (hb hby d10_7) rfl (tlt (by decide : (3 : Int32) < (10 : Int32))).2.1 ?_
    show Steps p.tables e below (T17.setTop (mkF m 10 #[.val (.ref a10_0), .val (.long (((((((0 : Int64) <<< ((6 : Int32) &&& 0x3f).toInt64) ||| ((own_F16 (cs10.getD 0 0)).toInt64)) <<< ((6 : Int32) &&& 0x3f).toInt64) ||| ((own_F16 (cs10.getD 1 0)).toInt64)) <<< ((6 : Int32) &&& 0x3f).toInt64) ||| ((own_F16 (cs10.getD 2 0)).toInt64))), .second, .val (.int (3 : Int32))] [])) t
    refine XS.lloadN X17.here hx rfl (hb hby d10_10) rfl ?_
    show Steps p.tables e below (T17.setTop (mkF m 11 #[.val (.ref a10_0), .val (.long (((((((0 : Int64) <<< ((6 : Int32) &&& 0x3f).toInt64) ||| ((own_F16 (cs10.getD 0 0)).toInt64)) <<< ((6 : Int32) &&& 0x3f).toInt64) ||| ((own_F16 (cs10.getD 1 0)).toInt64)) <<< ((6 : Int32) &&& 0x3f).toInt64) ||| ((own_F16 (cs10.getD 2 0)).toInt64))), .second, .val (.int (3 : Int32))] [(.long (((((((0 : Int64) <<< ((6 : Int32) &&& 0x3f).toInt64) ||| ((own_F16 (cs10.getD 0 0)).toInt64)) <<< ((6 : Int32) &&& 0x3f).toInt64) ||| ((own_F16 (cs10.getD 1 0)).toInt64)) <<< ((6 : Int32) &&& 0x3f).toInt64) ||| ((own_F16 (cs10.getD 2 0)).toInt64)))])) t
    refine XS.bipush X17.here hx rfl (hb hby d10_11) ?_
    show Steps p.tables e below (T17.setTop (mkF m 13 #[.val (.ref a10_0), .val (.long (((((((0 : Int64) <<< ((6 : Int32) &&& 0x3f).toInt64) ||| ((own_F16 (cs10.getD 0 0)).toInt64)) <<< ((6 : Int32) &&& 0x3f).toInt64) ||| ((own_F16 (cs10.getD 1 0)).toInt64)) <<< ((6 : Int32) &&& 0x3f).toInt64) ||| ((own_F16 (cs10.getD 2 0)).toInt64))), .second, .val (.int (3 : Int32))] [(.int (6 : Int32)), (.long (((((((0 : Int64) <<< ((6 : Int32) &&& 0x3f).toInt64) ||| ((own_F16 (cs10.getD 0 0)).toInt64)) <<< ((6 : Int32) &&& 0x3f).toInt64) ||| ((own_F16 (cs10.getD 1 0)).toInt64)) <<< ((6 : Int32) &&& 0x3f).toInt64) ||| ((own_F16 (cs10.getD 2 0)).toInt64)))])) t
    refine XS.lshl X17.here hx rfl (hb hby d10_13) rfl ?_
    show Steps p.tables e below (T17.setTop (mkF m 14 #[.val (.ref a10_0), .val (.long (((((((0 : Int64) <<< ((6 : Int32) &&& 0x3f).toInt64) ||| ((own_F16 (cs10.getD 0 0)).toInt64)) <<< ((6 : Int32) &&& 0x3f).toInt64) ||| ((own_F16 (cs10.getD 1 0)).toInt64)) <<< ((6 : Int32) &&& 0x3f).toInt64) ||| ((own_F16 (cs10.getD 2 0)).toInt64))), .second, .val (.int (3 : Int32))] [(.long ((((((((0 : Int64) <<< ((6 : Int32) &&& 0x3f).toInt64) ||| ((own_F16 (cs10.getD 0 0)).toInt64)) <<< ((6 : Int32) &&& 0x3f).toInt64) ||| ((own_F16 (cs10.getD 1 0)).toInt64)) <<< ((6 : Int32) &&& 0x3f).toInt64) ||| ((own_F16 (cs10.getD 2 0)).toInt64)) <<< ((6 : Int32) &&& 0x3f).toInt64))])) t
    refine XS.aloadN X17.here hx rfl (hb hby d10_14) rfl rfl ?_
    show Steps p.tables e below (T17.setTop (mkF m 15 #[.val (.ref a10_0), .val (.long (((((((0 : Int64) <<< ((6 : Int32) &&& 0x3f).toInt64) ||| ((own_F16 (cs10.getD 0 0)).toInt64)) <<< ((6 : Int32) &&& 0x3f).toInt64) ||| ((own_F16 (cs10.getD 1 0)).toInt64)) <<< ((6 : Int32) &&& 0x3f).toInt64) ||| ((own_F16 (cs10.getD 2 0)).toInt64))), .second, .val (.int (3 : Int32))] [(.ref a10_0), (.long ((((((((0 : Int64) <<< ((6 : Int32) &&& 0x3f).toInt64) ||| ((own_F16 (cs10.getD 0 0)).toInt64)) <<< ((6 : Int32) &&& 0x3f).toInt64) ||| ((own_F16 (cs10.getD 1 0)).toInt64)) <<< ((6 : Int32) &&& 0x3f).toInt64) ||| ((own_F16 (cs10.getD 2 0)).toInt64)) <<< ((6 : Int32) &&& 0x3f).toInt64))])) t
    refine XS.iloadN X17.here hx rfl (hb hby d10_15) rfl ?_
    show Steps p.tables e below (T17.setTop (mkF m 16 #[.val (.ref a10_0), .val (.long (((((((0 : Int64) <<< ((6 : Int32) &&& 0x3f).toInt64) ||| ((own_F16 (cs10.getD 0 0)).toInt64)) <<< ((6 : Int32) &&& 0x3f).toInt64) ||| ((own_F16 (cs10.getD 1 0)).toInt64)) <<< ((6 : Int32) &&& 0x3f).toInt64) ||| ((own_F16 (cs10.getD 2 0)).toInt64))), .second, .val (.int (3 : Int32))] [(.int (3 : Int32)), (.ref a10_0), (.long ((((((((0 : Int64) <<< ((6 : Int32) &&& 0x3f).toInt64) ||| ((own_F16 (cs10.getD 0 0)).toInt64)) <<< ((6 : Int32) &&& 0x3f).toInt64) ||| ((own_F16 (cs10.getD 1 0)).toInt64)) <<< ((6 : Int32) &&& 0x3f).toInt64) ||| ((own_F16 (cs10.getD 2 0)).toInt64)) <<< ((6 : Int32) &&& 0x3f).toInt64))])) t
    exact k
  have hch19 : ∀ d ∈ StrChars.Road.wordsChN, d.before a0 Z = true := fun d hd => hw d ((by decide +kernel : ∀ d ∈ StrChars.Road.wordsChN, d ∈ tables_1) d hd)
  have hcd19 : StrChars.Road.CodA cs10 0 (22 : Int32) ((cs10.map (fun c => c.toInt8.toInt32)).map Value.int) := StrChars.Road.codOf (n := 22) HL10 (fun x hx => (HP10 x hx).2)
  obtain ⟨cq19, kq19, q19a, q19b, q19c⟩ := isOf hZ e17 E10
  obtain ⟨v19, _, ⟨T19, L19, k19, n19⟩, -, X19, ⟨Lc19, hQ19, l19, y19, z19⟩, st19⟩ := X17.virtualBack hx (y := (⟨"java/lang/String", "charAt", "(I)C"⟩ : MethodName)) (z := (⟨"java/lang/String", "charAt", "(I)C"⟩ : MethodName)) hown (mvT hZ (hw _ (List.mem_of_getElem? (i := 46) rfl))) (mvT hZ (hw _ (List.mem_of_getElem? (i := 47) rfl))) (notFace_of_selects (args := #[]) (mvT hZ (hw _ (List.mem_of_getElem? (i := 49) rfl)))) (mvT hZ (hw _ (List.mem_of_getElem? (i := 49) rfl))) (mvT hZ (hw _ (List.mem_of_getElem? (i := 48) rfl))) (by decide) (StrChars.Road.chN (W := 2) hZ hch19 (kI := 4) (hw _ (List.mem_of_getElem? (i := 14) rfl)) E10 V10 C10 K10 hcd19 (own_up _ HP10) (SC.ext O0.2) HCS (SFm.ext O0.2) HFm (by rw [HL10]; decide) (i := 3) (by rw [HL10]; decide) (j := (3 : Int32)) rfl (by decide) (by decide)) q19a q19c (g := (mkF m 16 #[.val (.ref a10_0), .val (.long (((((((0 : Int64) <<< ((6 : Int32) &&& 0x3f).toInt64) ||| ((own_F16 (cs10.getD 0 0)).toInt64)) <<< ((6 : Int32) &&& 0x3f).toInt64) ||| ((own_F16 (cs10.getD 1 0)).toInt64)) <<< ((6 : Int32) &&& 0x3f).toInt64) ||| ((own_F16 (cs10.getD 2 0)).toInt64))), .second, .val (.int (3 : Int32))] [(.int (3 : Int32)), (.ref a10_0), (.long ((((((((0 : Int64) <<< ((6 : Int32) &&& 0x3f).toInt64) ||| ((own_F16 (cs10.getD 0 0)).toInt64)) <<< ((6 : Int32) &&& 0x3f).toInt64) ||| ((own_F16 (cs10.getD 1 0)).toInt64)) <<< ((6 : Int32) &&& 0x3f).toInt64) ||| ((own_F16 (cs10.getD 2 0)).toInt64)) <<< ((6 : Int32) &&& 0x3f).toInt64))])) rfl (by rw [hml]; rfl) (Steps.refl _) (argsL := [(.int (3 : Int32))]) (rest := [(.long ((((((((0 : Int64) <<< ((6 : Int32) &&& 0x3f).toInt64) ||| ((own_F16 (cs10.getD 0 0)).toInt64)) <<< ((6 : Int32) &&& 0x3f).toInt64) ||| ((own_F16 (cs10.getD 1 0)).toInt64)) <<< ((6 : Int32) &&& 0x3f).toInt64) ||| ((own_F16 (cs10.getD 2 0)).toInt64)) <<< ((6 : Int32) &&& 0x3f).toInt64))]) (lenOf pd__I_C rfl) rfl (by show 2 * 0 + _ ≤ _; exact Nat.le_of_eq rfl) (hb hby d10_16) (fun _ _ => ⟨rfl, e17, (by decide : 0 + 0 ≤ _), (by decide : 0 + 0 ≤ _)⟩)
  dsimp only [Pt.U, Pt.locs, Pt.cells, Pt.slots] at X19 l19 y19 z19 st19 hQ19
  subst y19 z19
  obtain ⟨rfl, rfl, e19⟩ := hQ19
  have N20 : Fr n0 L19 := by rw [l19]; exact Fr.app N18 (Fr.nil n0)
  refine own_via (T' := T19) (g' := (mkF m 19 #[.val (.ref a10_0), .val (.long (((((((0 : Int64) <<< ((6 : Int32) &&& 0x3f).toInt64) ||| ((own_F16 (cs10.getD 0 0)).toInt64)) <<< ((6 : Int32) &&& 0x3f).toInt64) ||| ((own_F16 (cs10.getD 1 0)).toInt64)) <<< ((6 : Int32) &&& 0x3f).toInt64) ||| ((own_F16 (cs10.getD 2 0)).toInt64))), .second, .val (.int (3 : Int32))] [(.int (cs10.getD 3 0)), (.long ((((((((0 : Int64) <<< ((6 : Int32) &&& 0x3f).toInt64) ||| ((own_F16 (cs10.getD 0 0)).toInt64)) <<< ((6 : Int32) &&& 0x3f).toInt64) ||| ((own_F16 (cs10.getD 1 0)).toInt64)) <<< ((6 : Int32) &&& 0x3f).toInt64) ||| ((own_F16 (cs10.getD 2 0)).toInt64)) <<< ((6 : Int32) &&& 0x3f).toInt64))])) st19 ?_
  obtain ⟨v21, _, ⟨T21, L21, k21, n21⟩, -, X21, ⟨Lc21, hQ21, l21, y21, z21⟩, st21⟩ := Jvm.LawKit.callS X19 hx (y := (⟨"com/example/vacant_errand/vacanterrand/PackedId", "place", "(C)I"⟩ : MethodName)) hown (mvT hZ (hw _ (List.mem_of_getElem? (i := 68) rfl))) (mvT hZ (hw _ (List.mem_of_getElem? (i := 69) rfl))) (mvT hZ (hw _ (List.mem_of_getElem? (i := 44) rfl))) (mvT hZ (hw _ (List.mem_of_getElem? (i := 70) rfl))) (by decide) (backOf (W := 2) (own_rm16 l Z a0 hw [] (cs10.getD 3 0) wPL cPL h0 n0 Z0 O0 (HP10 _ (own_mem cs10 HL10 3 (by decide))).1 SPL TPL) hZ (hw _ (List.mem_of_getElem? (i := 70) rfl)) (hw _ (List.mem_of_getElem? (i := 44) rfl)) (by decide) (by decide)) (g := (mkF m 19 #[.val (.ref a10_0), .val (.long (((((((0 : Int64) <<< ((6 : Int32) &&& 0x3f).toInt64) ||| ((own_F16 (cs10.getD 0 0)).toInt64)) <<< ((6 : Int32) &&& 0x3f).toInt64) ||| ((own_F16 (cs10.getD 1 0)).toInt64)) <<< ((6 : Int32) &&& 0x3f).toInt64) ||| ((own_F16 (cs10.getD 2 0)).toInt64))), .second, .val (.int (3 : Int32))] [(.int (cs10.getD 3 0)), (.long ((((((((0 : Int64) <<< ((6 : Int32) &&& 0x3f).toInt64) ||| ((own_F16 (cs10.getD 0 0)).toInt64)) <<< ((6 : Int32) &&& 0x3f).toInt64) ||| ((own_F16 (cs10.getD 1 0)).toInt64)) <<< ((6 : Int32) &&& 0x3f).toInt64) ||| ((own_F16 (cs10.getD 2 0)).toInt64)) <<< ((6 : Int32) &&& 0x3f).toInt64))])) rfl (by rw [hml]; rfl) (argsL := [(.int (cs10.getD 3 0))]) (rest := [(.long ((((((((0 : Int64) <<< ((6 : Int32) &&& 0x3f).toInt64) ||| ((own_F16 (cs10.getD 0 0)).toInt64)) <<< ((6 : Int32) &&& 0x3f).toInt64) ||| ((own_F16 (cs10.getD 1 0)).toInt64)) <<< ((6 : Int32) &&& 0x3f).toInt64) ||| ((own_F16 (cs10.getD 2 0)).toInt64)) <<< ((6 : Int32) &&& 0x3f).toInt64))]) (lenOf pd__C_I rfl) rfl (by show 2 * 0 + _ ≤ _; exact Nat.le_of_eq rfl) (hb hby d10_19) (fun _ _ => ⟨rfl, e19, (by decide : 0 + 0 ≤ _), (by decide : 0 + 0 ≤ _)⟩)
  dsimp only [Pt.U, Pt.locs, Pt.cells, Pt.slots] at X21 l21 y21 z21 st21 hQ21
  subst y21 z21
  obtain ⟨rfl, M21, e21⟩ := hQ21
  have N22 : Fr n0 L21 := by rw [l21]; exact Fr.app N20 M21
  refine own_by (T' := T21) (g' := (mkF m 22 #[.val (.ref a10_0), .val (.long (((((((0 : Int64) <<< ((6 : Int32) &&& 0x3f).toInt64) ||| ((own_F16 (cs10.getD 0 0)).toInt64)) <<< ((6 : Int32) &&& 0x3f).toInt64) ||| ((own_F16 (cs10.getD 1 0)).toInt64)) <<< ((6 : Int32) &&& 0x3f).toInt64) ||| ((own_F16 (cs10.getD 2 0)).toInt64))), .second, .val (.int (3 : Int32))] [(.int (own_F16 (cs10.getD 3 0))), (.long ((((((((0 : Int64) <<< ((6 : Int32) &&& 0x3f).toInt64) ||| ((own_F16 (cs10.getD 0 0)).toInt64)) <<< ((6 : Int32) &&& 0x3f).toInt64) ||| ((own_F16 (cs10.getD 1 0)).toInt64)) <<< ((6 : Int32) &&& 0x3f).toInt64) ||| ((own_F16 (cs10.getD 2 0)).toInt64)) <<< ((6 : Int32) &&& 0x3f).toInt64))])) st21 ?_
  refine own_by (T' := T21) (g' := (mkF m 16 #[.val (.ref a10_0), .val (.long (((((((((0 : Int64) <<< ((6 : Int32) &&& 0x3f).toInt64) ||| ((own_F16 (cs10.getD 0 0)).toInt64)) <<< ((6 : Int32) &&& 0x3f).toInt64) ||| ((own_F16 (cs10.getD 1 0)).toInt64)) <<< ((6 : Int32) &&& 0x3f).toInt64) ||| ((own_F16 (cs10.getD 2 0)).toInt64)) <<< ((6 : Int32) &&& 0x3f).toInt64) ||| ((own_F16 (cs10.getD 3 0)).toInt64))), .second, .val (.int (4 : Int32))] [(.int (4 : Int32)), (.ref a10_0), (.long ((((((((((0 : Int64) <<< ((6 : Int32) &&& 0x3f).toInt64) ||| ((own_F16 (cs10.getD 0 0)).toInt64)) <<< ((6 : Int32) &&& 0x3f).toInt64) ||| ((own_F16 (cs10.getD 1 0)).toInt64)) <<< ((6 : Int32) &&& 0x3f).toInt64) ||| ((own_F16 (cs10.getD 2 0)).toInt64)) <<< ((6 : Int32) &&& 0x3f).toInt64) ||| ((own_F16 (cs10.getD 3 0)).toInt64)) <<< ((6 : Int32) &&& 0x3f).toInt64))])) (fun t k => ?_) ?_
  · show Steps p.tables e below (T21.setTop (mkF m 22 #[.val (.ref a10_0), .val (.long (((((((0 : Int64) <<< ((6 : Int32) &&& 0x3f).toInt64) ||| ((own_F16 (cs10.getD 0 0)).toInt64)) <<< ((6 : Int32) &&& 0x3f).toInt64) ||| ((own_F16 (cs10.getD 1 0)).toInt64)) <<< ((6 : Int32) &&& 0x3f).toInt64) ||| ((own_F16 (cs10.getD 2 0)).toInt64))), .second, .val (.int (3 : Int32))] [(.int (own_F16 (cs10.getD 3 0))), (.long ((((((((0 : Int64) <<< ((6 : Int32) &&& 0x3f).toInt64) ||| ((own_F16 (cs10.getD 0 0)).toInt64)) <<< ((6 : Int32) &&& 0x3f).toInt64) ||| ((own_F16 (cs10.getD 1 0)).toInt64)) <<< ((6 : Int32) &&& 0x3f).toInt64) ||| ((own_F16 (cs10.getD 2 0)).toInt64)) <<< ((6 : Int32) &&& 0x3f).toInt64))])) t
    refine XS.i2l X21.here hx rfl (hb hby d10_22) rfl ?_
    show Steps p.tables e below (T21.setTop (mkF m 23 #[.val (.ref a10_0), .val (.long (((((((0 : Int64) <<< ((6 : Int32) &&& 0x3f).toInt64) ||| ((own_F16 (cs10.getD 0 0)).toInt64)) <<< ((6 : Int32) &&& 0x3f).toInt64) ||| ((own_F16 (cs10.getD 1 0)).toInt64)) <<< ((6 : Int32) &&& 0x3f).toInt64) ||| ((own_F16 (cs10.getD 2 0)).toInt64))), .second, .val (.int (3 : Int32))] [(.long ((own_F16 (cs10.getD 3 0)).toInt64)), (.long ((((((((0 : Int64) <<< ((6 : Int32) &&& 0x3f).toInt64) ||| ((own_F16 (cs10.getD 0 0)).toInt64)) <<< ((6 : Int32) &&& 0x3f).toInt64) ||| ((own_F16 (cs10.getD 1 0)).toInt64)) <<< ((6 : Int32) &&& 0x3f).toInt64) ||| ((own_F16 (cs10.getD 2 0)).toInt64)) <<< ((6 : Int32) &&& 0x3f).toInt64))])) t
    refine XS.lor X21.here hx rfl (hb hby d10_23) rfl ?_
    show Steps p.tables e below (T21.setTop (mkF m 24 #[.val (.ref a10_0), .val (.long (((((((0 : Int64) <<< ((6 : Int32) &&& 0x3f).toInt64) ||| ((own_F16 (cs10.getD 0 0)).toInt64)) <<< ((6 : Int32) &&& 0x3f).toInt64) ||| ((own_F16 (cs10.getD 1 0)).toInt64)) <<< ((6 : Int32) &&& 0x3f).toInt64) ||| ((own_F16 (cs10.getD 2 0)).toInt64))), .second, .val (.int (3 : Int32))] [(.long (((((((((0 : Int64) <<< ((6 : Int32) &&& 0x3f).toInt64) ||| ((own_F16 (cs10.getD 0 0)).toInt64)) <<< ((6 : Int32) &&& 0x3f).toInt64) ||| ((own_F16 (cs10.getD 1 0)).toInt64)) <<< ((6 : Int32) &&& 0x3f).toInt64) ||| ((own_F16 (cs10.getD 2 0)).toInt64)) <<< ((6 : Int32) &&& 0x3f).toInt64) ||| ((own_F16 (cs10.getD 3 0)).toInt64)))])) t
    refine XS.lstoreN X21.here hx rfl (hb hby d10_24) rfl (l' := #[.val (.ref a10_0), .val (.long (((((((((0 : Int64) <<< ((6 : Int32) &&& 0x3f).toInt64) ||| ((own_F16 (cs10.getD 0 0)).toInt64)) <<< ((6 : Int32) &&& 0x3f).toInt64) ||| ((own_F16 (cs10.getD 1 0)).toInt64)) <<< ((6 : Int32) &&& 0x3f).toInt64) ||| ((own_F16 (cs10.getD 2 0)).toInt64)) <<< ((6 : Int32) &&& 0x3f).toInt64) ||| ((own_F16 (cs10.getD 3 0)).toInt64))), .second, .val (.int (3 : Int32))]) rfl ?_
    show Steps p.tables e below (T21.setTop (mkF m 25 #[.val (.ref a10_0), .val (.long (((((((((0 : Int64) <<< ((6 : Int32) &&& 0x3f).toInt64) ||| ((own_F16 (cs10.getD 0 0)).toInt64)) <<< ((6 : Int32) &&& 0x3f).toInt64) ||| ((own_F16 (cs10.getD 1 0)).toInt64)) <<< ((6 : Int32) &&& 0x3f).toInt64) ||| ((own_F16 (cs10.getD 2 0)).toInt64)) <<< ((6 : Int32) &&& 0x3f).toInt64) ||| ((own_F16 (cs10.getD 3 0)).toInt64))), .second, .val (.int (3 : Int32))] [])) t
    refine XS.iinc X21.here hx rfl (hb hby d10_25) rfl (l' := #[.val (.ref a10_0), .val (.long (((((((((0 : Int64) <<< ((6 : Int32) &&& 0x3f).toInt64) ||| ((own_F16 (cs10.getD 0 0)).toInt64)) <<< ((6 : Int32) &&& 0x3f).toInt64) ||| ((own_F16 (cs10.getD 1 0)).toInt64)) <<< ((6 : Int32) &&& 0x3f).toInt64) ||| ((own_F16 (cs10.getD 2 0)).toInt64)) <<< ((6 : Int32) &&& 0x3f).toInt64) ||| ((own_F16 (cs10.getD 3 0)).toInt64))), .second, .val (.int (4 : Int32))]) rfl ?_
    show Steps p.tables e below (T21.setTop (mkF m 28 #[.val (.ref a10_0), .val (.long (((((((((0 : Int64) <<< ((6 : Int32) &&& 0x3f).toInt64) ||| ((own_F16 (cs10.getD 0 0)).toInt64)) <<< ((6 : Int32) &&& 0x3f).toInt64) ||| ((own_F16 (cs10.getD 1 0)).toInt64)) <<< ((6 : Int32) &&& 0x3f).toInt64) ||| ((own_F16 (cs10.getD 2 0)).toInt64)) <<< ((6 : Int32) &&& 0x3f).toInt64) ||| ((own_F16 (cs10.getD 3 0)).toInt64))), .second, .val (.int (4 : Int32))] [])) t
    refine XS.goto X21.here hx rfl (pc0 := 28) (pc' := 4) rfl (hb hby d10_28) (by decide) (by decide) ?_
    show Steps p.tables e below (T21.setTop (mkF m 4 #[.val (.ref a10_0), .val (.long (((((((((0 : Int64) <<< ((6 : Int32) &&& 0x3f).toInt64) ||| ((own_F16 (cs10.getD 0 0)).toInt64)) <<< ((6 : Int32) &&& 0x3f).toInt64) ||| ((own_F16 (cs10.getD 1 0)).toInt64)) <<< ((6 : Int32) &&& 0x3f).toInt64) ||| ((own_F16 (cs10.getD 2 0)).toInt64)) <<< ((6 : Int32) &&& 0x3f).toInt64) ||| ((own_F16 (cs10.getD 3 0)).toInt64))), .second, .val (.int (4 : Int32))] [])) t
    refine XS.iloadN X21.here hx rfl (hb hby d10_4) rfl ?_
    show Steps p.tables e below (T21.setTop (mkF m 5 #[.val (.ref a10_0), .val (.long (((((((((0 : Int64) <<< ((6 : Int32) &&& 0x3f).toInt64) ||| ((own_F16 (cs10.getD 0 0)).toInt64)) <<< ((6 : Int32) &&& 0x3f).toInt64) ||| ((own_F16 (cs10.getD 1 0)).toInt64)) <<< ((6 : Int32) &&& 0x3f).toInt64) ||| ((own_F16 (cs10.getD 2 0)).toInt64)) <<< ((6 : Int32) &&& 0x3f).toInt64) ||| ((own_F16 (cs10.getD 3 0)).toInt64))), .second, .val (.int (4 : Int32))] [(.int (4 : Int32))])) t
    refine XS.bipush X21.here hx rfl (hb hby d10_5) ?_
    show Steps p.tables e below (T21.setTop (mkF m 7 #[.val (.ref a10_0), .val (.long (((((((((0 : Int64) <<< ((6 : Int32) &&& 0x3f).toInt64) ||| ((own_F16 (cs10.getD 0 0)).toInt64)) <<< ((6 : Int32) &&& 0x3f).toInt64) ||| ((own_F16 (cs10.getD 1 0)).toInt64)) <<< ((6 : Int32) &&& 0x3f).toInt64) ||| ((own_F16 (cs10.getD 2 0)).toInt64)) <<< ((6 : Int32) &&& 0x3f).toInt64) ||| ((own_F16 (cs10.getD 3 0)).toInt64))), .second, .val (.int (4 : Int32))] [(.int (10 : Int32)), (.int (4 : Int32))])) t
    refine XS.icmpNo X21.here hx rfl (hb hby d10_7) rfl (tlt (by decide : (4 : Int32) < (10 : Int32))).2.1 ?_
    show Steps p.tables e below (T21.setTop (mkF m 10 #[.val (.ref a10_0), .val (.long (((((((((0 : Int64) <<< ((6 : Int32) &&& 0x3f).toInt64) ||| ((own_F16 (cs10.getD 0 0)).toInt64)) <<< ((6 : Int32) &&& 0x3f).toInt64) ||| ((own_F16 (cs10.getD 1 0)).toInt64)) <<< ((6 : Int32) &&& 0x3f).toInt64) ||| ((own_F16 (cs10.getD 2 0)).toInt64)) <<< ((6 : Int32) &&& 0x3f).toInt64) ||| ((own_F16 (cs10.getD 3 0)).toInt64))), .second, .val (.int (4 : Int32))] [])) t
    refine XS.lloadN X21.here hx rfl (hb hby d10_10) rfl ?_
    show Steps p.tables e below (T21.setTop (mkF m 11 #[.val (.ref a10_0), .val (.long (((((((((0 : Int64) <<< ((6 : Int32) &&& 0x3f).toInt64) ||| ((own_F16 (cs10.getD 0 0)).toInt64)) <<< ((6 : Int32) &&& 0x3f).toInt64) ||| ((own_F16 (cs10.getD 1 0)).toInt64)) <<< ((6 : Int32) &&& 0x3f).toInt64) ||| ((own_F16 (cs10.getD 2 0)).toInt64)) <<< ((6 : Int32) &&& 0x3f).toInt64) ||| ((own_F16 (cs10.getD 3 0)).toInt64))), .second, .val (.int (4 : Int32))] [(.long (((((((((0 : Int64) <<< ((6 : Int32) &&& 0x3f).toInt64) ||| ((own_F16 (cs10.getD 0 0)).toInt64)) <<< ((6 : Int32) &&& 0x3f).toInt64) ||| ((own_F16 (cs10.getD 1 0)).toInt64)) <<< ((6 : Int32) &&& 0x3f).toInt64) ||| ((own_F16 (cs10.getD 2 0)).toInt64)) <<< ((6 : Int32) &&& 0x3f).toInt64) ||| ((own_F16 (cs10.getD 3 0)).toInt64)))])) t
    refine XS.bipush X21.here hx rfl (hb hby d10_11) ?_
    show Steps p.tables e below (T21.setTop (mkF m 13 #[.val (.ref a10_0), .val (.long (((((((((0 : Int64) <<< ((6 : Int32) &&& 0x3f).toInt64) ||| ((own_F16 (cs10.getD 0 0)).toInt64)) <<< ((6 : Int32) &&& 0x3f).toInt64) ||| ((own_F16 (cs10.getD 1 0)).toInt64)) <<< ((6 : Int32) &&& 0x3f).toInt64) ||| ((own_F16 (cs10.getD 2 0)).toInt64)) <<< ((6 : Int32) &&& 0x3f).toInt64) ||| ((own_F16 (cs10.getD 3 0)).toInt64))), .second, .val (.int (4 : Int32))] [(.int (6 : Int32)), (.long (((((((((0 : Int64) <<< ((6 : Int32) &&& 0x3f).toInt64) ||| ((own_F16 (cs10.getD 0 0)).toInt64)) <<< ((6 : Int32) &&& 0x3f).toInt64) ||| ((own_F16 (cs10.getD 1 0)).toInt64)) <<< ((6 : Int32) &&& 0x3f).toInt64) ||| ((own_F16 (cs10.getD 2 0)).toInt64)) <<< ((6 : Int32) &&& 0x3f).toInt64) ||| ((own_F16 (cs10.getD 3 0)).toInt64)))])) t
    refine XS.lshl X21.here hx rfl (hb hby d10_13) rfl ?_
    show Steps p.tables e below (T21.setTop (mkF m 14 #[.val (.ref a10_0), .val (.long (((((((((0 : Int64) <<< ((6 : Int32) &&& 0x3f).toInt64) ||| ((own_F16 (cs10.getD 0 0)).toInt64)) <<< ((6 : Int32) &&& 0x3f).toInt64) ||| ((own_F16 (cs10.getD 1 0)).toInt64)) <<< ((6 : Int32) &&& 0x3f).toInt64) ||| ((own_F16 (cs10.getD 2 0)).toInt64)) <<< ((6 : Int32) &&& 0x3f).toInt64) ||| ((own_F16 (cs10.getD 3 0)).toInt64))), .second, .val (.int (4 : Int32))] [(.long ((((((((((0 : Int64) <<< ((6 : Int32) &&& 0x3f).toInt64) ||| ((own_F16 (cs10.getD 0 0)).toInt64)) <<< ((6 : Int32) &&& 0x3f).toInt64) ||| ((own_F16 (cs10.getD 1 0)).toInt64)) <<< ((6 : Int32) &&& 0x3f).toInt64) ||| ((own_F16 (cs10.getD 2 0)).toInt64)) <<< ((6 : Int32) &&& 0x3f).toInt64) ||| ((own_F16 (cs10.getD 3 0)).toInt64)) <<< ((6 : Int32) &&& 0x3f).toInt64))])) t
    refine XS.aloadN X21.here hx rfl (hb hby d10_14) rfl rfl ?_
    show Steps p.tables e below (T21.setTop (mkF m 15 #[.val (.ref a10_0), .val (.long (((((((((0 : Int64) <<< ((6 : Int32) &&& 0x3f).toInt64) ||| ((own_F16 (cs10.getD 0 0)).toInt64)) <<< ((6 : Int32) &&& 0x3f).toInt64) ||| ((own_F16 (cs10.getD 1 0)).toInt64)) <<< ((6 : Int32) &&& 0x3f).toInt64) ||| ((own_F16 (cs10.getD 2 0)).toInt64)) <<< ((6 : Int32) &&& 0x3f).toInt64) ||| ((own_F16 (cs10.getD 3 0)).toInt64))), .second, .val (.int (4 : Int32))] [(.ref a10_0), (.long ((((((((((0 : Int64) <<< ((6 : Int32) &&& 0x3f).toInt64) ||| ((own_F16 (cs10.getD 0 0)).toInt64)) <<< ((6 : Int32) &&& 0x3f).toInt64) ||| ((own_F16 (cs10.getD 1 0)).toInt64)) <<< ((6 : Int32) &&& 0x3f).toInt64) ||| ((own_F16 (cs10.getD 2 0)).toInt64)) <<< ((6 : Int32) &&& 0x3f).toInt64) ||| ((own_F16 (cs10.getD 3 0)).toInt64)) <<< ((6 : Int32) &&& 0x3f).toInt64))])) t
    refine XS.iloadN X21.here hx rfl (hb hby d10_15) rfl ?_
    show Steps p.tables e below (T21.setTop (mkF m 16 #[.val (.ref a10_0), .val (.long (((((((((0 : Int64) <<< ((6 : Int32) &&& 0x3f).toInt64) ||| ((own_F16 (cs10.getD 0 0)).toInt64)) <<< ((6 : Int32) &&& 0x3f).toInt64) ||| ((own_F16 (cs10.getD 1 0)).toInt64)) <<< ((6 : Int32) &&& 0x3f).toInt64) ||| ((own_F16 (cs10.getD 2 0)).toInt64)) <<< ((6 : Int32) &&& 0x3f).toInt64) ||| ((own_F16 (cs10.getD 3 0)).toInt64))), .second, .val (.int (4 : Int32))] [(.int (4 : Int32)), (.ref a10_0), (.long ((((((((((0 : Int64) <<< ((6 : Int32) &&& 0x3f).toInt64) ||| ((own_F16 (cs10.getD 0 0)).toInt64)) <<< ((6 : Int32) &&& 0x3f).toInt64) ||| ((own_F16 (cs10.getD 1 0)).toInt64)) <<< ((6 : Int32) &&& 0x3f).toInt64) ||| ((own_F16 (cs10.getD 2 0)).toInt64)) <<< ((6 : Int32) &&& 0x3f).toInt64) ||| ((own_F16 (cs10.getD 3 0)).toInt64)) <<< ((6 : Int32) &&& 0x3f).toInt64))])) t
    exact k
  have hch23 : ∀ d ∈ StrChars.Road.wordsChN, d.before a0 Z = true := fun d hd => hw d ((by decide +kernel : ∀ d ∈ StrChars.Road.wordsChN, d ∈ tables_1) d hd)
  have hcd23 : StrChars.Road.CodA cs10 0 (22 : Int32) ((cs10.map (fun c => c.toInt8.toInt32)).map Value.int) := StrChars.Road.codOf (n := 22) HL10 (fun x hx => (HP10 x hx).2)
  obtain ⟨cq23, kq23, q23a, q23b, q23c⟩ := isOf hZ e21 E10
  obtain ⟨v23, _, ⟨T23, L23, k23, n23⟩, -, X23, ⟨Lc23, hQ23, l23, y23, z23⟩, st23⟩ := X21.virtualBack hx (y := (⟨"java/lang/String", "charAt", "(I)C"⟩ : MethodName)) (z := (⟨"java/lang/String", "charAt", "(I)C"⟩ : MethodName)) hown (mvT hZ (hw _ (List.mem_of_getElem? (i := 46) rfl))) (mvT hZ (hw _ (List.mem_of_getElem? (i := 47) rfl))) (notFace_of_selects (args := #[]) (mvT hZ (hw _ (List.mem_of_getElem? (i := 49) rfl)))) (mvT hZ (hw _ (List.mem_of_getElem? (i := 49) rfl))) (mvT hZ (hw _ (List.mem_of_getElem? (i := 48) rfl))) (by decide) (StrChars.Road.chN (W := 2) hZ hch23 (kI := 4) (hw _ (List.mem_of_getElem? (i := 14) rfl)) E10 V10 C10 K10 hcd23 (own_up _ HP10) (SC.ext O0.2) HCS (SFm.ext O0.2) HFm (by rw [HL10]; decide) (i := 4) (by rw [HL10]; decide) (j := (4 : Int32)) rfl (by decide) (by decide)) q23a q23c (g := (mkF m 16 #[.val (.ref a10_0), .val (.long (((((((((0 : Int64) <<< ((6 : Int32) &&& 0x3f).toInt64) ||| ((own_F16 (cs10.getD 0 0)).toInt64)) <<< ((6 : Int32) &&& 0x3f).toInt64) ||| ((own_F16 (cs10.getD 1 0)).toInt64)) <<< ((6 : Int32) &&& 0x3f).toInt64) ||| ((own_F16 (cs10.getD 2 0)).toInt64)) <<< ((6 : Int32) &&& 0x3f).toInt64) ||| ((own_F16 (cs10.getD 3 0)).toInt64))), .second, .val (.int (4 : Int32))] [(.int (4 : Int32)), (.ref a10_0), (.long ((((((((((0 : Int64) <<< ((6 : Int32) &&& 0x3f).toInt64) ||| ((own_F16 (cs10.getD 0 0)).toInt64)) <<< ((6 : Int32) &&& 0x3f).toInt64) ||| ((own_F16 (cs10.getD 1 0)).toInt64)) <<< ((6 : Int32) &&& 0x3f).toInt64) ||| ((own_F16 (cs10.getD 2 0)).toInt64)) <<< ((6 : Int32) &&& 0x3f).toInt64) ||| ((own_F16 (cs10.getD 3 0)).toInt64)) <<< ((6 : Int32) &&& 0x3f).toInt64))])) rfl (by rw [hml]; rfl) (Steps.refl _) (argsL := [(.int (4 : Int32))]) (rest := [(.long ((((((((((0 : Int64) <<< ((6 : Int32) &&& 0x3f).toInt64) ||| ((own_F16 (cs10.getD 0 0)).toInt64)) <<< ((6 : Int32) &&& 0x3f).toInt64) ||| ((own_F16 (cs10.getD 1 0)).toInt64)) <<< ((6 : Int32) &&& 0x3f).toInt64) ||| ((own_F16 (cs10.getD 2 0)).toInt64)) <<< ((6 : Int32) &&& 0x3f).toInt64) ||| ((own_F16 (cs10.getD 3 0)).toInt64)) <<< ((6 : Int32) &&& 0x3f).toInt64))]) (lenOf pd__I_C rfl) rfl (by show 2 * 0 + _ ≤ _; exact Nat.le_of_eq rfl) (hb hby d10_16) (fun _ _ => ⟨rfl, e21, (by decide : 0 + 0 ≤ _), (by decide : 0 + 0 ≤ _)⟩)
  dsimp only [Pt.U, Pt.locs, Pt.cells, Pt.slots] at X23 l23 y23 z23 st23 hQ23
  subst y23 z23
  obtain ⟨rfl, rfl, e23⟩ := hQ23
  have N24 : Fr n0 L23 := by rw [l23]; exact Fr.app N22 (Fr.nil n0)
  refine own_via (T' := T23) (g' := (mkF m 19 #[.val (.ref a10_0), .val (.long (((((((((0 : Int64) <<< ((6 : Int32) &&& 0x3f).toInt64) ||| ((own_F16 (cs10.getD 0 0)).toInt64)) <<< ((6 : Int32) &&& 0x3f).toInt64) ||| ((own_F16 (cs10.getD 1 0)).toInt64)) <<< ((6 : Int32) &&& 0x3f).toInt64) ||| ((own_F16 (cs10.getD 2 0)).toInt64)) <<< ((6 : Int32) &&& 0x3f).toInt64) ||| ((own_F16 (cs10.getD 3 0)).toInt64))), .second, .val (.int (4 : Int32))] [(.int (cs10.getD 4 0)), (.long ((((((((((0 : Int64) <<< ((6 : Int32) &&& 0x3f).toInt64) ||| ((own_F16 (cs10.getD 0 0)).toInt64)) <<< ((6 : Int32) &&& 0x3f).toInt64) ||| ((own_F16 (cs10.getD 1 0)).toInt64)) <<< ((6 : Int32) &&& 0x3f).toInt64) ||| ((own_F16 (cs10.getD 2 0)).toInt64)) <<< ((6 : Int32) &&& 0x3f).toInt64) ||| ((own_F16 (cs10.getD 3 0)).toInt64)) <<< ((6 : Int32) &&& 0x3f).toInt64))])) st23 ?_
  obtain ⟨v25, _, ⟨T25, L25, k25, n25⟩, -, X25, ⟨Lc25, hQ25, l25, y25, z25⟩, st25⟩ := Jvm.LawKit.callS X23 hx (y := (⟨"com/example/vacant_errand/vacanterrand/PackedId", "place", "(C)I"⟩ : MethodName)) hown (mvT hZ (hw _ (List.mem_of_getElem? (i := 68) rfl))) (mvT hZ (hw _ (List.mem_of_getElem? (i := 69) rfl))) (mvT hZ (hw _ (List.mem_of_getElem? (i := 44) rfl))) (mvT hZ (hw _ (List.mem_of_getElem? (i := 70) rfl))) (by decide) (backOf (W := 2) (own_rm16 l Z a0 hw [] (cs10.getD 4 0) wPL cPL h0 n0 Z0 O0 (HP10 _ (own_mem cs10 HL10 4 (by decide))).1 SPL TPL) hZ (hw _ (List.mem_of_getElem? (i := 70) rfl)) (hw _ (List.mem_of_getElem? (i := 44) rfl)) (by decide) (by decide)) (g := (mkF m 19 #[.val (.ref a10_0), .val (.long (((((((((0 : Int64) <<< ((6 : Int32) &&& 0x3f).toInt64) ||| ((own_F16 (cs10.getD 0 0)).toInt64)) <<< ((6 : Int32) &&& 0x3f).toInt64) ||| ((own_F16 (cs10.getD 1 0)).toInt64)) <<< ((6 : Int32) &&& 0x3f).toInt64) ||| ((own_F16 (cs10.getD 2 0)).toInt64)) <<< ((6 : Int32) &&& 0x3f).toInt64) ||| ((own_F16 (cs10.getD 3 0)).toInt64))), .second, .val (.int (4 : Int32))] [(.int (cs10.getD 4 0)), (.long ((((((((((0 : Int64) <<< ((6 : Int32) &&& 0x3f).toInt64) ||| ((own_F16 (cs10.getD 0 0)).toInt64)) <<< ((6 : Int32) &&& 0x3f).toInt64) ||| ((own_F16 (cs10.getD 1 0)).toInt64)) <<< ((6 : Int32) &&& 0x3f).toInt64) ||| ((own_F16 (cs10.getD 2 0)).toInt64)) <<< ((6 : Int32) &&& 0x3f).toInt64) ||| ((own_F16 (cs10.getD 3 0)).toInt64)) <<< ((6 : Int32) &&& 0x3f).toInt64))])) rfl (by rw [hml]; rfl) (argsL := [(.int (cs10.getD 4 0))]) (rest := [(.long ((((((((((0 : Int64) <<< ((6 : Int32) &&& 0x3f).toInt64) ||| ((own_F16 (cs10.getD 0 0)).toInt64)) <<< ((6 : Int32) &&& 0x3f).toInt64) ||| ((own_F16 (cs10.getD 1 0)).toInt64)) <<< ((6 : Int32) &&& 0x3f).toInt64) ||| ((own_F16 (cs10.getD 2 0)).toInt64)) <<< ((6 : Int32) &&& 0x3f).toInt64) ||| ((own_F16 (cs10.getD 3 0)).toInt64)) <<< ((6 : Int32) &&& 0x3f).toInt64))]) (lenOf pd__C_I rfl) rfl (by show 2 * 0 + _ ≤ _; exact Nat.le_of_eq rfl) (hb hby d10_19) (fun _ _ => ⟨rfl, e23, (by decide : 0 + 0 ≤ _), (by decide : 0 + 0 ≤ _)⟩)
  dsimp only [Pt.U, Pt.locs, Pt.cells, Pt.slots] at X25 l25 y25 z25 st25 hQ25
  subst y25 z25
  obtain ⟨rfl, M25, e25⟩ := hQ25
  have N26 : Fr n0 L25 := by rw [l25]; exact Fr.app N24 M25
  refine own_by (T' := T25) (g' := (mkF m 22 #[.val (.ref a10_0), .val (.long (((((((((0 : Int64) <<< ((6 : Int32) &&& 0x3f).toInt64) ||| ((own_F16 (cs10.getD 0 0)).toInt64)) <<< ((6 : Int32) &&& 0x3f).toInt64) ||| ((own_F16 (cs10.getD 1 0)).toInt64)) <<< ((6 : Int32) &&& 0x3f).toInt64) ||| ((own_F16 (cs10.getD 2 0)).toInt64)) <<< ((6 : Int32) &&& 0x3f).toInt64) ||| ((own_F16 (cs10.getD 3 0)).toInt64))), .second, .val (.int (4 : Int32))] [(.int (own_F16 (cs10.getD 4 0))), (.long ((((((((((0 : Int64) <<< ((6 : Int32) &&& 0x3f).toInt64) ||| ((own_F16 (cs10.getD 0 0)).toInt64)) <<< ((6 : Int32) &&& 0x3f).toInt64) ||| ((own_F16 (cs10.getD 1 0)).toInt64)) <<< ((6 : Int32) &&& 0x3f).toInt64) ||| ((own_F16 (cs10.getD 2 0)).toInt64)) <<< ((6 : Int32) &&& 0x3f).toInt64) ||| ((own_F16 (cs10.getD 3 0)).toInt64)) <<< ((6 : Int32) &&& 0x3f).toInt64))])) st25 ?_
  refine own_by (T' := T25) (g' := (mkF m 16 #[.val (.ref a10_0), .val (.long (((((((((((0 : Int64) <<< ((6 : Int32) &&& 0x3f).toInt64) ||| ((own_F16 (cs10.getD 0 0)).toInt64)) <<< ((6 : Int32) &&& 0x3f).toInt64) ||| ((own_F16 (cs10.getD 1 0)).toInt64)) <<< ((6 : Int32) &&& 0x3f).toInt64) ||| ((own_F16 (cs10.getD 2 0)).toInt64)) <<< ((6 : Int32) &&& 0x3f).toInt64) ||| ((own_F16 (cs10.getD 3 0)).toInt64)) <<< ((6 : Int32) &&& 0x3f).toInt64) ||| ((own_F16 (cs10.getD 4 0)).toInt64))), .second, .val (.int (5 : Int32))] [(.int (5 : Int32)), (.ref a10_0), (.long ((((((((((((0 : Int64) <<< ((6 : Int32) &&& 0x3f).toInt64) ||| ((own_F16 (cs10.getD 0 0)).toInt64)) <<< ((6 : Int32) &&& 0x3f).toInt64) ||| ((own_F16 (cs10.getD 1 0)).toInt64)) <<< ((6 : Int32) &&& 0x3f).toInt64) ||| ((own_F16 (cs10.getD 2 0)).toInt64)) <<< ((6 : Int32) &&& 0x3f).toInt64) ||| ((own_F16 (cs10.getD 3 0)).toInt64)) <<< ((6 : Int32) &&& 0x3f).toInt64) ||| ((own_F16 (cs10.getD 4 0)).toInt64)) <<< ((6 : Int32) &&& 0x3f).toInt64))])) (fun t k => ?_) ?_
  · show Steps p.tables e below (T25.setTop (mkF m 22 #[.val (.ref a10_0), .val (.long (((((((((0 : Int64) <<< ((6 : Int32) &&& 0x3f).toInt64) ||| ((own_F16 (cs10.getD 0 0)).toInt64)) <<< ((6 : Int32) &&& 0x3f).toInt64) ||| ((own_F16 (cs10.getD 1 0)).toInt64)) <<< ((6 : Int32) &&& 0x3f).toInt64) ||| ((own_F16 (cs10.getD 2 0)).toInt64)) <<< ((6 : Int32) &&& 0x3f).toInt64) ||| ((own_F16 (cs10.getD 3 0)).toInt64))), .second, .val (.int (4 : Int32))] [(.int (own_F16 (cs10.getD 4 0))), (.long ((((((((((0 : Int64) <<< ((6 : Int32) &&& 0x3f).toInt64) ||| ((own_F16 (cs10.getD 0 0)).toInt64)) <<< ((6 : Int32) &&& 0x3f).toInt64) ||| ((own_F16 (cs10.getD 1 0)).toInt64)) <<< ((6 : Int32) &&& 0x3f).toInt64) ||| ((own_F16 (cs10.getD 2 0)).toInt64)) <<< ((6 : Int32) &&& 0x3f).toInt64) ||| ((own_F16 (cs10.getD 3 0)).toInt64)) <<< ((6 : Int32) &&& 0x3f).toInt64))])) t
    refine XS.i2l X25.here hx rfl (hb hby d10_22) rfl ?_
    show Steps p.tables e below (T25.setTop (mkF m 23 #[.val (.ref a10_0), .val (.long (((((((((0 : Int64) <<< ((6 : Int32) &&& 0x3f).toInt64) ||| ((own_F16 (cs10.getD 0 0)).toInt64)) <<< ((6 : Int32) &&& 0x3f).toInt64) ||| ((own_F16 (cs10.getD 1 0)).toInt64)) <<< ((6 : Int32) &&& 0x3f).toInt64) ||| ((own_F16 (cs10.getD 2 0)).toInt64)) <<< ((6 : Int32) &&& 0x3f).toInt64) ||| ((own_F16 (cs10.getD 3 0)).toInt64))), .second, .val (.int (4 : Int32))] [(.long ((own_F16 (cs10.getD 4 0)).toInt64)), (.long ((((((((((0 : Int64) <<< ((6 : Int32) &&& 0x3f).toInt64) ||| ((own_F16 (cs10.getD 0 0)).toInt64)) <<< ((6 : Int32) &&& 0x3f).toInt64) ||| ((own_F16 (cs10.getD 1 0)).toInt64)) <<< ((6 : Int32) &&& 0x3f).toInt64) ||| ((own_F16 (cs10.getD 2 0)).toInt64)) <<< ((6 : Int32) &&& 0x3f).toInt64) ||| ((own_F16 (cs10.getD 3 0)).toInt64)) <<< ((6 : Int32) &&& 0x3f).toInt64))])) t
    refine XS.lor X25.here hx rfl (hb hby d10_23) rfl ?_
    show Steps p.tables e below (T25.setTop (mkF m 24 #[.val (.ref a10_0), .val (.long (((((((((0 : Int64) <<< ((6 : Int32) &&& 0x3f).toInt64) ||| ((own_F16 (cs10.getD 0 0)).toInt64)) <<< ((6 : Int32) &&& 0x3f).toInt64) ||| ((own_F16 (cs10.getD 1 0)).toInt64)) <<< ((6 : Int32) &&& 0x3f).toInt64) ||| ((own_F16 (cs10.getD 2 0)).toInt64)) <<< ((6 : Int32) &&& 0x3f).toInt64) ||| ((own_F16 (cs10.getD 3 0)).toInt64))), .second, .val (.int (4 : Int32))] [(.long (((((((((((0 : Int64) <<< ((6 : Int32) &&& 0x3f).toInt64) ||| ((own_F16 (cs10.getD 0 0)).toInt64)) <<< ((6 : Int32) &&& 0x3f).toInt64) ||| ((own_F16 (cs10.getD 1 0)).toInt64)) <<< ((6 : Int32) &&& 0x3f).toInt64) ||| ((own_F16 (cs10.getD 2 0)).toInt64)) <<< ((6 : Int32) &&& 0x3f).toInt64) ||| ((own_F16 (cs10.getD 3 0)).toInt64)) <<< ((6 : Int32) &&& 0x3f).toInt64) ||| ((own_F16 (cs10.getD 4 0)).toInt64)))])) t
    refine XS.lstoreN X25.here hx rfl (hb hby d10_24) rfl (l' := #[.val (.ref a10_0), .val (.long (((((((((((0 : Int64) <<< ((6 : Int32) &&& 0x3f).toInt64) ||| ((own_F16 (cs10.getD 0 0)).toInt64)) <<< ((6 : Int32) &&& 0x3f).toInt64) ||| ((own_F16 (cs10.getD 1 0)).toInt64)) <<< ((6 : Int32) &&& 0x3f).toInt64) ||| ((own_F16 (cs10.getD 2 0)).toInt64)) <<< ((6 : Int32) &&& 0x3f).toInt64) ||| ((own_F16 (cs10.getD 3 0)).toInt64)) <<< ((6 : Int32) &&& 0x3f).toInt64) ||| ((own_F16 (cs10.getD 4 0)).toInt64))), .second, .val (.int (4 : Int32))]) rfl ?_
    show Steps p.tables e below (T25.setTop (mkF m 25 #[.val (.ref a10_0), .val (.long (((((((((((0 : Int64) <<< ((6 : Int32) &&& 0x3f).toInt64) ||| ((own_F16 (cs10.getD 0 0)).toInt64)) <<< ((6 : Int32) &&& 0x3f).toInt64) ||| ((own_F16 (cs10.getD 1 0)).toInt64)) <<< ((6 : Int32) &&& 0x3f).toInt64) ||| ((own_F16 (cs10.getD 2 0)).toInt64)) <<< ((6 : Int32) &&& 0x3f).toInt64) ||| ((own_F16 (cs10.getD 3 0)).toInt64)) <<< ((6 : Int32) &&& 0x3f).toInt64) ||| ((own_F16 (cs10.getD 4 0)).toInt64))), .second, .val (.int (4 : Int32))] [])) t
    refine XS.iinc X25.here hx rfl (hb hby d10_25) rfl (l' := #[.val (.ref a10_0), .val (.long (((((((((((0 : Int64) <<< ((6 : Int32) &&& 0x3f).toInt64) ||| ((own_F16 (cs10.getD 0 0)).toInt64)) <<< ((6 : Int32) &&& 0x3f).toInt64) ||| ((own_F16 (cs10.getD 1 0)).toInt64)) <<< ((6 : Int32) &&& 0x3f).toInt64) ||| ((own_F16 (cs10.getD 2 0)).toInt64)) <<< ((6 : Int32) &&& 0x3f).toInt64) ||| ((own_F16 (cs10.getD 3 0)).toInt64)) <<< ((6 : Int32) &&& 0x3f).toInt64) ||| ((own_F16 (cs10.getD 4 0)).toInt64))), .second, .val (.int (5 : Int32))]) rfl ?_
    show Steps p.tables e below (T25.setTop (mkF m 28 #[.val (.ref a10_0), .val (.long (((((((((((0 : Int64) <<< ((6 : Int32) &&& 0x3f).toInt64) ||| ((own_F16 (cs10.getD 0 0)).toInt64)) <<< ((6 : Int32) &&& 0x3f).toInt64) ||| ((own_F16 (cs10.getD 1 0)).toInt64)) <<< ((6 : Int32) &&& 0x3f).toInt64) ||| ((own_F16 (cs10.getD 2 0)).toInt64)) <<< ((6 : Int32) &&& 0x3f).toInt64) ||| ((own_F16 (cs10.getD 3 0)).toInt64)) <<< ((6 : Int32) &&& 0x3f).toInt64) ||| ((own_F16 (cs10.getD 4 0)).toInt64))), .second, .val (.int (5 : Int32))] [])) t
    refine XS.goto X25.here hx rfl (pc0 := 28) (pc' := 4) rfl (hb hby d10_28) (by decide) (by decide) ?_
    show Steps p.tables e below (T25.setTop (mkF m 4 #[.val (.ref a10_0), .val (.long (((((((((((0 : Int64) <<< ((6 : Int32) &&& 0x3f).toInt64) ||| ((own_F16 (cs10.getD 0 0)).toInt64)) <<< ((6 : Int32) &&& 0x3f).toInt64) ||| ((own_F16 (cs10.getD 1 0)).toInt64)) <<< ((6 : Int32) &&& 0x3f).toInt64) ||| ((own_F16 (cs10.getD 2 0)).toInt64)) <<< ((6 : Int32) &&& 0x3f).toInt64) ||| ((own_F16 (cs10.getD 3 0)).toInt64)) <<< ((6 : Int32) &&& 0x3f).toInt64) ||| ((own_F16 (cs10.getD 4 0)).toInt64))), .second, .val (.int (5 : Int32))] [])) t
    refine XS.iloadN X25.here hx rfl (hb hby d10_4) rfl ?_
    show Steps p.tables e below (T25.setTop (mkF m 5 #[.val (.ref a10_0), .val (.long (((((((((((0 : Int64) <<< ((6 : Int32) &&& 0x3f).toInt64) ||| ((own_F16 (cs10.getD 0 0)).toInt64)) <<< ((6 : Int32) &&& 0x3f).toInt64) ||| ((own_F16 (cs10.getD 1 0)).toInt64)) <<< ((6 : Int32) &&& 0x3f).toInt64) ||| ((own_F16 (cs10.getD 2 0)).toInt64)) <<< ((6 : Int32) &&& 0x3f).toInt64) ||| ((own_F16 (cs10.getD 3 0)).toInt64)) <<< ((6 : Int32) &&& 0x3f).toInt64) ||| ((own_F16 (cs10.getD 4 0)).toInt64))), .second, .val (.int (5 : Int32))] [(.int (5 : Int32))])) t
    refine XS.bipush X25.here hx rfl (hb hby d10_5) ?_
    show Steps p.tables e below (T25.setTop (mkF m 7 #[.val (.ref a10_0), .val (.long (((((((((((0 : Int64) <<< ((6 : Int32) &&& 0x3f).toInt64) ||| ((own_F16 (cs10.getD 0 0)).toInt64)) <<< ((6 : Int32) &&& 0x3f).toInt64) ||| ((own_F16 (cs10.getD 1 0)).toInt64)) <<< ((6 : Int32) &&& 0x3f).toInt64) ||| ((own_F16 (cs10.getD 2 0)).toInt64)) <<< ((6 : Int32) &&& 0x3f).toInt64) ||| ((own_F16 (cs10.getD 3 0)).toInt64)) <<< ((6 : Int32) &&& 0x3f).toInt64) ||| ((own_F16 (cs10.getD 4 0)).toInt64))), .second, .val (.int (5 : Int32))] [(.int (10 : Int32)), (.int (5 : Int32))])) t
    refine XS.icmpNo X25.here hx rfl (hb hby d10_7) rfl (tlt (by decide : (5 : Int32) < (10 : Int32))).2.1 ?_
    show Steps p.tables e below (T25.setTop (mkF m 10 #[.val (.ref a10_0), .val (.long (((((((((((0 : Int64) <<< ((6 : Int32) &&& 0x3f).toInt64) ||| ((own_F16 (cs10.getD 0 0)).toInt64)) <<< ((6 : Int32) &&& 0x3f).toInt64) ||| ((own_F16 (cs10.getD 1 0)).toInt64)) <<< ((6 : Int32) &&& 0x3f).toInt64) ||| ((own_F16 (cs10.getD 2 0)).toInt64)) <<< ((6 : Int32) &&& 0x3f).toInt64) ||| ((own_F16 (cs10.getD 3 0)).toInt64)) <<< ((6 : Int32) &&& 0x3f).toInt64) ||| ((own_F16 (cs10.getD 4 0)).toInt64))), .second, .val (.int (5 : Int32))] [])) t
    refine XS.lloadN X25.here hx rfl (hb hby d10_10) rfl ?_
    show Steps p.tables e below (T25.setTop (mkF m 11 #[.val (.ref a10_0), .val (.long (((((((((((0 : Int64) <<< ((6 : Int32) &&& 0x3f).toInt64) ||| ((own_F16 (cs10.getD 0 0)).toInt64)) <<< ((6 : Int32) &&& 0x3f).toInt64) ||| ((own_F16 (cs10.getD 1 0)).toInt64)) <<< ((6 : Int32) &&& 0x3f).toInt64) ||| ((own_F16 (cs10.getD 2 0)).toInt64)) <<< ((6 : Int32) &&& 0x3f).toInt64) ||| ((own_F16 (cs10.getD 3 0)).toInt64)) <<< ((6 : Int32) &&& 0x3f).toInt64) ||| ((own_F16 (cs10.getD 4 0)).toInt64))), .second, .val (.int (5 : Int32))] [(.long (((((((((((0 : Int64) <<< ((6 : Int32) &&& 0x3f).toInt64) ||| ((own_F16 (cs10.getD 0 0)).toInt64)) <<< ((6 : Int32) &&& 0x3f).toInt64) ||| ((own_F16 (cs10.getD 1 0)).toInt64)) <<< ((6 : Int32) &&& 0x3f).toInt64) ||| ((own_F16 (cs10.getD 2 0)).toInt64)) <<< ((6 : Int32) &&& 0x3f).toInt64) ||| ((own_F16 (cs10.getD 3 0)).toInt64)) <<< ((6 : Int32) &&& 0x3f).toInt64) ||| ((own_F16 (cs10.getD 4 0)).toInt64)))])) t
    refine XS.bipush X25.here hx rfl (hb hby d10_11) ?_
    show Steps p.tables e below (T25.setTop (mkF m 13 #[.val (.ref a10_0), .val (.long (((((((((((0 : Int64) <<< ((6 : Int32) &&& 0x3f).toInt64) ||| ((own_F16 (cs10.getD 0 0)).toInt64)) <<< ((6 : Int32) &&& 0x3f).toInt64) ||| ((own_F16 (cs10.getD 1 0)).toInt64)) <<< ((6 : Int32) &&& 0x3f).toInt64) ||| ((own_F16 (cs10.getD 2 0)).toInt64)) <<< ((6 : Int32) &&& 0x3f).toInt64) ||| ((own_F16 (cs10.getD 3 0)).toInt64)) <<< ((6 : Int32) &&& 0x3f).toInt64) ||| ((own_F16 (cs10.getD 4 0)).toInt64))), .second, .val (.int (5 : Int32))] [(.int (6 : Int32)), (.long (((((((((((0 : Int64) <<< ((6 : Int32) &&& 0x3f).toInt64) ||| ((own_F16 (cs10.getD 0 0)).toInt64)) <<< ((6 : Int32) &&& 0x3f).toInt64) ||| ((own_F16 (cs10.getD 1 0)).toInt64)) <<< ((6 : Int32) &&& 0x3f).toInt64) ||| ((own_F16 (cs10.getD 2 0)).toInt64)) <<< ((6 : Int32) &&& 0x3f).toInt64) ||| ((own_F16 (cs10.getD 3 0)).toInt64)) <<< ((6 : Int32) &&& 0x3f).toInt64) ||| ((own_F16 (cs10.getD 4 0)).toInt64)))])) t
    refine XS.lshl X25.here hx rfl (hb hby d10_13) rfl ?_
    show Steps p.tables e below (T25.setTop (mkF m 14 #[.val (.ref a10_0), .val (.long (((((((((((0 : Int64) <<< ((6 : Int32) &&& 0x3f).toInt64) ||| ((own_F16 (cs10.getD 0 0)).toInt64)) <<< ((6 : Int32) &&& 0x3f).toInt64) ||| ((own_F16 (cs10.getD 1 0)).toInt64)) <<< ((6 : Int32) &&& 0x3f).toInt64) ||| ((own_F16 (cs10.getD 2 0)).toInt64)) <<< ((6 : Int32) &&& 0x3f).toInt64) ||| ((own_F16 (cs10.getD 3 0)).toInt64)) <<< ((6 : Int32) &&& 0x3f).toInt64) ||| ((own_F16 (cs10.getD 4 0)).toInt64))), .second, .val (.int (5 : Int32))] [(.long ((((((((((((0 : Int64) <<< ((6 : Int32) &&& 0x3f).toInt64) ||| ((own_F16 (cs10.getD 0 0)).toInt64)) <<< ((6 : Int32) &&& 0x3f).toInt64) ||| ((own_F16 (cs10.getD 1 0)).toInt64)) <<< ((6 : Int32) &&& 0x3f).toInt64) ||| ((own_F16 (cs10.getD 2 0)).toInt64)) <<< ((6 : Int32) &&& 0x3f).toInt64) ||| ((own_F16 (cs10.getD 3 0)).toInt64)) <<< ((6 : Int32) &&& 0x3f).toInt64) ||| ((own_F16 (cs10.getD 4 0)).toInt64)) <<< ((6 : Int32) &&& 0x3f).toInt64))])) t
    refine XS.aloadN X25.here hx rfl (hb hby d10_14) rfl rfl ?_
    show Steps p.tables e below (T25.setTop (mkF m 15 #[.val (.ref a10_0), .val (.long (((((((((((0 : Int64) <<< ((6 : Int32) &&& 0x3f).toInt64) ||| ((own_F16 (cs10.getD 0 0)).toInt64)) <<< ((6 : Int32) &&& 0x3f).toInt64) ||| ((own_F16 (cs10.getD 1 0)).toInt64)) <<< ((6 : Int32) &&& 0x3f).toInt64) ||| ((own_F16 (cs10.getD 2 0)).toInt64)) <<< ((6 : Int32) &&& 0x3f).toInt64) ||| ((own_F16 (cs10.getD 3 0)).toInt64)) <<< ((6 : Int32) &&& 0x3f).toInt64) ||| ((own_F16 (cs10.getD 4 0)).toInt64))), .second, .val (.int (5 : Int32))] [(.ref a10_0), (.long ((((((((((((0 : Int64) <<< ((6 : Int32) &&& 0x3f).toInt64) ||| ((own_F16 (cs10.getD 0 0)).toInt64)) <<< ((6 : Int32) &&& 0x3f).toInt64) ||| ((own_F16 (cs10.getD 1 0)).toInt64)) <<< ((6 : Int32) &&& 0x3f).toInt64) ||| ((own_F16 (cs10.getD 2 0)).toInt64)) <<< ((6 : Int32) &&& 0x3f).toInt64) ||| ((own_F16 (cs10.getD 3 0)).toInt64)) <<< ((6 : Int32) &&& 0x3f).toInt64) ||| ((own_F16 (cs10.getD 4 0)).toInt64)) <<< ((6 : Int32) &&& 0x3f).toInt64))])) t
    refine XS.iloadN X25.here hx rfl (hb hby d10_15) rfl ?_
    show Steps p.tables e below (T25.setTop (mkF m 16 #[.val (.ref a10_0), .val (.long (((((((((((0 : Int64) <<< ((6 : Int32) &&& 0x3f).toInt64) ||| ((own_F16 (cs10.getD 0 0)).toInt64)) <<< ((6 : Int32) &&& 0x3f).toInt64) ||| ((own_F16 (cs10.getD 1 0)).toInt64)) <<< ((6 : Int32) &&& 0x3f).toInt64) ||| ((own_F16 (cs10.getD 2 0)).toInt64)) <<< ((6 : Int32) &&& 0x3f).toInt64) ||| ((own_F16 (cs10.getD 3 0)).toInt64)) <<< ((6 : Int32) &&& 0x3f).toInt64) ||| ((own_F16 (cs10.getD 4 0)).toInt64))), .second, .val (.int (5 : Int32))] [(.int (5 : Int32)), (.ref a10_0), (.long ((((((((((((0 : Int64) <<< ((6 : Int32) &&& 0x3f).toInt64) ||| ((own_F16 (cs10.getD 0 0)).toInt64)) <<< ((6 : Int32) &&& 0x3f).toInt64) ||| ((own_F16 (cs10.getD 1 0)).toInt64)) <<< ((6 : Int32) &&& 0x3f).toInt64) ||| ((own_F16 (cs10.getD 2 0)).toInt64)) <<< ((6 : Int32) &&& 0x3f).toInt64) ||| ((own_F16 (cs10.getD 3 0)).toInt64)) <<< ((6 : Int32) &&& 0x3f).toInt64) ||| ((own_F16 (cs10.getD 4 0)).toInt64)) <<< ((6 : Int32) &&& 0x3f).toInt64))])) t
    exact k
  have hch27 : ∀ d ∈ StrChars.Road.wordsChN, d.before a0 Z = true := fun d hd => hw d ((by decide +kernel : ∀ d ∈ StrChars.Road.wordsChN, d ∈ tables_1) d hd)
  have hcd27 : StrChars.Road.CodA cs10 0 (22 : Int32) ((cs10.map (fun c => c.toInt8.toInt32)).map Value.int) := StrChars.Road.codOf (n := 22) HL10 (fun x hx => (HP10 x hx).2)
  obtain ⟨cq27, kq27, q27a, q27b, q27c⟩ := isOf hZ e25 E10
  obtain ⟨v27, _, ⟨T27, L27, k27, n27⟩, -, X27, ⟨Lc27, hQ27, l27, y27, z27⟩, st27⟩ := X25.virtualBack hx (y := (⟨"java/lang/String", "charAt", "(I)C"⟩ : MethodName)) (z := (⟨"java/lang/String", "charAt", "(I)C"⟩ : MethodName)) hown (mvT hZ (hw _ (List.mem_of_getElem? (i := 46) rfl))) (mvT hZ (hw _ (List.mem_of_getElem? (i := 47) rfl))) (notFace_of_selects (args := #[]) (mvT hZ (hw _ (List.mem_of_getElem? (i := 49) rfl)))) (mvT hZ (hw _ (List.mem_of_getElem? (i := 49) rfl))) (mvT hZ (hw _ (List.mem_of_getElem? (i := 48) rfl))) (by decide) (StrChars.Road.chN (W := 2) hZ hch27 (kI := 4) (hw _ (List.mem_of_getElem? (i := 14) rfl)) E10 V10 C10 K10 hcd27 (own_up _ HP10) (SC.ext O0.2) HCS (SFm.ext O0.2) HFm (by rw [HL10]; decide) (i := 5) (by rw [HL10]; decide) (j := (5 : Int32)) rfl (by decide) (by decide)) q27a q27c (g := (mkF m 16 #[.val (.ref a10_0), .val (.long (((((((((((0 : Int64) <<< ((6 : Int32) &&& 0x3f).toInt64) ||| ((own_F16 (cs10.getD 0 0)).toInt64)) <<< ((6 : Int32) &&& 0x3f).toInt64) ||| ((own_F16 (cs10.getD 1 0)).toInt64)) <<< ((6 : Int32) &&& 0x3f).toInt64) ||| ((own_F16 (cs10.getD 2 0)).toInt64)) <<< ((6 : Int32) &&& 0x3f).toInt64) ||| ((own_F16 (cs10.getD 3 0)).toInt64)) <<< ((6 : Int32) &&& 0x3f).toInt64) ||| ((own_F16 (cs10.getD 4 0)).toInt64))), .second, .val (.int (5 : Int32))] [(.int (5 : Int32)), (.ref a10_0), (.long ((((((((((((0 : Int64) <<< ((6 : Int32) &&& 0x3f).toInt64) ||| ((own_F16 (cs10.getD 0 0)).toInt64)) <<< ((6 : Int32) &&& 0x3f).toInt64) ||| ((own_F16 (cs10.getD 1 0)).toInt64)) <<< ((6 : Int32) &&& 0x3f).toInt64) ||| ((own_F16 (cs10.getD 2 0)).toInt64)) <<< ((6 : Int32) &&& 0x3f).toInt64) ||| ((own_F16 (cs10.getD 3 0)).toInt64)) <<< ((6 : Int32) &&& 0x3f).toInt64) ||| ((own_F16 (cs10.getD 4 0)).toInt64)) <<< ((6 : Int32) &&& 0x3f).toInt64))])) rfl (by rw [hml]; rfl) (Steps.refl _) (argsL := [(.int (5 : Int32))]) (rest := [(.long ((((((((((((0 : Int64) <<< ((6 : Int32) &&& 0x3f).toInt64) ||| ((own_F16 (cs10.getD 0 0)).toInt64)) <<< ((6 : Int32) &&& 0x3f).toInt64) ||| ((own_F16 (cs10.getD 1 0)).toInt64)) <<< ((6 : Int32) &&& 0x3f).toInt64) ||| ((own_F16 (cs10.getD 2 0)).toInt64)) <<< ((6 : Int32) &&& 0x3f).toInt64) ||| ((own_F16 (cs10.getD 3 0)).toInt64)) <<< ((6 : Int32) &&& 0x3f).toInt64) ||| ((own_F16 (cs10.getD 4 0)).toInt64)) <<< ((6 : Int32) &&& 0x3f).toInt64))]) (lenOf pd__I_C rfl) rfl (by show 2 * 0 + _ ≤ _; exact Nat.le_of_eq rfl) (hb hby d10_16) (fun _ _ => ⟨rfl, e25, (by decide : 0 + 0 ≤ _), (by decide : 0 + 0 ≤ _)⟩)
  dsimp only [Pt.U, Pt.locs, Pt.cells, Pt.slots] at X27 l27 y27 z27 st27 hQ27
  subst y27 z27
  obtain ⟨rfl, rfl, e27⟩ := hQ27
  have N28 : Fr n0 L27 := by rw [l27]; exact Fr.app N26 (Fr.nil n0)
  refine own_via (T' := T27) (g' := (mkF m 19 #[.val (.ref a10_0), .val (.long (((((((((((0 : Int64) <<< ((6 : Int32) &&& 0x3f).toInt64) ||| ((own_F16 (cs10.getD 0 0)).toInt64)) <<< ((6 : Int32) &&& 0x3f).toInt64) ||| ((own_F16 (cs10.getD 1 0)).toInt64)) <<< ((6 : Int32) &&& 0x3f).toInt64) ||| ((own_F16 (cs10.getD 2 0)).toInt64)) <<< ((6 : Int32) &&& 0x3f).toInt64) ||| ((own_F16 (cs10.getD 3 0)).toInt64)) <<< ((6 : Int32) &&& 0x3f).toInt64) ||| ((own_F16 (cs10.getD 4 0)).toInt64))), .second, .val (.int (5 : Int32))] [(.int (cs10.getD 5 0)), (.long ((((((((((((0 : Int64) <<< ((6 : Int32) &&& 0x3f).toInt64) ||| ((own_F16 (cs10.getD 0 0)).toInt64)) <<< ((6 : Int32) &&& 0x3f).toInt64) ||| ((own_F16 (cs10.getD 1 0)).toInt64)) <<< ((6 : Int32) &&& 0x3f).toInt64) ||| ((own_F16 (cs10.getD 2 0)).toInt64)) <<< ((6 : Int32) &&& 0x3f).toInt64) ||| ((own_F16 (cs10.getD 3 0)).toInt64)) <<< ((6 : Int32) &&& 0x3f).toInt64) ||| ((own_F16 (cs10.getD 4 0)).toInt64)) <<< ((6 : Int32) &&& 0x3f).toInt64))])) st27 ?_
  obtain ⟨v29, _, ⟨T29, L29, k29, n29⟩, -, X29, ⟨Lc29, hQ29, l29, y29, z29⟩, st29⟩ := Jvm.LawKit.callS X27 hx (y := (⟨"com/example/vacant_errand/vacanterrand/PackedId", "place", "(C)I"⟩ : MethodName)) hown (mvT hZ (hw _ (List.mem_of_getElem? (i := 68) rfl))) (mvT hZ (hw _ (List.mem_of_getElem? (i := 69) rfl))) (mvT hZ (hw _ (List.mem_of_getElem? (i := 44) rfl))) (mvT hZ (hw _ (List.mem_of_getElem? (i := 70) rfl))) (by decide) (backOf (W := 2) (own_rm16 l Z a0 hw [] (cs10.getD 5 0) wPL cPL h0 n0 Z0 O0 (HP10 _ (own_mem cs10 HL10 5 (by decide))).1 SPL TPL) hZ (hw _ (List.mem_of_getElem? (i := 70) rfl)) (hw _ (List.mem_of_getElem? (i := 44) rfl)) (by decide) (by decide)) (g := (mkF m 19 #[.val (.ref a10_0), .val (.long (((((((((((0 : Int64) <<< ((6 : Int32) &&& 0x3f).toInt64) ||| ((own_F16 (cs10.getD 0 0)).toInt64)) <<< ((6 : Int32) &&& 0x3f).toInt64) ||| ((own_F16 (cs10.getD 1 0)).toInt64)) <<< ((6 : Int32) &&& 0x3f).toInt64) ||| ((own_F16 (cs10.getD 2 0)).toInt64)) <<< ((6 : Int32) &&& 0x3f).toInt64) ||| ((own_F16 (cs10.getD 3 0)).toInt64)) <<< ((6 : Int32) &&& 0x3f).toInt64) ||| ((own_F16 (cs10.getD 4 0)).toInt64))), .second, .val (.int (5 : Int32))] [(.int (cs10.getD 5 0)), (.long ((((((((((((0 : Int64) <<< ((6 : Int32) &&& 0x3f).toInt64) ||| ((own_F16 (cs10.getD 0 0)).toInt64)) <<< ((6 : Int32) &&& 0x3f).toInt64) ||| ((own_F16 (cs10.getD 1 0)).toInt64)) <<< ((6 : Int32) &&& 0x3f).toInt64) ||| ((own_F16 (cs10.getD 2 0)).toInt64)) <<< ((6 : Int32) &&& 0x3f).toInt64) ||| ((own_F16 (cs10.getD 3 0)).toInt64)) <<< ((6 : Int32) &&& 0x3f).toInt64) ||| ((own_F16 (cs10.getD 4 0)).toInt64)) <<< ((6 : Int32) &&& 0x3f).toInt64))])) rfl (by rw [hml]; rfl) (argsL := [(.int (cs10.getD 5 0))]) (rest := [(.long ((((((((((((0 : Int64) <<< ((6 : Int32) &&& 0x3f).toInt64) ||| ((own_F16 (cs10.getD 0 0)).toInt64)) <<< ((6 : Int32) &&& 0x3f).toInt64) ||| ((own_F16 (cs10.getD 1 0)).toInt64)) <<< ((6 : Int32) &&& 0x3f).toInt64) ||| ((own_F16 (cs10.getD 2 0)).toInt64)) <<< ((6 : Int32) &&& 0x3f).toInt64) ||| ((own_F16 (cs10.getD 3 0)).toInt64)) <<< ((6 : Int32) &&& 0x3f).toInt64) ||| ((own_F16 (cs10.getD 4 0)).toInt64)) <<< ((6 : Int32) &&& 0x3f).toInt64))]) (lenOf pd__C_I rfl) rfl (by show 2 * 0 + _ ≤ _; exact Nat.le_of_eq rfl) (hb hby d10_19) (fun _ _ => ⟨rfl, e27, (by decide : 0 + 0 ≤ _), (by decide : 0 + 0 ≤ _)⟩)
  dsimp only [Pt.U, Pt.locs, Pt.cells, Pt.slots] at X29 l29 y29 z29 st29 hQ29
  subst y29 z29
  obtain ⟨rfl, M29, e29⟩ := hQ29
  have N30 : Fr n0 L29 := by rw [l29]; exact Fr.app N28 M29
  refine own_by (T' := T29) (g' := (mkF m 22 #[.val (.ref a10_0), .val (.long (((((((((((0 : Int64) <<< ((6 : Int32) &&& 0x3f).toInt64) ||| ((own_F16 (cs10.getD 0 0)).toInt64)) <<< ((6 : Int32) &&& 0x3f).toInt64) ||| ((own_F16 (cs10.getD 1 0)).toInt64)) <<< ((6 : Int32) &&& 0x3f).toInt64) ||| ((own_F16 (cs10.getD 2 0)).toInt64)) <<< ((6 : Int32) &&& 0x3f).toInt64) ||| ((own_F16 (cs10.getD 3 0)).toInt64)) <<< ((6 : Int32) &&& 0x3f).toInt64) ||| ((own_F16 (cs10.getD 4 0)).toInt64))), .second, .val (.int (5 : Int32))] [(.int (own_F16 (cs10.getD 5 0))), (.long ((((((((((((0 : Int64) <<< ((6 : Int32) &&& 0x3f).toInt64) ||| ((own_F16 (cs10.getD 0 0)).toInt64)) <<< ((6 : Int32) &&& 0x3f).toInt64) ||| ((own_F16 (cs10.getD 1 0)).toInt64)) <<< ((6 : Int32) &&& 0x3f).toInt64) ||| ((own_F16 (cs10.getD 2 0)).toInt64)) <<< ((6 : Int32) &&& 0x3f).toInt64) ||| ((own_F16 (cs10.getD 3 0)).toInt64)) <<< ((6 : Int32) &&& 0x3f).toInt64) ||| ((own_F16 (cs10.getD 4 0)).toInt64)) <<< ((6 : Int32) &&& 0x3f).toInt64))])) st29 ?_
  refine own_by (T' := T29) (g' := (mkF m 16 #[.val (.ref a10_0), .val (.long (((((((((((((0 : Int64) <<< ((6 : Int32) &&& 0x3f).toInt64) ||| ((own_F16 (cs10.getD 0 0)).toInt64)) <<< ((6 : Int32) &&& 0x3f).toInt64) ||| ((own_F16 (cs10.getD 1 0)).toInt64)) <<< ((6 : Int32) &&& 0x3f).toInt64) ||| ((own_F16 (cs10.getD 2 0)).toInt64)) <<< ((6 : Int32) &&& 0x3f).toInt64) ||| ((own_F16 (cs10.getD 3 0)).toInt64)) <<< ((6 : Int32) &&& 0x3f).toInt64) ||| ((own_F16 (cs10.getD 4 0)).toInt64)) <<< ((6 : Int32) &&& 0x3f).toInt64) ||| ((own_F16 (cs10.getD 5 0)).toInt64))), .second, .val (.int (6 : Int32))] [(.int (6 : Int32)), (.ref a10_0), (.long ((((((((((((((0 : Int64) <<< ((6 : Int32) &&& 0x3f).toInt64) ||| ((own_F16 (cs10.getD 0 0)).toInt64)) <<< ((6 : Int32) &&& 0x3f).toInt64) ||| ((own_F16 (cs10.getD 1 0)).toInt64)) <<< ((6 : Int32) &&& 0x3f).toInt64) ||| ((own_F16 (cs10.getD 2 0)).toInt64)) <<< ((6 : Int32) &&& 0x3f).toInt64) ||| ((own_F16 (cs10.getD 3 0)).toInt64)) <<< ((6 : Int32) &&& 0x3f).toInt64) ||| ((own_F16 (cs10.getD 4 0)).toInt64)) <<< ((6 : Int32) &&& 0x3f).toInt64) ||| ((own_F16 (cs10.getD 5 0)).toInt64)) <<< ((6 : Int32) &&& 0x3f).toInt64))])) (fun t k => ?_) ?_
  · show Steps p.tables e below (T29.setTop (mkF m 22 #[.val (.ref a10_0), .val (.long (((((((((((0 : Int64) <<< ((6 : Int32) &&& 0x3f).toInt64) ||| ((own_F16 (cs10.getD 0 0)).toInt64)) <<< ((6 : Int32) &&& 0x3f).toInt64) ||| ((own_F16 (cs10.getD 1 0)).toInt64)) <<< ((6 : Int32) &&& 0x3f).toInt64) ||| ((own_F16 (cs10.getD 2 0)).toInt64)) <<< ((6 : Int32) &&& 0x3f).toInt64) ||| ((own_F16 (cs10.getD 3 0)).toInt64)) <<< ((6 : Int32) &&& 0x3f).toInt64) ||| ((own_F16 (cs10.getD 4 0)).toInt64))), .second, .val (.int (5 : Int32))] [(.int (own_F16 (cs10.getD 5 0))), (.long ((((((((((((0 : Int64) <<< ((6 : Int32) &&& 0x3f).toInt64) ||| ((own_F16 (cs10.getD 0 0)).toInt64)) <<< ((6 : Int32) &&& 0x3f).toInt64) ||| ((own_F16 (cs10.getD 1 0)).toInt64)) <<< ((6 : Int32) &&& 0x3f).toInt64) ||| ((own_F16 (cs10.getD 2 0)).toInt64)) <<< ((6 : Int32) &&& 0x3f).toInt64) ||| ((own_F16 (cs10.getD 3 0)).toInt64)) <<< ((6 : Int32) &&& 0x3f).toInt64) ||| ((own_F16 (cs10.getD 4 0)).toInt64)) <<< ((6 : Int32) &&& 0x3f).toInt64))])) t
    refine XS.i2l X29.here hx rfl (hb hby d10_22) rfl ?_
    show Steps p.tables e below (T29.setTop (mkF m 23 #[.val (.ref a10_0), .val (.long (((((((((((0 : Int64) <<< ((6 : Int32) &&& 0x3f).toInt64) ||| ((own_F16 (cs10.getD 0 0)).toInt64)) <<< ((6 : Int32) &&& 0x3f).toInt64) ||| ((own_F16 (cs10.getD 1 0)).toInt64)) <<< ((6 : Int32) &&& 0x3f).toInt64) ||| ((own_F16 (cs10.getD 2 0)).toInt64)) <<< ((6 : Int32) &&& 0x3f).toInt64) ||| ((own_F16 (cs10.getD 3 0)).toInt64)) <<< ((6 : Int32) &&& 0x3f).toInt64) ||| ((own_F16 (cs10.getD 4 0)).toInt64))), .second, .val (.int (5 : Int32))] [(.long ((own_F16 (cs10.getD 5 0)).toInt64)), (.long ((((((((((((0 : Int64) <<< ((6 : Int32) &&& 0x3f).toInt64) ||| ((own_F16 (cs10.getD 0 0)).toInt64)) <<< ((6 : Int32) &&& 0x3f).toInt64) ||| ((own_F16 (cs10.getD 1 0)).toInt64)) <<< ((6 : Int32) &&& 0x3f).toInt64) ||| ((own_F16 (cs10.getD 2 0)).toInt64)) <<< ((6 : Int32) &&& 0x3f).toInt64) ||| ((own_F16 (cs10.getD 3 0)).toInt64)) <<< ((6 : Int32) &&& 0x3f).toInt64) ||| ((own_F16 (cs10.getD 4 0)).toInt64)) <<< ((6 : Int32) &&& 0x3f).toInt64))])) t
    refine XS.lor X29.here hx rfl (hb hby d10_23) rfl ?_
    show Steps p.tables e below (T29.setTop (mkF m 24 #[.val (.ref a10_0), .val (.long (((((((((((0 : Int64) <<< ((6 : Int32) &&& 0x3f).toInt64) ||| ((own_F16 (cs10.getD 0 0)).toInt64)) <<< ((6 : Int32) &&& 0x3f).toInt64) ||| ((own_F16 (cs10.getD 1 0)).toInt64)) <<< ((6 : Int32) &&& 0x3f).toInt64) ||| ((own_F16 (cs10.getD 2 0)).toInt64)) <<< ((6 : Int32) &&& 0x3f).toInt64) ||| ((own_F16 (cs10.getD 3 0)).toInt64)) <<< ((6 : Int32) &&& 0x3f).toInt64) ||| ((own_F16 (cs10.getD 4 0)).toInt64))), .second, .val (.int (5 : Int32))] [(.long (((((((((((((0 : Int64) <<< ((6 : Int32) &&& 0x3f).toInt64) ||| ((own_F16 (cs10.getD 0 0)).toInt64)) <<< ((6 : Int32) &&& 0x3f).toInt64) ||| ((own_F16 (cs10.getD 1 0)).toInt64)) <<< ((6 : Int32) &&& 0x3f).toInt64) ||| ((own_F16 (cs10.getD 2 0)).toInt64)) <<< ((6 : Int32) &&& 0x3f).toInt64) ||| ((own_F16 (cs10.getD 3 0)).toInt64)) <<< ((6 : Int32) &&& 0x3f).toInt64) ||| ((own_F16 (cs10.getD 4 0)).toInt64)) <<< ((6 : Int32) &&& 0x3f).toInt64) ||| ((own_F16 (cs10.getD 5 0)).toInt64)))])) t
    refine XS.lstoreN X29.here hx rfl (hb hby d10_24) rfl (l' := #[.val (.ref a10_0), .val (.long (((((((((((((0 : Int64) <<< ((6 : Int32) &&& 0x3f).toInt64) ||| ((own_F16 (cs10.getD 0 0)).toInt64)) <<< ((6 : Int32) &&& 0x3f).toInt64) ||| ((own_F16 (cs10.getD 1 0)).toInt64)) <<< ((6 : Int32) &&& 0x3f).toInt64) ||| ((own_F16 (cs10.getD 2 0)).toInt64)) <<< ((6 : Int32) &&& 0x3f).toInt64) ||| ((own_F16 (cs10.getD 3 0)).toInt64)) <<< ((6 : Int32) &&& 0x3f).toInt64) ||| ((own_F16 (cs10.getD 4 0)).toInt64)) <<< ((6 : Int32) &&& 0x3f).toInt64) ||| ((own_F16 (cs10.getD 5 0)).toInt64))), .second, .val (.int (5 : Int32))]) rfl ?_
    show Steps p.tables e below (T29.setTop (mkF m 25 #[.val (.ref a10_0), .val (.long (((((((((((((0 : Int64) <<< ((6 : Int32) &&& 0x3f).toInt64) ||| ((own_F16 (cs10.getD 0 0)).toInt64)) <<< ((6 : Int32) &&& 0x3f).toInt64) ||| ((own_F16 (cs10.getD 1 0)).toInt64)) <<< ((6 : Int32) &&& 0x3f).toInt64) ||| ((own_F16 (cs10.getD 2 0)).toInt64)) <<< ((6 : Int32) &&& 0x3f).toInt64) ||| ((own_F16 (cs10.getD 3 0)).toInt64)) <<< ((6 : Int32) &&& 0x3f).toInt64) ||| ((own_F16 (cs10.getD 4 0)).toInt64)) <<< ((6 : Int32) &&& 0x3f).toInt64) ||| ((own_F16 (cs10.getD 5 0)).toInt64))), .second, .val (.int (5 : Int32))] [])) t
    refine XS.iinc X29.here hx rfl (hb hby d10_25) rfl (l' := #[.val (.ref a10_0), .val (.long (((((((((((((0 : Int64) <<< ((6 : Int32) &&& 0x3f).toInt64) ||| ((own_F16 (cs10.getD 0 0)).toInt64)) <<< ((6 : Int32) &&& 0x3f).toInt64) ||| ((own_F16 (cs10.getD 1 0)).toInt64)) <<< ((6 : Int32) &&& 0x3f).toInt64) ||| ((own_F16 (cs10.getD 2 0)).toInt64)) <<< ((6 : Int32) &&& 0x3f).toInt64) ||| ((own_F16 (cs10.getD 3 0)).toInt64)) <<< ((6 : Int32) &&& 0x3f).toInt64) ||| ((own_F16 (cs10.getD 4 0)).toInt64)) <<< ((6 : Int32) &&& 0x3f).toInt64) ||| ((own_F16 (cs10.getD 5 0)).toInt64))), .second, .val (.int (6 : Int32))]) rfl ?_
    show Steps p.tables e below (T29.setTop (mkF m 28 #[.val (.ref a10_0), .val (.long (((((((((((((0 : Int64) <<< ((6 : Int32) &&& 0x3f).toInt64) ||| ((own_F16 (cs10.getD 0 0)).toInt64)) <<< ((6 : Int32) &&& 0x3f).toInt64) ||| ((own_F16 (cs10.getD 1 0)).toInt64)) <<< ((6 : Int32) &&& 0x3f).toInt64) ||| ((own_F16 (cs10.getD 2 0)).toInt64)) <<< ((6 : Int32) &&& 0x3f).toInt64) ||| ((own_F16 (cs10.getD 3 0)).toInt64)) <<< ((6 : Int32) &&& 0x3f).toInt64) ||| ((own_F16 (cs10.getD 4 0)).toInt64)) <<< ((6 : Int32) &&& 0x3f).toInt64) ||| ((own_F16 (cs10.getD 5 0)).toInt64))), .second, .val (.int (6 : Int32))] [])) t
    refine XS.goto X29.here hx rfl (pc0 := 28) (pc' := 4) rfl (hb hby d10_28) (by decide) (by decide) ?_
    show Steps p.tables e below (T29.setTop (mkF m 4 #[.val (.ref a10_0), .val (.long (((((((((((((0 : Int64) <<< ((6 : Int32) &&& 0x3f).toInt64) ||| ((own_F16 (cs10.getD 0 0)).toInt64)) <<< ((6 : Int32) &&& 0x3f).toInt64) ||| ((own_F16 (cs10.getD 1 0)).toInt64)) <<< ((6 : Int32) &&& 0x3f).toInt64) ||| ((own_F16 (cs10.getD 2 0)).toInt64)) <<< ((6 : Int32) &&& 0x3f).toInt64) ||| ((own_F16 (cs10.getD 3 0)).toInt64)) <<< ((6 : Int32) &&& 0x3f).toInt64) ||| ((own_F16 (cs10.getD 4 0)).toInt64)) <<< ((6 : Int32) &&& 0x3f).toInt64) ||| ((own_F16 (cs10.getD 5 0)).toInt64))), .second, .val (.int (6 : Int32))] [])) t
    refine XS.iloadN X29.here hx rfl (hb hby d10_4) rfl ?_
    show Steps p.tables e below (T29.setTop (mkF m 5 #[.val (.ref a10_0), .val (.long (((((((((((((0 : Int64) <<< ((6 : Int32) &&& 0x3f).toInt64) ||| ((own_F16 (cs10.getD 0 0)).toInt64)) <<< ((6 : Int32) &&& 0x3f).toInt64) ||| ((own_F16 (cs10.getD 1 0)).toInt64)) <<< ((6 : Int32) &&& 0x3f).toInt64) ||| ((own_F16 (cs10.getD 2 0)).toInt64)) <<< ((6 : Int32) &&& 0x3f).toInt64) ||| ((own_F16 (cs10.getD 3 0)).toInt64)) <<< ((6 : Int32) &&& 0x3f).toInt64) ||| ((own_F16 (cs10.getD 4 0)).toInt64)) <<< ((6 : Int32) &&& 0x3f).toInt64) ||| ((own_F16 (cs10.getD 5 0)).toInt64))), .second, .val (.int (6 : Int32))] [(.int (6 : Int32))])) t
    refine XS.bipush X29.here hx rfl (hb hby d10_5) ?_
    show Steps p.tables e below (T29.setTop (mkF m 7 #[.val (.ref a10_0), .val (.long (((((((((((((0 : Int64) <<< ((6 : Int32) &&& 0x3f).toInt64) ||| ((own_F16 (cs10.getD 0 0)).toInt64)) <<< ((6 : Int32) &&& 0x3f).toInt64) ||| ((own_F16 (cs10.getD 1 0)).toInt64)) <<< ((6 : Int32) &&& 0x3f).toInt64) ||| ((own_F16 (cs10.getD 2 0)).toInt64)) <<< ((6 : Int32) &&& 0x3f).toInt64) ||| ((own_F16 (cs10.getD 3 0)).toInt64)) <<< ((6 : Int32) &&& 0x3f).toInt64) ||| ((own_F16 (cs10.getD 4 0)).toInt64)) <<< ((6 : Int32) &&& 0x3f).toInt64) ||| ((own_F16 (cs10.getD 5 0)).toInt64))), .second, .val (.int (6 : Int32))] [(.int (10 : Int32)), (.int (6 : Int32))])) t
    refine XS.icmpNo X29.here hx rfl (hb hby d10_7) rfl (tlt (by decide : (6 : Int32) < (10 : Int32))).2.1 ?_
    show Steps p.tables e below (T29.setTop (mkF m 10 #[.val (.ref a10_0), .val (.long (((((((((((((0 : Int64) <<< ((6 : Int32) &&& 0x3f).toInt64) ||| ((own_F16 (cs10.getD 0 0)).toInt64)) <<< ((6 : Int32) &&& 0x3f).toInt64) ||| ((own_F16 (cs10.getD 1 0)).toInt64)) <<< ((6 : Int32) &&& 0x3f).toInt64) ||| ((own_F16 (cs10.getD 2 0)).toInt64)) <<< ((6 : Int32) &&& 0x3f).toInt64) ||| ((own_F16 (cs10.getD 3 0)).toInt64)) <<< ((6 : Int32) &&& 0x3f).toInt64) ||| ((own_F16 (cs10.getD 4 0)).toInt64)) <<< ((6 : Int32) &&& 0x3f).toInt64) ||| ((own_F16 (cs10.getD 5 0)).toInt64))), .second, .val (.int (6 : Int32))] [])) t
    refine XS.lloadN X29.here hx rfl (hb hby d10_10) rfl ?_
    show Steps p.tables e below (T29.setTop (mkF m 11 #[.val (.ref a10_0), .val (.long (((((((((((((0 : Int64) <<< ((6 : Int32) &&& 0x3f).toInt64) ||| ((own_F16 (cs10.getD 0 0)).toInt64)) <<< ((6 : Int32) &&& 0x3f).toInt64) ||| ((own_F16 (cs10.getD 1 0)).toInt64)) <<< ((6 : Int32) &&& 0x3f).toInt64) ||| ((own_F16 (cs10.getD 2 0)).toInt64)) <<< ((6 : Int32) &&& 0x3f).toInt64) ||| ((own_F16 (cs10.getD 3 0)).toInt64)) <<< ((6 : Int32) &&& 0x3f).toInt64) ||| ((own_F16 (cs10.getD 4 0)).toInt64)) <<< ((6 : Int32) &&& 0x3f).toInt64) ||| ((own_F16 (cs10.getD 5 0)).toInt64))), .second, .val (.int (6 : Int32))] [(.long (((((((((((((0 : Int64) <<< ((6 : Int32) &&& 0x3f).toInt64) ||| ((own_F16 (cs10.getD 0 0)).toInt64)) <<< ((6 : Int32) &&& 0x3f).toInt64) ||| ((own_F16 (cs10.getD 1 0)).toInt64)) <<< ((6 : Int32) &&& 0x3f).toInt64) ||| ((own_F16 (cs10.getD 2 0)).toInt64)) <<< ((6 : Int32) &&& 0x3f).toInt64) ||| ((own_F16 (cs10.getD 3 0)).toInt64)) <<< ((6 : Int32) &&& 0x3f).toInt64) ||| ((own_F16 (cs10.getD 4 0)).toInt64)) <<< ((6 : Int32) &&& 0x3f).toInt64) ||| ((own_F16 (cs10.getD 5 0)).toInt64)))])) t
    refine XS.bipush X29.here hx rfl (hb hby d10_11) ?_
    show Steps p.tables e below (T29.setTop (mkF m 13 #[.val (.ref a10_0), .val (.long (((((((((((((0 : Int64) <<< ((6 : Int32) &&& 0x3f).toInt64) ||| ((own_F16 (cs10.getD 0 0)).toInt64)) <<< ((6 : Int32) &&& 0x3f).toInt64) ||| ((own_F16 (cs10.getD 1 0)).toInt64)) <<< ((6 : Int32) &&& 0x3f).toInt64) ||| ((own_F16 (cs10.getD 2 0)).toInt64)) <<< ((6 : Int32) &&& 0x3f).toInt64) ||| ((own_F16 (cs10.getD 3 0)).toInt64)) <<< ((6 : Int32) &&& 0x3f).toInt64) ||| ((own_F16 (cs10.getD 4 0)).toInt64)) <<< ((6 : Int32) &&& 0x3f).toInt64) ||| ((own_F16 (cs10.getD 5 0)).toInt64))), .second, .val (.int (6 : Int32))] [(.int (6 : Int32)), (.long (((((((((((((0 : Int64) <<< ((6 : Int32) &&& 0x3f).toInt64) ||| ((own_F16 (cs10.getD 0 0)).toInt64)) <<< ((6 : Int32) &&& 0x3f).toInt64) ||| ((own_F16 (cs10.getD 1 0)).toInt64)) <<< ((6 : Int32) &&& 0x3f).toInt64) ||| ((own_F16 (cs10.getD 2 0)).toInt64)) <<< ((6 : Int32) &&& 0x3f).toInt64) ||| ((own_F16 (cs10.getD 3 0)).toInt64)) <<< ((6 : Int32) &&& 0x3f).toInt64) ||| ((own_F16 (cs10.getD 4 0)).toInt64)) <<< ((6 : Int32) &&& 0x3f).toInt64) ||| ((own_F16 (cs10.getD 5 0)).toInt64)))])) t
    refine XS.lshl X29.here hx rfl (hb hby d10_13) rfl ?_
    show Steps p.tables e below (T29.setTop (mkF m 14 #[.val (.ref a10_0), .val (.long (((((((((((((0 : Int64) <<< ((6 : Int32) &&& 0x3f).toInt64) ||| ((own_F16 (cs10.getD 0 0)).toInt64)) <<< ((6 : Int32) &&& 0x3f).toInt64) ||| ((own_F16 (cs10.getD 1 0)).toInt64)) <<< ((6 : Int32) &&& 0x3f).toInt64) ||| ((own_F16 (cs10.getD 2 0)).toInt64)) <<< ((6 : Int32) &&& 0x3f).toInt64) ||| ((own_F16 (cs10.getD 3 0)).toInt64)) <<< ((6 : Int32) &&& 0x3f).toInt64) ||| ((own_F16 (cs10.getD 4 0)).toInt64)) <<< ((6 : Int32) &&& 0x3f).toInt64) ||| ((own_F16 (cs10.getD 5 0)).toInt64))), .second, .val (.int (6 : Int32))] [(.long ((((((((((((((0 : Int64) <<< ((6 : Int32) &&& 0x3f).toInt64) ||| ((own_F16 (cs10.getD 0 0)).toInt64)) <<< ((6 : Int32) &&& 0x3f).toInt64) ||| ((own_F16 (cs10.getD 1 0)).toInt64)) <<< ((6 : Int32) &&& 0x3f).toInt64) ||| ((own_F16 (cs10.getD 2 0)).toInt64)) <<< ((6 : Int32) &&& 0x3f).toInt64) ||| ((own_F16 (cs10.getD 3 0)).toInt64)) <<< ((6 : Int32) &&& 0x3f).toInt64) ||| ((own_F16 (cs10.getD 4 0)).toInt64)) <<< ((6 : Int32) &&& 0x3f).toInt64) ||| ((own_F16 (cs10.getD 5 0)).toInt64)) <<< ((6 : Int32) &&& 0x3f).toInt64))])) t
    refine XS.aloadN X29.here hx rfl (hb hby d10_14) rfl rfl ?_
    show Steps p.tables e below (T29.setTop (mkF m 15 #[.val (.ref a10_0), .val (.long (((((((((((((0 : Int64) <<< ((6 : Int32) &&& 0x3f).toInt64) ||| ((own_F16 (cs10.getD 0 0)).toInt64)) <<< ((6 : Int32) &&& 0x3f).toInt64) ||| ((own_F16 (cs10.getD 1 0)).toInt64)) <<< ((6 : Int32) &&& 0x3f).toInt64) ||| ((own_F16 (cs10.getD 2 0)).toInt64)) <<< ((6 : Int32) &&& 0x3f).toInt64) ||| ((own_F16 (cs10.getD 3 0)).toInt64)) <<< ((6 : Int32) &&& 0x3f).toInt64) ||| ((own_F16 (cs10.getD 4 0)).toInt64)) <<< ((6 : Int32) &&& 0x3f).toInt64) ||| ((own_F16 (cs10.getD 5 0)).toInt64))), .second, .val (.int (6 : Int32))] [(.ref a10_0), (.long ((((((((((((((0 : Int64) <<< ((6 : Int32) &&& 0x3f).toInt64) ||| ((own_F16 (cs10.getD 0 0)).toInt64)) <<< ((6 : Int32) &&& 0x3f).toInt64) ||| ((own_F16 (cs10.getD 1 0)).toInt64)) <<< ((6 : Int32) &&& 0x3f).toInt64) ||| ((own_F16 (cs10.getD 2 0)).toInt64)) <<< ((6 : Int32) &&& 0x3f).toInt64) ||| ((own_F16 (cs10.getD 3 0)).toInt64)) <<< ((6 : Int32) &&& 0x3f).toInt64) ||| ((own_F16 (cs10.getD 4 0)).toInt64)) <<< ((6 : Int32) &&& 0x3f).toInt64) ||| ((own_F16 (cs10.getD 5 0)).toInt64)) <<< ((6 : Int32) &&& 0x3f).toInt64))])) t
    refine XS.iloadN X29.here hx rfl (hb hby d10_15) rfl ?_
    show Steps p.tables e below (T29.setTop (mkF m 16 #[.val (.ref a10_0), .val (.long (((((((((((((0 : Int64) <<< ((6 : Int32) &&& 0x3f).toInt64) ||| ((own_F16 (cs10.getD 0 0)).toInt64)) <<< ((6 : Int32) &&& 0x3f).toInt64) ||| ((own_F16 (cs10.getD 1 0)).toInt64)) <<< ((6 : Int32) &&& 0x3f).toInt64) ||| ((own_F16 (cs10.getD 2 0)).toInt64)) <<< ((6 : Int32) &&& 0x3f).toInt64) ||| ((own_F16 (cs10.getD 3 0)).toInt64)) <<< ((6 : Int32) &&& 0x3f).toInt64) ||| ((own_F16 (cs10.getD 4 0)).toInt64)) <<< ((6 : Int32) &&& 0x3f).toInt64) ||| ((own_F16 (cs10.getD 5 0)).toInt64))), .second, .val (.int (6 : Int32))] [(.int (6 : Int32)), (.ref a10_0), (.long ((((((((((((((0 : Int64) <<< ((6 : Int32) &&& 0x3f).toInt64) ||| ((own_F16 (cs10.getD 0 0)).toInt64)) <<< ((6 : Int32) &&& 0x3f).toInt64) ||| ((own_F16 (cs10.getD 1 0)).toInt64)) <<< ((6 : Int32) &&& 0x3f).toInt64) ||| ((own_F16 (cs10.getD 2 0)).toInt64)) <<< ((6 : Int32) &&& 0x3f).toInt64) ||| ((own_F16 (cs10.getD 3 0)).toInt64)) <<< ((6 : Int32) &&& 0x3f).toInt64) ||| ((own_F16 (cs10.getD 4 0)).toInt64)) <<< ((6 : Int32) &&& 0x3f).toInt64) ||| ((own_F16 (cs10.getD 5 0)).toInt64)) <<< ((6 : Int32) &&& 0x3f).toInt64))])) t
    exact k
  have hch31 : ∀ d ∈ StrChars.Road.wordsChN, d.before a0 Z = true := fun d hd => hw d ((by decide +kernel : ∀ d ∈ StrChars.Road.wordsChN, d ∈ tables_1) d hd)
  have hcd31 : StrChars.Road.CodA cs10 0 (22 : Int32) ((cs10.map (fun c => c.toInt8.toInt32)).map Value.int) := StrChars.Road.codOf (n := 22) HL10 (fun x hx => (HP10 x hx).2)
  obtain ⟨cq31, kq31, q31a, q31b, q31c⟩ := isOf hZ e29 E10
  obtain ⟨v31, _, ⟨T31, L31, k31, n31⟩, -, X31, ⟨Lc31, hQ31, l31, y31, z31⟩, st31⟩ := X29.virtualBack hx (y := (⟨"java/lang/String", "charAt", "(I)C"⟩ : MethodName)) (z := (⟨"java/lang/String", "charAt", "(I)C"⟩ : MethodName)) hown (mvT hZ (hw _ (List.mem_of_getElem? (i := 46) rfl))) (mvT hZ (hw _ (List.mem_of_getElem? (i := 47) rfl))) (notFace_of_selects (args := #[]) (mvT hZ (hw _ (List.mem_of_getElem? (i := 49) rfl)))) (mvT hZ (hw _ (List.mem_of_getElem? (i := 49) rfl))) (mvT hZ (hw _ (List.mem_of_getElem? (i := 48) rfl))) (by decide) (StrChars.Road.chN (W := 2) hZ hch31 (kI := 4) (hw _ (List.mem_of_getElem? (i := 14) rfl)) E10 V10 C10 K10 hcd31 (own_up _ HP10) (SC.ext O0.2) HCS (SFm.ext O0.2) HFm (by rw [HL10]; decide) (i := 6) (by rw [HL10]; decide) (j := (6 : Int32)) rfl (by decide) (by decide)) q31a q31c (g := (mkF m 16 #[.val (.ref a10_0), .val (.long (((((((((((((0 : Int64) <<< ((6 : Int32) &&& 0x3f).toInt64) ||| ((own_F16 (cs10.getD 0 0)).toInt64)) <<< ((6 : Int32) &&& 0x3f).toInt64) ||| ((own_F16 (cs10.getD 1 0)).toInt64)) <<< ((6 : Int32) &&& 0x3f).toInt64) ||| ((own_F16 (cs10.getD 2 0)).toInt64)) <<< ((6 : Int32) &&& 0x3f).toInt64) ||| ((own_F16 (cs10.getD 3 0)).toInt64)) <<< ((6 : Int32) &&& 0x3f).toInt64) ||| ((own_F16 (cs10.getD 4 0)).toInt64)) <<< ((6 : Int32) &&& 0x3f).toInt64) ||| ((own_F16 (cs10.getD 5 0)).toInt64))), .second, .val (.int (6 : Int32))] [(.int (6 : Int32)), (.ref a10_0), (.long ((((((((((((((0 : Int64) <<< ((6 : Int32) &&& 0x3f).toInt64) ||| ((own_F16 (cs10.getD 0 0)).toInt64)) <<< ((6 : Int32) &&& 0x3f).toInt64) ||| ((own_F16 (cs10.getD 1 0)).toInt64)) <<< ((6 : Int32) &&& 0x3f).toInt64) ||| ((own_F16 (cs10.getD 2 0)).toInt64)) <<< ((6 : Int32) &&& 0x3f).toInt64) ||| ((own_F16 (cs10.getD 3 0)).toInt64)) <<< ((6 : Int32) &&& 0x3f).toInt64) ||| ((own_F16 (cs10.getD 4 0)).toInt64)) <<< ((6 : Int32) &&& 0x3f).toInt64) ||| ((own_F16 (cs10.getD 5 0)).toInt64)) <<< ((6 : Int32) &&& 0x3f).toInt64))])) rfl (by rw [hml]; rfl) (Steps.refl _) (argsL := [(.int (6 : Int32))]) (rest := [(.long ((((((((((((((0 : Int64) <<< ((6 : Int32) &&& 0x3f).toInt64) ||| ((own_F16 (cs10.getD 0 0)).toInt64)) <<< ((6 : Int32) &&& 0x3f).toInt64) ||| ((own_F16 (cs10.getD 1 0)).toInt64)) <<< ((6 : Int32) &&& 0x3f).toInt64) ||| ((own_F16 (cs10.getD 2 0)).toInt64)) <<< ((6 : Int32) &&& 0x3f).toInt64) ||| ((own_F16 (cs10.getD 3 0)).toInt64)) <<< ((6 : Int32) &&& 0x3f).toInt64) ||| ((own_F16 (cs10.getD 4 0)).toInt64)) <<< ((6 : Int32) &&& 0x3f).toInt64) ||| ((own_F16 (cs10.getD 5 0)).toInt64)) <<< ((6 : Int32) &&& 0x3f).toInt64))]) (lenOf pd__I_C rfl) rfl (by show 2 * 0 + _ ≤ _; exact Nat.le_of_eq rfl) (hb hby d10_16) (fun _ _ => ⟨rfl, e29, (by decide : 0 + 0 ≤ _), (by decide : 0 + 0 ≤ _)⟩)
  dsimp only [Pt.U, Pt.locs, Pt.cells, Pt.slots] at X31 l31 y31 z31 st31 hQ31
  subst y31 z31
  obtain ⟨rfl, rfl, e31⟩ := hQ31
  have N32 : Fr n0 L31 := by rw [l31]; exact Fr.app N30 (Fr.nil n0)
  refine own_via (T' := T31) (g' := (mkF m 19 #[.val (.ref a10_0), .val (.long (((((((((((((0 : Int64) <<< ((6 : Int32) &&& 0x3f).toInt64) ||| ((own_F16 (cs10.getD 0 0)).toInt64)) <<< ((6 : Int32) &&& 0x3f).toInt64) ||| ((own_F16 (cs10.getD 1 0)).toInt64)) <<< ((6 : Int32) &&& 0x3f).toInt64) ||| ((own_F16 (cs10.getD 2 0)).toInt64)) <<< ((6 : Int32) &&& 0x3f).toInt64) ||| ((own_F16 (cs10.getD 3 0)).toInt64)) <<< ((6 : Int32) &&& 0x3f).toInt64) ||| ((own_F16 (cs10.getD 4 0)).toInt64)) <<< ((6 : Int32) &&& 0x3f).toInt64) ||| ((own_F16 (cs10.getD 5 0)).toInt64))), .second, .val (.int (6 : Int32))] [(.int (cs10.getD 6 0)), (.long ((((((((((((((0 : Int64) <<< ((6 : Int32) &&& 0x3f).toInt64) ||| ((own_F16 (cs10.getD 0 0)).toInt64)) <<< ((6 : Int32) &&& 0x3f).toInt64) ||| ((own_F16 (cs10.getD 1 0)).toInt64)) <<< ((6 : Int32) &&& 0x3f).toInt64) ||| ((own_F16 (cs10.getD 2 0)).toInt64)) <<< ((6 : Int32) &&& 0x3f).toInt64) ||| ((own_F16 (cs10.getD 3 0)).toInt64)) <<< ((6 : Int32) &&& 0x3f).toInt64) ||| ((own_F16 (cs10.getD 4 0)).toInt64)) <<< ((6 : Int32) &&& 0x3f).toInt64) ||| ((own_F16 (cs10.getD 5 0)).toInt64)) <<< ((6 : Int32) &&& 0x3f).toInt64))])) st31 ?_
  obtain ⟨v33, _, ⟨T33, L33, k33, n33⟩, -, X33, ⟨Lc33, hQ33, l33, y33, z33⟩, st33⟩ := Jvm.LawKit.callS X31 hx (y := (⟨"com/example/vacant_errand/vacanterrand/PackedId", "place", "(C)I"⟩ : MethodName)) hown (mvT hZ (hw _ (List.mem_of_getElem? (i := 68) rfl))) (mvT hZ (hw _ (List.mem_of_getElem? (i := 69) rfl))) (mvT hZ (hw _ (List.mem_of_getElem? (i := 44) rfl))) (mvT hZ (hw _ (List.mem_of_getElem? (i := 70) rfl))) (by decide) (backOf (W := 2) (own_rm16 l Z a0 hw [] (cs10.getD 6 0) wPL cPL h0 n0 Z0 O0 (HP10 _ (own_mem cs10 HL10 6 (by decide))).1 SPL TPL) hZ (hw _ (List.mem_of_getElem? (i := 70) rfl)) (hw _ (List.mem_of_getElem? (i := 44) rfl)) (by decide) (by decide)) (g := (mkF m 19 #[.val (.ref a10_0), .val (.long (((((((((((((0 : Int64) <<< ((6 : Int32) &&& 0x3f).toInt64) ||| ((own_F16 (cs10.getD 0 0)).toInt64)) <<< ((6 : Int32) &&& 0x3f).toInt64) ||| ((own_F16 (cs10.getD 1 0)).toInt64)) <<< ((6 : Int32) &&& 0x3f).toInt64) ||| ((own_F16 (cs10.getD 2 0)).toInt64)) <<< ((6 : Int32) &&& 0x3f).toInt64) ||| ((own_F16 (cs10.getD 3 0)).toInt64)) <<< ((6 : Int32) &&& 0x3f).toInt64) ||| ((own_F16 (cs10.getD 4 0)).toInt64)) <<< ((6 : Int32) &&& 0x3f).toInt64) ||| ((own_F16 (cs10.getD 5 0)).toInt64))), .second, .val (.int (6 : Int32))] [(.int (cs10.getD 6 0)), (.long ((((((((((((((0 : Int64) <<< ((6 : Int32) &&& 0x3f).toInt64) ||| ((own_F16 (cs10.getD 0 0)).toInt64)) <<< ((6 : Int32) &&& 0x3f).toInt64) ||| ((own_F16 (cs10.getD 1 0)).toInt64)) <<< ((6 : Int32) &&& 0x3f).toInt64) ||| ((own_F16 (cs10.getD 2 0)).toInt64)) <<< ((6 : Int32) &&& 0x3f).toInt64) ||| ((own_F16 (cs10.getD 3 0)).toInt64)) <<< ((6 : Int32) &&& 0x3f).toInt64) ||| ((own_F16 (cs10.getD 4 0)).toInt64)) <<< ((6 : Int32) &&& 0x3f).toInt64) ||| ((own_F16 (cs10.getD 5 0)).toInt64)) <<< ((6 : Int32) &&& 0x3f).toInt64))])) rfl (by rw [hml]; rfl) (argsL := [(.int (cs10.getD 6 0))]) (rest := [(.long ((((((((((((((0 : Int64) <<< ((6 : Int32) &&& 0x3f).toInt64) ||| ((own_F16 (cs10.getD 0 0)).toInt64)) <<< ((6 : Int32) &&& 0x3f).toInt64) ||| ((own_F16 (cs10.getD 1 0)).toInt64)) <<< ((6 : Int32) &&& 0x3f).toInt64) ||| ((own_F16 (cs10.getD 2 0)).toInt64)) <<< ((6 : Int32) &&& 0x3f).toInt64) ||| ((own_F16 (cs10.getD 3 0)).toInt64)) <<< ((6 : Int32) &&& 0x3f).toInt64) ||| ((own_F16 (cs10.getD 4 0)).toInt64)) <<< ((6 : Int32) &&& 0x3f).toInt64) ||| ((own_F16 (cs10.getD 5 0)).toInt64)) <<< ((6 : Int32) &&& 0x3f).toInt64))]) (lenOf pd__C_I rfl) rfl (by show 2 * 0 + _ ≤ _; exact Nat.le_of_eq rfl) (hb hby d10_19) (fun _ _ => ⟨rfl, e31, (by decide : 0 + 0 ≤ _), (by decide : 0 + 0 ≤ _)⟩)
  dsimp only [Pt.U, Pt.locs, Pt.cells, Pt.slots] at X33 l33 y33 z33 st33 hQ33
  subst y33 z33
  obtain ⟨rfl, M33, e33⟩ := hQ33
  have N34 : Fr n0 L33 := by rw [l33]; exact Fr.app N32 M33
  refine own_by (T' := T33) (g' := (mkF m 22 #[.val (.ref a10_0), .val (.long (((((((((((((0 : Int64) <<< ((6 : Int32) &&& 0x3f).toInt64) ||| ((own_F16 (cs10.getD 0 0)).toInt64)) <<< ((6 : Int32) &&& 0x3f).toInt64) ||| ((own_F16 (cs10.getD 1 0)).toInt64)) <<< ((6 : Int32) &&& 0x3f).toInt64) ||| ((own_F16 (cs10.getD 2 0)).toInt64)) <<< ((6 : Int32) &&& 0x3f).toInt64) ||| ((own_F16 (cs10.getD 3 0)).toInt64)) <<< ((6 : Int32) &&& 0x3f).toInt64) ||| ((own_F16 (cs10.getD 4 0)).toInt64)) <<< ((6 : Int32) &&& 0x3f).toInt64) ||| ((own_F16 (cs10.getD 5 0)).toInt64))), .second, .val (.int (6 : Int32))] [(.int (own_F16 (cs10.getD 6 0))), (.long ((((((((((((((0 : Int64) <<< ((6 : Int32) &&& 0x3f).toInt64) ||| ((own_F16 (cs10.getD 0 0)).toInt64)) <<< ((6 : Int32) &&& 0x3f).toInt64) ||| ((own_F16 (cs10.getD 1 0)).toInt64)) <<< ((6 : Int32) &&& 0x3f).toInt64) ||| ((own_F16 (cs10.getD 2 0)).toInt64)) <<< ((6 : Int32) &&& 0x3f).toInt64) ||| ((own_F16 (cs10.getD 3 0)).toInt64)) <<< ((6 : Int32) &&& 0x3f).toInt64) ||| ((own_F16 (cs10.getD 4 0)).toInt64)) <<< ((6 : Int32) &&& 0x3f).toInt64) ||| ((own_F16 (cs10.getD 5 0)).toInt64)) <<< ((6 : Int32) &&& 0x3f).toInt64))])) st33 ?_
  refine own_by (T' := T33) (g' := (mkF m 16 #[.val (.ref a10_0), .val (.long (((((((((((((((0 : Int64) <<< ((6 : Int32) &&& 0x3f).toInt64) ||| ((own_F16 (cs10.getD 0 0)).toInt64)) <<< ((6 : Int32) &&& 0x3f).toInt64) ||| ((own_F16 (cs10.getD 1 0)).toInt64)) <<< ((6 : Int32) &&& 0x3f).toInt64) ||| ((own_F16 (cs10.getD 2 0)).toInt64)) <<< ((6 : Int32) &&& 0x3f).toInt64) ||| ((own_F16 (cs10.getD 3 0)).toInt64)) <<< ((6 : Int32) &&& 0x3f).toInt64) ||| ((own_F16 (cs10.getD 4 0)).toInt64)) <<< ((6 : Int32) &&& 0x3f).toInt64) ||| ((own_F16 (cs10.getD 5 0)).toInt64)) <<< ((6 : Int32) &&& 0x3f).toInt64) ||| ((own_F16 (cs10.getD 6 0)).toInt64))), .second, .val (.int (7 : Int32))] [(.int (7 : Int32)), (.ref a10_0), (.long ((((((((((((((((0 : Int64) <<< ((6 : Int32) &&& 0x3f).toInt64) ||| ((own_F16 (cs10.getD 0 0)).toInt64)) <<< ((6 : Int32) &&& 0x3f).toInt64) ||| ((own_F16 (cs10.getD 1 0)).toInt64)) <<< ((6 : Int32) &&& 0x3f).toInt64) ||| ((own_F16 (cs10.getD 2 0)).toInt64)) <<< ((6 : Int32) &&& 0x3f).toInt64) ||| ((own_F16 (cs10.getD 3 0)).toInt64)) <<< ((6 : Int32) &&& 0x3f).toInt64) ||| ((own_F16 (cs10.getD 4 0)).toInt64)) <<< ((6 : Int32) &&& 0x3f).toInt64) ||| ((own_F16 (cs10.getD 5 0)).toInt64)) <<< ((6 : Int32) &&& 0x3f).toInt64) ||| ((own_F16 (cs10.getD 6 0)).toInt64)) <<< ((6 : Int32) &&& 0x3f).toInt64))])) (fun t k => ?_) ?_
  · show Steps p.tables e below (T33.setTop (mkF m 22 #[.val (.ref a10_0), .val (.long (((((((((((((0 : Int64) <<< ((6 : Int32) &&& 0x3f).toInt64) ||| ((own_F16 (cs10.getD 0 0)).toInt64)) <<< ((6 : Int32) &&& 0x3f).toInt64) ||| ((own_F16 (cs10.getD 1 0)).toInt64)) <<< ((6 : Int32) &&& 0x3f).toInt64) ||| ((own_F16 (cs10.getD 2 0)).toInt64)) <<< ((6 : Int32) &&& 0x3f).toInt64) ||| ((own_F16 (cs10.getD 3 0)).toInt64)) <<< ((6 : Int32) &&& 0x3f).toInt64) ||| ((own_F16 (cs10.getD 4 0)).toInt64)) <<< ((6 : Int32) &&& 0x3f).toInt64) ||| ((own_F16 (cs10.getD 5 0)).toInt64))), .second, .val (.int (6 : Int32))] [(.int (own_F16 (cs10.getD 6 0))), (.long ((((((((((((((0 : Int64) <<< ((6 : Int32) &&& 0x3f).toInt64) ||| ((own_F16 (cs10.getD 0 0)).toInt64)) <<< ((6 : Int32) &&& 0x3f).toInt64) ||| ((own_F16 (cs10.getD 1 0)).toInt64)) <<< ((6 : Int32) &&& 0x3f).toInt64) ||| ((own_F16 (cs10.getD 2 0)).toInt64)) <<< ((6 : Int32) &&& 0x3f).toInt64) ||| ((own_F16 (cs10.getD 3 0)).toInt64)) <<< ((6 : Int32) &&& 0x3f).toInt64) ||| ((own_F16 (cs10.getD 4 0)).toInt64)) <<< ((6 : Int32) &&& 0x3f).toInt64) ||| ((own_F16 (cs10.getD 5 0)).toInt64)) <<< ((6 : Int32) &&& 0x3f).toInt64))])) t
    refine XS.i2l X33.here hx rfl (hb hby d10_22) rfl ?_
    show Steps p.tables e below (T33.setTop (mkF m 23 #[.val (.ref a10_0), .val (.long (((((((((((((0 : Int64) <<< ((6 : Int32) &&& 0x3f).toInt64) ||| ((own_F16 (cs10.getD 0 0)).toInt64)) <<< ((6 : Int32) &&& 0x3f).toInt64) ||| ((own_F16 (cs10.getD 1 0)).toInt64)) <<< ((6 : Int32) &&& 0x3f).toInt64) ||| ((own_F16 (cs10.getD 2 0)).toInt64)) <<< ((6 : Int32) &&& 0x3f).toInt64) ||| ((own_F16 (cs10.getD 3 0)).toInt64)) <<< ((6 : Int32) &&& 0x3f).toInt64) ||| ((own_F16 (cs10.getD 4 0)).toInt64)) <<< ((6 : Int32) &&& 0x3f).toInt64) ||| ((own_F16 (cs10.getD 5 0)).toInt64))), .second, .val (.int (6 : Int32))] [(.long ((own_F16 (cs10.getD 6 0)).toInt64)), (.long ((((((((((((((0 : Int64) <<< ((6 : Int32) &&& 0x3f).toInt64) ||| ((own_F16 (cs10.getD 0 0)).toInt64)) <<< ((6 : Int32) &&& 0x3f).toInt64) ||| ((own_F16 (cs10.getD 1 0)).toInt64)) <<< ((6 : Int32) &&& 0x3f).toInt64) ||| ((own_F16 (cs10.getD 2 0)).toInt64)) <<< ((6 : Int32) &&& 0x3f).toInt64) ||| ((own_F16 (cs10.getD 3 0)).toInt64)) <<< ((6 : Int32) &&& 0x3f).toInt64) ||| ((own_F16 (cs10.getD 4 0)).toInt64)) <<< ((6 : Int32) &&& 0x3f).toInt64) ||| ((own_F16 (cs10.getD 5 0)).toInt64)) <<< ((6 : Int32) &&& 0x3f).toInt64))])) t
    refine XS.lor X33.here hx rfl (hb hby d10_23) rfl ?_
    show Steps p.tables e below (T33.setTop (mkF m 24 #[.val (.ref a10_0), .val (.long (((((((((((((0 : Int64) <<< ((6 : Int32) &&& 0x3f).toInt64) ||| ((own_F16 (cs10.getD 0 0)).toInt64)) <<< ((6 : Int32) &&& 0x3f).toInt64) ||| ((own_F16 (cs10.getD 1 0)).toInt64)) <<< ((6 : Int32) &&& 0x3f).toInt64) ||| ((own_F16 (cs10.getD 2 0)).toInt64)) <<< ((6 : Int32) &&& 0x3f).toInt64) ||| ((own_F16 (cs10.getD 3 0)).toInt64)) <<< ((6 : Int32) &&& 0x3f).toInt64) ||| ((own_F16 (cs10.getD 4 0)).toInt64)) <<< ((6 : Int32) &&& 0x3f).toInt64) ||| ((own_F16 (cs10.getD 5 0)).toInt64))), .second, .val (.int (6 : Int32))] [(.long (((((((((((((((0 : Int64) <<< ((6 : Int32) &&& 0x3f).toInt64) ||| ((own_F16 (cs10.getD 0 0)).toInt64)) <<< ((6 : Int32) &&& 0x3f).toInt64) ||| ((own_F16 (cs10.getD 1 0)).toInt64)) <<< ((6 : Int32) &&& 0x3f).toInt64) ||| ((own_F16 (cs10.getD 2 0)).toInt64)) <<< ((6 : Int32) &&& 0x3f).toInt64) ||| ((own_F16 (cs10.getD 3 0)).toInt64)) <<< ((6 : Int32) &&& 0x3f).toInt64) ||| ((own_F16 (cs10.getD 4 0)).toInt64)) <<< ((6 : Int32) &&& 0x3f).toInt64) ||| ((own_F16 (cs10.getD 5 0)).toInt64)) <<< ((6 : Int32) &&& 0x3f).toInt64) ||| ((own_F16 (cs10.getD 6 0)).toInt64)))])) t
    refine XS.lstoreN X33.here hx rfl (hb hby d10_24) rfl (l' := #[.val (.ref a10_0), .val (.long (((((((((((((((0 : Int64) <<< ((6 : Int32) &&& 0x3f).toInt64) ||| ((own_F16 (cs10.getD 0 0)).toInt64)) <<< ((6 : Int32) &&& 0x3f).toInt64) ||| ((own_F16 (cs10.getD 1 0)).toInt64)) <<< ((6 : Int32) &&& 0x3f).toInt64) ||| ((own_F16 (cs10.getD 2 0)).toInt64)) <<< ((6 : Int32) &&& 0x3f).toInt64) ||| ((own_F16 (cs10.getD 3 0)).toInt64)) <<< ((6 : Int32) &&& 0x3f).toInt64) ||| ((own_F16 (cs10.getD 4 0)).toInt64)) <<< ((6 : Int32) &&& 0x3f).toInt64) ||| ((own_F16 (cs10.getD 5 0)).toInt64)) <<< ((6 : Int32) &&& 0x3f).toInt64) ||| ((own_F16 (cs10.getD 6 0)).toInt64))), .second, .val (.int (6 : Int32))]) rfl ?_
    show Steps p.tables e below (T33.setTop (mkF m 25 #[.val (.ref a10_0), .val (.long (((((((((((((((0 : Int64) <<< ((6 : Int32) &&& 0x3f).toInt64) ||| ((own_F16 (cs10.getD 0 0)).toInt64)) <<< ((6 : Int32) &&& 0x3f).toInt64) ||| ((own_F16 (cs10.getD 1 0)).toInt64)) <<< ((6 : Int32) &&& 0x3f).toInt64) ||| ((own_F16 (cs10.getD 2 0)).toInt64)) <<< ((6 : Int32) &&& 0x3f).toInt64) ||| ((own_F16 (cs10.getD 3 0)).toInt64)) <<< ((6 : Int32) &&& 0x3f).toInt64) ||| ((own_F16 (cs10.getD 4 0)).toInt64)) <<< ((6 : Int32) &&& 0x3f).toInt64) ||| ((own_F16 (cs10.getD 5 0)).toInt64)) <<< ((6 : Int32) &&& 0x3f).toInt64) ||| ((own_F16 (cs10.getD 6 0)).toInt64))), .second, .val (.int (6 : Int32))] [])) t
    refine XS.iinc X33.here hx rfl (hb hby d10_25) rfl (l' := #[.val (.ref a10_0), .val (.long (((((((((((((((0 : Int64) <<< ((6 : Int32) &&& 0x3f).toInt64) ||| ((own_F16 (cs10.getD 0 0)).toInt64)) <<< ((6 : Int32) &&& 0x3f).toInt64) ||| ((own_F16 (cs10.getD 1 0)).toInt64)) <<< ((6 : Int32) &&& 0x3f).toInt64) ||| ((own_F16 (cs10.getD 2 0)).toInt64)) <<< ((6 : Int32) &&& 0x3f).toInt64) ||| ((own_F16 (cs10.getD 3 0)).toInt64)) <<< ((6 : Int32) &&& 0x3f).toInt64) ||| ((own_F16 (cs10.getD 4 0)).toInt64)) <<< ((6 : Int32) &&& 0x3f).toInt64) ||| ((own_F16 (cs10.getD 5 0)).toInt64)) <<< ((6 : Int32) &&& 0x3f).toInt64) ||| ((own_F16 (cs10.getD 6 0)).toInt64))), .second, .val (.int (7 : Int32))]) rfl ?_
    show Steps p.tables e below (T33.setTop (mkF m 28 #[.val (.ref a10_0), .val (.long (((((((((((((((0 : Int64) <<< ((6 : Int32) &&& 0x3f).toInt64) ||| ((own_F16 (cs10.getD 0 0)).toInt64)) <<< ((6 : Int32) &&& 0x3f).toInt64) ||| ((own_F16 (cs10.getD 1 0)).toInt64)) <<< ((6 : Int32) &&& 0x3f).toInt64) ||| ((own_F16 (cs10.getD 2 0)).toInt64)) <<< ((6 : Int32) &&& 0x3f).toInt64) ||| ((own_F16 (cs10.getD 3 0)).toInt64)) <<< ((6 : Int32) &&& 0x3f).toInt64) ||| ((own_F16 (cs10.getD 4 0)).toInt64)) <<< ((6 : Int32) &&& 0x3f).toInt64) ||| ((own_F16 (cs10.getD 5 0)).toInt64)) <<< ((6 : Int32) &&& 0x3f).toInt64) ||| ((own_F16 (cs10.getD 6 0)).toInt64))), .second, .val (.int (7 : Int32))] [])) t
    refine XS.goto X33.here hx rfl (pc0 := 28) (pc' := 4) rfl (hb hby d10_28) (by decide) (by decide) ?_
    show Steps p.tables e below (T33.setTop (mkF m 4 #[.val (.ref a10_0), .val (.long (((((((((((((((0 : Int64) <<< ((6 : Int32) &&& 0x3f).toInt64) ||| ((own_F16 (cs10.getD 0 0)).toInt64)) <<< ((6 : Int32) &&& 0x3f).toInt64) ||| ((own_F16 (cs10.getD 1 0)).toInt64)) <<< ((6 : Int32) &&& 0x3f).toInt64) ||| ((own_F16 (cs10.getD 2 0)).toInt64)) <<< ((6 : Int32) &&& 0x3f).toInt64) ||| ((own_F16 (cs10.getD 3 0)).toInt64)) <<< ((6 : Int32) &&& 0x3f).toInt64) ||| ((own_F16 (cs10.getD 4 0)).toInt64)) <<< ((6 : Int32) &&& 0x3f).toInt64) ||| ((own_F16 (cs10.getD 5 0)).toInt64)) <<< ((6 : Int32) &&& 0x3f).toInt64) ||| ((own_F16 (cs10.getD 6 0)).toInt64))), .second, .val (.int (7 : Int32))] [])) t
    refine XS.iloadN X33.here hx rfl (hb hby d10_4) rfl ?_
    show Steps p.tables e below (T33.setTop (mkF m 5 #[.val (.ref a10_0), .val (.long (((((((((((((((0 : Int64) <<< ((6 : Int32) &&& 0x3f).toInt64) ||| ((own_F16 (cs10.getD 0 0)).toInt64)) <<< ((6 : Int32) &&& 0x3f).toInt64) ||| ((own_F16 (cs10.getD 1 0)).toInt64)) <<< ((6 : Int32) &&& 0x3f).toInt64) ||| ((own_F16 (cs10.getD 2 0)).toInt64)) <<< ((6 : Int32) &&& 0x3f).toInt64) ||| ((own_F16 (cs10.getD 3 0)).toInt64)) <<< ((6 : Int32) &&& 0x3f).toInt64) ||| ((own_F16 (cs10.getD 4 0)).toInt64)) <<< ((6 : Int32) &&& 0x3f).toInt64) ||| ((own_F16 (cs10.getD 5 0)).toInt64)) <<< ((6 : Int32) &&& 0x3f).toInt64) ||| ((own_F16 (cs10.getD 6 0)).toInt64))), .second, .val (.int (7 : Int32))] [(.int (7 : Int32))])) t
    refine XS.bipush X33.here hx rfl (hb hby d10_5) ?_
    show Steps p.tables e below (T33.setTop (mkF m 7 #[.val (.ref a10_0), .val (.long (((((((((((((((0 : Int64) <<< ((6 : Int32) &&& 0x3f).toInt64) ||| ((own_F16 (cs10.getD 0 0)).toInt64)) <<< ((6 : Int32) &&& 0x3f).toInt64) ||| ((own_F16 (cs10.getD 1 0)).toInt64)) <<< ((6 : Int32) &&& 0x3f).toInt64) ||| ((own_F16 (cs10.getD 2 0)).toInt64)) <<< ((6 : Int32) &&& 0x3f).toInt64) ||| ((own_F16 (cs10.getD 3 0)).toInt64)) <<< ((6 : Int32) &&& 0x3f).toInt64) ||| ((own_F16 (cs10.getD 4 0)).toInt64)) <<< ((6 : Int32) &&& 0x3f).toInt64) ||| ((own_F16 (cs10.getD 5 0)).toInt64)) <<< ((6 : Int32) &&& 0x3f).toInt64) ||| ((own_F16 (cs10.getD 6 0)).toInt64))), .second, .val (.int (7 : Int32))] [(.int (10 : Int32)), (.int (7 : Int32))])) t
    refine XS.icmpNo X33.here hx rfl (hb hby d10_7) rfl (tlt (by decide : (7 : Int32) < (10 : Int32))).2.1 ?_
    show Steps p.tables e below (T33.setTop (mkF m 10 #[.val (.ref a10_0), .val (.long (((((((((((((((0 : Int64) <<< ((6 : Int32) &&& 0x3f).toInt64) ||| ((own_F16 (cs10.getD 0 0)).toInt64)) <<< ((6 : Int32) &&& 0x3f).toInt64) ||| ((own_F16 (cs10.getD 1 0)).toInt64)) <<< ((6 : Int32) &&& 0x3f).toInt64) ||| ((own_F16 (cs10.getD 2 0)).toInt64)) <<< ((6 : Int32) &&& 0x3f).toInt64) ||| ((own_F16 (cs10.getD 3 0)).toInt64)) <<< ((6 : Int32) &&& 0x3f).toInt64) ||| ((own_F16 (cs10.getD 4 0)).toInt64)) <<< ((6 : Int32) &&& 0x3f).toInt64) ||| ((own_F16 (cs10.getD 5 0)).toInt64)) <<< ((6 : Int32) &&& 0x3f).toInt64) ||| ((own_F16 (cs10.getD 6 0)).toInt64))), .second, .val (.int (7 : Int32))] [])) t
    refine XS.lloadN X33.here hx rfl (hb hby d10_10) rfl ?_
    show Steps p.tables e below (T33.setTop (mkF m 11 #[.val (.ref a10_0), .val (.long (((((((((((((((0 : Int64) <<< ((6 : Int32) &&& 0x3f).toInt64) ||| ((own_F16 (cs10.getD 0 0)).toInt64)) <<< ((6 : Int32) &&& 0x3f).toInt64) ||| ((own_F16 (cs10.getD 1 0)).toInt64)) <<< ((6 : Int32) &&& 0x3f).toInt64) ||| ((own_F16 (cs10.getD 2 0)).toInt64)) <<< ((6 : Int32) &&& 0x3f).toInt64) ||| ((own_F16 (cs10.getD 3 0)).toInt64)) <<< ((6 : Int32) &&& 0x3f).toInt64) ||| ((own_F16 (cs10.getD 4 0)).toInt64)) <<< ((6 : Int32) &&& 0x3f).toInt64) ||| ((own_F16 (cs10.getD 5 0)).toInt64)) <<< ((6 : Int32) &&& 0x3f).toInt64) ||| ((own_F16 (cs10.getD 6 0)).toInt64))), .second, .val (.int (7 : Int32))] [(.long (((((((((((((((0 : Int64) <<< ((6 : Int32) &&& 0x3f).toInt64) ||| ((own_F16 (cs10.getD 0 0)).toInt64)) <<< ((6 : Int32) &&& 0x3f).toInt64) ||| ((own_F16 (cs10.getD 1 0)).toInt64)) <<< ((6 : Int32) &&& 0x3f).toInt64) ||| ((own_F16 (cs10.getD 2 0)).toInt64)) <<< ((6 : Int32) &&& 0x3f).toInt64) ||| ((own_F16 (cs10.getD 3 0)).toInt64)) <<< ((6 : Int32) &&& 0x3f).toInt64) ||| ((own_F16 (cs10.getD 4 0)).toInt64)) <<< ((6 : Int32) &&& 0x3f).toInt64) ||| ((own_F16 (cs10.getD 5 0)).toInt64)) <<< ((6 : Int32) &&& 0x3f).toInt64) ||| ((own_F16 (cs10.getD 6 0)).toInt64)))])) t
    refine XS.bipush X33.here hx rfl (hb hby d10_11) ?_
    show Steps p.tables e below (T33.setTop (mkF m 13 #[.val (.ref a10_0), .val (.long (((((((((((((((0 : Int64) <<< ((6 : Int32) &&& 0x3f).toInt64) ||| ((own_F16 (cs10.getD 0 0)).toInt64)) <<< ((6 : Int32) &&& 0x3f).toInt64) ||| ((own_F16 (cs10.getD 1 0)).toInt64)) <<< ((6 : Int32) &&& 0x3f).toInt64) ||| ((own_F16 (cs10.getD 2 0)).toInt64)) <<< ((6 : Int32) &&& 0x3f).toInt64) ||| ((own_F16 (cs10.getD 3 0)).toInt64)) <<< ((6 : Int32) &&& 0x3f).toInt64) ||| ((own_F16 (cs10.getD 4 0)).toInt64)) <<< ((6 : Int32) &&& 0x3f).toInt64) ||| ((own_F16 (cs10.getD 5 0)).toInt64)) <<< ((6 : Int32) &&& 0x3f).toInt64) ||| ((own_F16 (cs10.getD 6 0)).toInt64))), .second, .val (.int (7 : Int32))] [(.int (6 : Int32)), (.long (((((((((((((((0 : Int64) <<< ((6 : Int32) &&& 0x3f).toInt64) ||| ((own_F16 (cs10.getD 0 0)).toInt64)) <<< ((6 : Int32) &&& 0x3f).toInt64) ||| ((own_F16 (cs10.getD 1 0)).toInt64)) <<< ((6 : Int32) &&& 0x3f).toInt64) ||| ((own_F16 (cs10.getD 2 0)).toInt64)) <<< ((6 : Int32) &&& 0x3f).toInt64) ||| ((own_F16 (cs10.getD 3 0)).toInt64)) <<< ((6 : Int32) &&& 0x3f).toInt64) ||| ((own_F16 (cs10.getD 4 0)).toInt64)) <<< ((6 : Int32) &&& 0x3f).toInt64) ||| ((own_F16 (cs10.getD 5 0)).toInt64)) <<< ((6 : Int32) &&& 0x3f).toInt64) ||| ((own_F16 (cs10.getD 6 0)).toInt64)))])) t
    refine XS.lshl X33.here hx rfl (hb hby d10_13) rfl ?_
    show Steps p.tables e below (T33.setTop (mkF m 14 #[.val (.ref a10_0), .val (.long (((((((((((((((0 : Int64) <<< ((6 : Int32) &&& 0x3f).toInt64) ||| ((own_F16 (cs10.getD 0 0)).toInt64)) <<< ((6 : Int32) &&& 0x3f).toInt64) ||| ((own_F16 (cs10.getD 1 0)).toInt64)) <<< ((6 : Int32) &&& 0x3f).toInt64) ||| ((own_F16 (cs10.getD 2 0)).toInt64)) <<< ((6 : Int32) &&& 0x3f).toInt64) ||| ((own_F16 (cs10.getD 3 0)).toInt64)) <<< ((6 : Int32) &&& 0x3f).toInt64) ||| ((own_F16 (cs10.getD 4 0)).toInt64)) <<< ((6 : Int32) &&& 0x3f).toInt64) ||| ((own_F16 (cs10.getD 5 0)).toInt64)) <<< ((6 : Int32) &&& 0x3f).toInt64) ||| ((own_F16 (cs10.getD 6 0)).toInt64))), .second, .val (.int (7 : Int32))] [(.long ((((((((((((((((0 : Int64) <<< ((6 : Int32) &&& 0x3f).toInt64) ||| ((own_F16 (cs10.getD 0 0)).toInt64)) <<< ((6 : Int32) &&& 0x3f).toInt64) ||| ((own_F16 (cs10.getD 1 0)).toInt64)) <<< ((6 : Int32) &&& 0x3f).toInt64) ||| ((own_F16 (cs10.getD 2 0)).toInt64)) <<< ((6 : Int32) &&& 0x3f).toInt64) ||| ((own_F16 (cs10.getD 3 0)).toInt64)) <<< ((6 : Int32) &&& 0x3f).toInt64) ||| ((own_F16 (cs10.getD 4 0)).toInt64)) <<< ((6 : Int32) &&& 0x3f).toInt64) ||| ((own_F16 (cs10.getD 5 0)).toInt64)) <<< ((6 : Int32) &&& 0x3f).toInt64) ||| ((own_F16 (cs10.getD 6 0)).toInt64)) <<< ((6 : Int32) &&& 0x3f).toInt64))])) t
    refine XS.aloadN X33.here hx rfl (hb hby d10_14) rfl rfl ?_
    show Steps p.tables e below (T33.setTop (mkF m 15 #[.val (.ref a10_0), .val (.long (((((((((((((((0 : Int64) <<< ((6 : Int32) &&& 0x3f).toInt64) ||| ((own_F16 (cs10.getD 0 0)).toInt64)) <<< ((6 : Int32) &&& 0x3f).toInt64) ||| ((own_F16 (cs10.getD 1 0)).toInt64)) <<< ((6 : Int32) &&& 0x3f).toInt64) ||| ((own_F16 (cs10.getD 2 0)).toInt64)) <<< ((6 : Int32) &&& 0x3f).toInt64) ||| ((own_F16 (cs10.getD 3 0)).toInt64)) <<< ((6 : Int32) &&& 0x3f).toInt64) ||| ((own_F16 (cs10.getD 4 0)).toInt64)) <<< ((6 : Int32) &&& 0x3f).toInt64) ||| ((own_F16 (cs10.getD 5 0)).toInt64)) <<< ((6 : Int32) &&& 0x3f).toInt64) ||| ((own_F16 (cs10.getD 6 0)).toInt64))), .second, .val (.int (7 : Int32))] [(.ref a10_0), (.long ((((((((((((((((0 : Int64) <<< ((6 : Int32) &&& 0x3f).toInt64) ||| ((own_F16 (cs10.getD 0 0)).toInt64)) <<< ((6 : Int32) &&& 0x3f).toInt64) ||| ((own_F16 (cs10.getD 1 0)).toInt64)) <<< ((6 : Int32) &&& 0x3f).toInt64) ||| ((own_F16 (cs10.getD 2 0)).toInt64)) <<< ((6 : Int32) &&& 0x3f).toInt64) ||| ((own_F16 (cs10.getD 3 0)).toInt64)) <<< ((6 : Int32) &&& 0x3f).toInt64) ||| ((own_F16 (cs10.getD 4 0)).toInt64)) <<< ((6 : Int32) &&& 0x3f).toInt64) ||| ((own_F16 (cs10.getD 5 0)).toInt64)) <<< ((6 : Int32) &&& 0x3f).toInt64) ||| ((own_F16 (cs10.getD 6 0)).toInt64)) <<< ((6 : Int32) &&& 0x3f).toInt64))])) t
    refine XS.iloadN X33.here hx rfl (hb hby d10_15) rfl ?_
    show Steps p.tables e below (T33.setTop (mkF m 16 #[.val (.ref a10_0), .val (.long (((((((((((((((0 : Int64) <<< ((6 : Int32) &&& 0x3f).toInt64) ||| ((own_F16 (cs10.getD 0 0)).toInt64)) <<< ((6 : Int32) &&& 0x3f).toInt64) ||| ((own_F16 (cs10.getD 1 0)).toInt64)) <<< ((6 : Int32) &&& 0x3f).toInt64) ||| ((own_F16 (cs10.getD 2 0)).toInt64)) <<< ((6 : Int32) &&& 0x3f).toInt64) ||| ((own_F16 (cs10.getD 3 0)).toInt64)) <<< ((6 : Int32) &&& 0x3f).toInt64) ||| ((own_F16 (cs10.getD 4 0)).toInt64)) <<< ((6 : Int32) &&& 0x3f).toInt64) ||| ((own_F16 (cs10.getD 5 0)).toInt64)) <<< ((6 : Int32) &&& 0x3f).toInt64) ||| ((own_F16 (cs10.getD 6 0)).toInt64))), .second, .val (.int (7 : Int32))] [(.int (7 : Int32)), (.ref a10_0), (.long ((((((((((((((((0 : Int64) <<< ((6 : Int32) &&& 0x3f).toInt64) ||| ((own_F16 (cs10.getD 0 0)).toInt64)) <<< ((6 : Int32) &&& 0x3f).toInt64) ||| ((own_F16 (cs10.getD 1 0)).toInt64)) <<< ((6 : Int32) &&& 0x3f).toInt64) ||| ((own_F16 (cs10.getD 2 0)).toInt64)) <<< ((6 : Int32) &&& 0x3f).toInt64) ||| ((own_F16 (cs10.getD 3 0)).toInt64)) <<< ((6 : Int32) &&& 0x3f).toInt64) ||| ((own_F16 (cs10.getD 4 0)).toInt64)) <<< ((6 : Int32) &&& 0x3f).toInt64) ||| ((own_F16 (cs10.getD 5 0)).toInt64)) <<< ((6 : Int32) &&& 0x3f).toInt64) ||| ((own_F16 (cs10.getD 6 0)).toInt64)) <<< ((6 : Int32) &&& 0x3f).toInt64))])) t
    exact k
  have hch35 : ∀ d ∈ StrChars.Road.wordsChN, d.before a0 Z = true := fun d hd => hw d ((by decide +kernel : ∀ d ∈ StrChars.Road.wordsChN, d ∈ tables_1) d hd)
  have hcd35 : StrChars.Road.CodA cs10 0 (22 : Int32) ((cs10.map (fun c => c.toInt8.toInt32)).map Value.int) := StrChars.Road.codOf (n := 22) HL10 (fun x hx => (HP10 x hx).2)
  obtain ⟨cq35, kq35, q35a, q35b, q35c⟩ := isOf hZ e33 E10
  obtain ⟨v35, _, ⟨T35, L35, k35, n35⟩, -, X35, ⟨Lc35, hQ35, l35, y35, z35⟩, st35⟩ := X33.virtualBack hx (y := (⟨"java/lang/String", "charAt", "(I)C"⟩ : MethodName)) (z := (⟨"java/lang/String", "charAt", "(I)C"⟩ : MethodName)) hown (mvT hZ (hw _ (List.mem_of_getElem? (i := 46) rfl))) (mvT hZ (hw _ (List.mem_of_getElem? (i := 47) rfl))) (notFace_of_selects (args := #[]) (mvT hZ (hw _ (List.mem_of_getElem? (i := 49) rfl)))) (mvT hZ (hw _ (List.mem_of_getElem? (i := 49) rfl))) (mvT hZ (hw _ (List.mem_of_getElem? (i := 48) rfl))) (by decide) (StrChars.Road.chN (W := 2) hZ hch35 (kI := 4) (hw _ (List.mem_of_getElem? (i := 14) rfl)) E10 V10 C10 K10 hcd35 (own_up _ HP10) (SC.ext O0.2) HCS (SFm.ext O0.2) HFm (by rw [HL10]; decide) (i := 7) (by rw [HL10]; decide) (j := (7 : Int32)) rfl (by decide) (by decide)) q35a q35c (g := (mkF m 16 #[.val (.ref a10_0), .val (.long (((((((((((((((0 : Int64) <<< ((6 : Int32) &&& 0x3f).toInt64) ||| ((own_F16 (cs10.getD 0 0)).toInt64)) <<< ((6 : Int32) &&& 0x3f).toInt64) ||| ((own_F16 (cs10.getD 1 0)).toInt64)) <<< ((6 : Int32) &&& 0x3f).toInt64) ||| ((own_F16 (cs10.getD 2 0)).toInt64)) <<< ((6 : Int32) &&& 0x3f).toInt64) ||| ((own_F16 (cs10.getD 3 0)).toInt64)) <<< ((6 : Int32) &&& 0x3f).toInt64) ||| ((own_F16 (cs10.getD 4 0)).toInt64)) <<< ((6 : Int32) &&& 0x3f).toInt64) ||| ((own_F16 (cs10.getD 5 0)).toInt64)) <<< ((6 : Int32) &&& 0x3f).toInt64) ||| ((own_F16 (cs10.getD 6 0)).toInt64))), .second, .val (.int (7 : Int32))] [(.int (7 : Int32)), (.ref a10_0), (.long ((((((((((((((((0 : Int64) <<< ((6 : Int32) &&& 0x3f).toInt64) ||| ((own_F16 (cs10.getD 0 0)).toInt64)) <<< ((6 : Int32) &&& 0x3f).toInt64) ||| ((own_F16 (cs10.getD 1 0)).toInt64)) <<< ((6 : Int32) &&& 0x3f).toInt64) ||| ((own_F16 (cs10.getD 2 0)).toInt64)) <<< ((6 : Int32) &&& 0x3f).toInt64) ||| ((own_F16 (cs10.getD 3 0)).toInt64)) <<< ((6 : Int32) &&& 0x3f).toInt64) ||| ((own_F16 (cs10.getD 4 0)).toInt64)) <<< ((6 : Int32) &&& 0x3f).toInt64) ||| ((own_F16 (cs10.getD 5 0)).toInt64)) <<< ((6 : Int32) &&& 0x3f).toInt64) ||| ((own_F16 (cs10.getD 6 0)).toInt64)) <<< ((6 : Int32) &&& 0x3f).toInt64))])) rfl (by rw [hml]; rfl) (Steps.refl _) (argsL := [(.int (7 : Int32))]) (rest := [(.long ((((((((((((((((0 : Int64) <<< ((6 : Int32) &&& 0x3f).toInt64) ||| ((own_F16 (cs10.getD 0 0)).toInt64)) <<< ((6 : Int32) &&& 0x3f).toInt64) ||| ((own_F16 (cs10.getD 1 0)).toInt64)) <<< ((6 : Int32) &&& 0x3f).toInt64) ||| ((own_F16 (cs10.getD 2 0)).toInt64)) <<< ((6 : Int32) &&& 0x3f).toInt64) ||| ((own_F16 (cs10.getD 3 0)).toInt64)) <<< ((6 : Int32) &&& 0x3f).toInt64) ||| ((own_F16 (cs10.getD 4 0)).toInt64)) <<< ((6 : Int32) &&& 0x3f).toInt64) ||| ((own_F16 (cs10.getD 5 0)).toInt64)) <<< ((6 : Int32) &&& 0x3f).toInt64) ||| ((own_F16 (cs10.getD 6 0)).toInt64)) <<< ((6 : Int32) &&& 0x3f).toInt64))]) (lenOf pd__I_C rfl) rfl (by show 2 * 0 + _ ≤ _; exact Nat.le_of_eq rfl) (hb hby d10_16) (fun _ _ => ⟨rfl, e33, (by decide : 0 + 0 ≤ _), (by decide : 0 + 0 ≤ _)⟩)
  dsimp only [Pt.U, Pt.locs, Pt.cells, Pt.slots] at X35 l35 y35 z35 st35 hQ35
  subst y35 z35
  obtain ⟨rfl, rfl, e35⟩ := hQ35
  have N36 : Fr n0 L35 := by rw [l35]; exact Fr.app N34 (Fr.nil n0)
  refine own_via (T' := T35) (g' := (mkF m 19 #[.val (.ref a10_0), .val (.long (((((((((((((((0 : Int64) <<< ((6 : Int32) &&& 0x3f).toInt64) ||| ((own_F16 (cs10.getD 0 0)).toInt64)) <<< ((6 : Int32) &&& 0x3f).toInt64) ||| ((own_F16 (cs10.getD 1 0)).toInt64)) <<< ((6 : Int32) &&& 0x3f).toInt64) ||| ((own_F16 (cs10.getD 2 0)).toInt64)) <<< ((6 : Int32) &&& 0x3f).toInt64) ||| ((own_F16 (cs10.getD 3 0)).toInt64)) <<< ((6 : Int32) &&& 0x3f).toInt64) ||| ((own_F16 (cs10.getD 4 0)).toInt64)) <<< ((6 : Int32) &&& 0x3f).toInt64) ||| ((own_F16 (cs10.getD 5 0)).toInt64)) <<< ((6 : Int32) &&& 0x3f).toInt64) ||| ((own_F16 (cs10.getD 6 0)).toInt64))), .second, .val (.int (7 : Int32))] [(.int (cs10.getD 7 0)), (.long ((((((((((((((((0 : Int64) <<< ((6 : Int32) &&& 0x3f).toInt64) ||| ((own_F16 (cs10.getD 0 0)).toInt64)) <<< ((6 : Int32) &&& 0x3f).toInt64) ||| ((own_F16 (cs10.getD 1 0)).toInt64)) <<< ((6 : Int32) &&& 0x3f).toInt64) ||| ((own_F16 (cs10.getD 2 0)).toInt64)) <<< ((6 : Int32) &&& 0x3f).toInt64) ||| ((own_F16 (cs10.getD 3 0)).toInt64)) <<< ((6 : Int32) &&& 0x3f).toInt64) ||| ((own_F16 (cs10.getD 4 0)).toInt64)) <<< ((6 : Int32) &&& 0x3f).toInt64) ||| ((own_F16 (cs10.getD 5 0)).toInt64)) <<< ((6 : Int32) &&& 0x3f).toInt64) ||| ((own_F16 (cs10.getD 6 0)).toInt64)) <<< ((6 : Int32) &&& 0x3f).toInt64))])) st35 ?_
  obtain ⟨v37, _, ⟨T37, L37, k37, n37⟩, -, X37, ⟨Lc37, hQ37, l37, y37, z37⟩, st37⟩ := Jvm.LawKit.callS X35 hx (y := (⟨"com/example/vacant_errand/vacanterrand/PackedId", "place", "(C)I"⟩ : MethodName)) hown (mvT hZ (hw _ (List.mem_of_getElem? (i := 68) rfl))) (mvT hZ (hw _ (List.mem_of_getElem? (i := 69) rfl))) (mvT hZ (hw _ (List.mem_of_getElem? (i := 44) rfl))) (mvT hZ (hw _ (List.mem_of_getElem? (i := 70) rfl))) (by decide) (backOf (W := 2) (own_rm16 l Z a0 hw [] (cs10.getD 7 0) wPL cPL h0 n0 Z0 O0 (HP10 _ (own_mem cs10 HL10 7 (by decide))).1 SPL TPL) hZ (hw _ (List.mem_of_getElem? (i := 70) rfl)) (hw _ (List.mem_of_getElem? (i := 44) rfl)) (by decide) (by decide)) (g := (mkF m 19 #[.val (.ref a10_0), .val (.long (((((((((((((((0 : Int64) <<< ((6 : Int32) &&& 0x3f).toInt64) ||| ((own_F16 (cs10.getD 0 0)).toInt64)) <<< ((6 : Int32) &&& 0x3f).toInt64) ||| ((own_F16 (cs10.getD 1 0)).toInt64)) <<< ((6 : Int32) &&& 0x3f).toInt64) ||| ((own_F16 (cs10.getD 2 0)).toInt64)) <<< ((6 : Int32) &&& 0x3f).toInt64) ||| ((own_F16 (cs10.getD 3 0)).toInt64)) <<< ((6 : Int32) &&& 0x3f).toInt64) ||| ((own_F16 (cs10.getD 4 0)).toInt64)) <<< ((6 : Int32) &&& 0x3f).toInt64) ||| ((own_F16 (cs10.getD 5 0)).toInt64)) <<< ((6 : Int32) &&& 0x3f).toInt64) ||| ((own_F16 (cs10.getD 6 0)).toInt64))), .second, .val (.int (7 : Int32))] [(.int (cs10.getD 7 0)), (.long ((((((((((((((((0 : Int64) <<< ((6 : Int32) &&& 0x3f).toInt64) ||| ((own_F16 (cs10.getD 0 0)).toInt64)) <<< ((6 : Int32) &&& 0x3f).toInt64) ||| ((own_F16 (cs10.getD 1 0)).toInt64)) <<< ((6 : Int32) &&& 0x3f).toInt64) ||| ((own_F16 (cs10.getD 2 0)).toInt64)) <<< ((6 : Int32) &&& 0x3f).toInt64) ||| ((own_F16 (cs10.getD 3 0)).toInt64)) <<< ((6 : Int32) &&& 0x3f).toInt64) ||| ((own_F16 (cs10.getD 4 0)).toInt64)) <<< ((6 : Int32) &&& 0x3f).toInt64) ||| ((own_F16 (cs10.getD 5 0)).toInt64)) <<< ((6 : Int32) &&& 0x3f).toInt64) ||| ((own_F16 (cs10.getD 6 0)).toInt64)) <<< ((6 : Int32) &&& 0x3f).toInt64))])) rfl (by rw [hml]; rfl) (argsL := [(.int (cs10.getD 7 0))]) (rest := [(.long ((((((((((((((((0 : Int64) <<< ((6 : Int32) &&& 0x3f).toInt64) ||| ((own_F16 (cs10.getD 0 0)).toInt64)) <<< ((6 : Int32) &&& 0x3f).toInt64) ||| ((own_F16 (cs10.getD 1 0)).toInt64)) <<< ((6 : Int32) &&& 0x3f).toInt64) ||| ((own_F16 (cs10.getD 2 0)).toInt64)) <<< ((6 : Int32) &&& 0x3f).toInt64) ||| ((own_F16 (cs10.getD 3 0)).toInt64)) <<< ((6 : Int32) &&& 0x3f).toInt64) ||| ((own_F16 (cs10.getD 4 0)).toInt64)) <<< ((6 : Int32) &&& 0x3f).toInt64) ||| ((own_F16 (cs10.getD 5 0)).toInt64)) <<< ((6 : Int32) &&& 0x3f).toInt64) ||| ((own_F16 (cs10.getD 6 0)).toInt64)) <<< ((6 : Int32) &&& 0x3f).toInt64))]) (lenOf pd__C_I rfl) rfl (by show 2 * 0 + _ ≤ _; exact Nat.le_of_eq rfl) (hb hby d10_19) (fun _ _ => ⟨rfl, e35, (by decide : 0 + 0 ≤ _), (by decide : 0 + 0 ≤ _)⟩)
  dsimp only [Pt.U, Pt.locs, Pt.cells, Pt.slots] at X37 l37 y37 z37 st37 hQ37
  subst y37 z37
  obtain ⟨rfl, M37, e37⟩ := hQ37
  have N38 : Fr n0 L37 := by rw [l37]; exact Fr.app N36 M37
  refine own_by (T' := T37) (g' := (mkF m 22 #[.val (.ref a10_0), .val (.long (((((((((((((((0 : Int64) <<< ((6 : Int32) &&& 0x3f).toInt64) ||| ((own_F16 (cs10.getD 0 0)).toInt64)) <<< ((6 : Int32) &&& 0x3f).toInt64) ||| ((own_F16 (cs10.getD 1 0)).toInt64)) <<< ((6 : Int32) &&& 0x3f).toInt64) ||| ((own_F16 (cs10.getD 2 0)).toInt64)) <<< ((6 : Int32) &&& 0x3f).toInt64) ||| ((own_F16 (cs10.getD 3 0)).toInt64)) <<< ((6 : Int32) &&& 0x3f).toInt64) ||| ((own_F16 (cs10.getD 4 0)).toInt64)) <<< ((6 : Int32) &&& 0x3f).toInt64) ||| ((own_F16 (cs10.getD 5 0)).toInt64)) <<< ((6 : Int32) &&& 0x3f).toInt64) ||| ((own_F16 (cs10.getD 6 0)).toInt64))), .second, .val (.int (7 : Int32))] [(.int (own_F16 (cs10.getD 7 0))), (.long ((((((((((((((((0 : Int64) <<< ((6 : Int32) &&& 0x3f).toInt64) ||| ((own_F16 (cs10.getD 0 0)).toInt64)) <<< ((6 : Int32) &&& 0x3f).toInt64) ||| ((own_F16 (cs10.getD 1 0)).toInt64)) <<< ((6 : Int32) &&& 0x3f).toInt64) ||| ((own_F16 (cs10.getD 2 0)).toInt64)) <<< ((6 : Int32) &&& 0x3f).toInt64) ||| ((own_F16 (cs10.getD 3 0)).toInt64)) <<< ((6 : Int32) &&& 0x3f).toInt64) ||| ((own_F16 (cs10.getD 4 0)).toInt64)) <<< ((6 : Int32) &&& 0x3f).toInt64) ||| ((own_F16 (cs10.getD 5 0)).toInt64)) <<< ((6 : Int32) &&& 0x3f).toInt64) ||| ((own_F16 (cs10.getD 6 0)).toInt64)) <<< ((6 : Int32) &&& 0x3f).toInt64))])) st37 ?_
  refine own_by (T' := T37) (g' := (mkF m 16 #[.val (.ref a10_0), .val (.long (((((((((((((((((0 : Int64) <<< ((6 : Int32) &&& 0x3f).toInt64) ||| ((own_F16 (cs10.getD 0 0)).toInt64)) <<< ((6 : Int32) &&& 0x3f).toInt64) ||| ((own_F16 (cs10.getD 1 0)).toInt64)) <<< ((6 : Int32) &&& 0x3f).toInt64) ||| ((own_F16 (cs10.getD 2 0)).toInt64)) <<< ((6 : Int32) &&& 0x3f).toInt64) ||| ((own_F16 (cs10.getD 3 0)).toInt64)) <<< ((6 : Int32) &&& 0x3f).toInt64) ||| ((own_F16 (cs10.getD 4 0)).toInt64)) <<< ((6 : Int32) &&& 0x3f).toInt64) ||| ((own_F16 (cs10.getD 5 0)).toInt64)) <<< ((6 : Int32) &&& 0x3f).toInt64) ||| ((own_F16 (cs10.getD 6 0)).toInt64)) <<< ((6 : Int32) &&& 0x3f).toInt64) ||| ((own_F16 (cs10.getD 7 0)).toInt64))), .second, .val (.int (8 : Int32))] [(.int (8 : Int32)), (.ref a10_0), (.long ((((((((((((((((((0 : Int64) <<< ((6 : Int32) &&& 0x3f).toInt64) ||| ((own_F16 (cs10.getD 0 0)).toInt64)) <<< ((6 : Int32) &&& 0x3f).toInt64) ||| ((own_F16 (cs10.getD 1 0)).toInt64)) <<< ((6 : Int32) &&& 0x3f).toInt64) ||| ((own_F16 (cs10.getD 2 0)).toInt64)) <<< ((6 : Int32) &&& 0x3f).toInt64) ||| ((own_F16 (cs10.getD 3 0)).toInt64)) <<< ((6 : Int32) &&& 0x3f).toInt64) ||| ((own_F16 (cs10.getD 4 0)).toInt64)) <<< ((6 : Int32) &&& 0x3f).toInt64) ||| ((own_F16 (cs10.getD 5 0)).toInt64)) <<< ((6 : Int32) &&& 0x3f).toInt64) ||| ((own_F16 (cs10.getD 6 0)).toInt64)) <<< ((6 : Int32) &&& 0x3f).toInt64) ||| ((own_F16 (cs10.getD 7 0)).toInt64)) <<< ((6 : Int32) &&& 0x3f).toInt64))])) (fun t k => ?_) ?_
  · show Steps p.tables e below (T37.setTop (mkF m 22 #[.val (.ref a10_0), .val (.long (((((((((((((((0 : Int64) <<< ((6 : Int32) &&& 0x3f).toInt64) ||| ((own_F16 (cs10.getD 0 0)).toInt64)) <<< ((6 : Int32) &&& 0x3f).toInt64) ||| ((own_F16 (cs10.getD 1 0)).toInt64)) <<< ((6 : Int32) &&& 0x3f).toInt64) ||| ((own_F16 (cs10.getD 2 0)).toInt64)) <<< ((6 : Int32) &&& 0x3f).toInt64) ||| ((own_F16 (cs10.getD 3 0)).toInt64)) <<< ((6 : Int32) &&& 0x3f).toInt64) ||| ((own_F16 (cs10.getD 4 0)).toInt64)) <<< ((6 : Int32) &&& 0x3f).toInt64) ||| ((own_F16 (cs10.getD 5 0)).toInt64)) <<< ((6 : Int32) &&& 0x3f).toInt64) ||| ((own_F16 (cs10.getD 6 0)).toInt64))), .second, .val (.int (7 : Int32))] [(.int (own_F16 (cs10.getD 7 0))), (.long ((((((((((((((((0 : Int64) <<< ((6 : Int32) &&& 0x3f).toInt64) ||| ((own_F16 (cs10.getD 0 0)).toInt64)) <<< ((6 : Int32) &&& 0x3f).toInt64) ||| ((own_F16 (cs10.getD 1 0)).toInt64)) <<< ((6 : Int32) &&& 0x3f).toInt64) ||| ((own_F16 (cs10.getD 2 0)).toInt64)) <<< ((6 : Int32) &&& 0x3f).toInt64) ||| ((own_F16 (cs10.getD 3 0)).toInt64)) <<< ((6 : Int32) &&& 0x3f).toInt64) ||| ((own_F16 (cs10.getD 4 0)).toInt64)) <<< ((6 : Int32) &&& 0x3f).toInt64) ||| ((own_F16 (cs10.getD 5 0)).toInt64)) <<< ((6 : Int32) &&& 0x3f).toInt64) ||| ((own_F16 (cs10.getD 6 0)).toInt64)) <<< ((6 : Int32) &&& 0x3f).toInt64))])) t
    refine XS.i2l X37.here hx rfl (hb hby d10_22) rfl ?_
    show Steps p.tables e below (T37.setTop (mkF m 23 #[.val (.ref a10_0), .val (.long (((((((((((((((0 : Int64) <<< ((6 : Int32) &&& 0x3f).toInt64) ||| ((own_F16 (cs10.getD 0 0)).toInt64)) <<< ((6 : Int32) &&& 0x3f).toInt64) ||| ((own_F16 (cs10.getD 1 0)).toInt64)) <<< ((6 : Int32) &&& 0x3f).toInt64) ||| ((own_F16 (cs10.getD 2 0)).toInt64)) <<< ((6 : Int32) &&& 0x3f).toInt64) ||| ((own_F16 (cs10.getD 3 0)).toInt64)) <<< ((6 : Int32) &&& 0x3f).toInt64) ||| ((own_F16 (cs10.getD 4 0)).toInt64)) <<< ((6 : Int32) &&& 0x3f).toInt64) ||| ((own_F16 (cs10.getD 5 0)).toInt64)) <<< ((6 : Int32) &&& 0x3f).toInt64) ||| ((own_F16 (cs10.getD 6 0)).toInt64))), .second, .val (.int (7 : Int32))] [(.long ((own_F16 (cs10.getD 7 0)).toInt64)), (.long ((((((((((((((((0 : Int64) <<< ((6 : Int32) &&& 0x3f).toInt64) ||| ((own_F16 (cs10.getD 0 0)).toInt64)) <<< ((6 : Int32) &&& 0x3f).toInt64) ||| ((own_F16 (cs10.getD 1 0)).toInt64)) <<< ((6 : Int32) &&& 0x3f).toInt64) ||| ((own_F16 (cs10.getD 2 0)).toInt64)) <<< ((6 : Int32) &&& 0x3f).toInt64) ||| ((own_F16 (cs10.getD 3 0)).toInt64)) <<< ((6 : Int32) &&& 0x3f).toInt64) ||| ((own_F16 (cs10.getD 4 0)).toInt64)) <<< ((6 : Int32) &&& 0x3f).toInt64) ||| ((own_F16 (cs10.getD 5 0)).toInt64)) <<< ((6 : Int32) &&& 0x3f).toInt64) ||| ((own_F16 (cs10.getD 6 0)).toInt64)) <<< ((6 : Int32) &&& 0x3f).toInt64))])) t
    refine XS.lor X37.here hx rfl (hb hby d10_23) rfl ?_
    show Steps p.tables e below (T37.setTop (mkF m 24 #[.val (.ref a10_0), .val (.long (((((((((((((((0 : Int64) <<< ((6 : Int32) &&& 0x3f).toInt64) ||| ((own_F16 (cs10.getD 0 0)).toInt64)) <<< ((6 : Int32) &&& 0x3f).toInt64) ||| ((own_F16 (cs10.getD 1 0)).toInt64)) <<< ((6 : Int32) &&& 0x3f).toInt64) ||| ((own_F16 (cs10.getD 2 0)).toInt64)) <<< ((6 : Int32) &&& 0x3f).toInt64) ||| ((own_F16 (cs10.getD 3 0)).toInt64)) <<< ((6 : Int32) &&& 0x3f).toInt64) ||| ((own_F16 (cs10.getD 4 0)).toInt64)) <<< ((6 : Int32) &&& 0x3f).toInt64) ||| ((own_F16 (cs10.getD 5 0)).toInt64)) <<< ((6 : Int32) &&& 0x3f).toInt64) ||| ((own_F16 (cs10.getD 6 0)).toInt64))), .second, .val (.int (7 : Int32))] [(.long (((((((((((((((((0 : Int64) <<< ((6 : Int32) &&& 0x3f).toInt64) ||| ((own_F16 (cs10.getD 0 0)).toInt64)) <<< ((6 : Int32) &&& 0x3f).toInt64) ||| ((own_F16 (cs10.getD 1 0)).toInt64)) <<< ((6 : Int32) &&& 0x3f).toInt64) ||| ((own_F16 (cs10.getD 2 0)).toInt64)) <<< ((6 : Int32) &&& 0x3f).toInt64) ||| ((own_F16 (cs10.getD 3 0)).toInt64)) <<< ((6 : Int32) &&& 0x3f).toInt64) ||| ((own_F16 (cs10.getD 4 0)).toInt64)) <<< ((6 : Int32) &&& 0x3f).toInt64) ||| ((own_F16 (cs10.getD 5 0)).toInt64)) <<< ((6 : Int32) &&& 0x3f).toInt64) ||| ((own_F16 (cs10.getD 6 0)).toInt64)) <<< ((6 : Int32) &&& 0x3f).toInt64) ||| ((own_F16 (cs10.getD 7 0)).toInt64)))])) t
    refine XS.lstoreN X37.here hx rfl (hb hby d10_24) rfl (l' := #[.val (.ref a10_0), .val (.long (((((((((((((((((0 : Int64) <<< ((6 : Int32) &&& 0x3f).toInt64) ||| ((own_F16 (cs10.getD 0 0)).toInt64)) <<< ((6 : Int32) &&& 0x3f).toInt64) ||| ((own_F16 (cs10.getD 1 0)).toInt64)) <<< ((6 : Int32) &&& 0x3f).toInt64) ||| ((own_F16 (cs10.getD 2 0)).toInt64)) <<< ((6 : Int32) &&& 0x3f).toInt64) ||| ((own_F16 (cs10.getD 3 0)).toInt64)) <<< ((6 : Int32) &&& 0x3f).toInt64) ||| ((own_F16 (cs10.getD 4 0)).toInt64)) <<< ((6 : Int32) &&& 0x3f).toInt64) ||| ((own_F16 (cs10.getD 5 0)).toInt64)) <<< ((6 : Int32) &&& 0x3f).toInt64) ||| ((own_F16 (cs10.getD 6 0)).toInt64)) <<< ((6 : Int32) &&& 0x3f).toInt64) ||| ((own_F16 (cs10.getD 7 0)).toInt64))), .second, .val (.int (7 : Int32))]) rfl ?_
    show Steps p.tables e below (T37.setTop (mkF m 25 #[.val (.ref a10_0), .val (.long (((((((((((((((((0 : Int64) <<< ((6 : Int32) &&& 0x3f).toInt64) ||| ((own_F16 (cs10.getD 0 0)).toInt64)) <<< ((6 : Int32) &&& 0x3f).toInt64) ||| ((own_F16 (cs10.getD 1 0)).toInt64)) <<< ((6 : Int32) &&& 0x3f).toInt64) ||| ((own_F16 (cs10.getD 2 0)).toInt64)) <<< ((6 : Int32) &&& 0x3f).toInt64) ||| ((own_F16 (cs10.getD 3 0)).toInt64)) <<< ((6 : Int32) &&& 0x3f).toInt64) ||| ((own_F16 (cs10.getD 4 0)).toInt64)) <<< ((6 : Int32) &&& 0x3f).toInt64) ||| ((own_F16 (cs10.getD 5 0)).toInt64)) <<< ((6 : Int32) &&& 0x3f).toInt64) ||| ((own_F16 (cs10.getD 6 0)).toInt64)) <<< ((6 : Int32) &&& 0x3f).toInt64) ||| ((own_F16 (cs10.getD 7 0)).toInt64))), .second, .val (.int (7 : Int32))] [])) t
    refine XS.iinc X37.here hx rfl (hb hby d10_25) rfl (l' := #[.val (.ref a10_0), .val (.long (((((((((((((((((0 : Int64) <<< ((6 : Int32) &&& 0x3f).toInt64) ||| ((own_F16 (cs10.getD 0 0)).toInt64)) <<< ((6 : Int32) &&& 0x3f).toInt64) ||| ((own_F16 (cs10.getD 1 0)).toInt64)) <<< ((6 : Int32) &&& 0x3f).toInt64) ||| ((own_F16 (cs10.getD 2 0)).toInt64)) <<< ((6 : Int32) &&& 0x3f).toInt64) ||| ((own_F16 (cs10.getD 3 0)).toInt64)) <<< ((6 : Int32) &&& 0x3f).toInt64) ||| ((own_F16 (cs10.getD 4 0)).toInt64)) <<< ((6 : Int32) &&& 0x3f).toInt64) ||| ((own_F16 (cs10.getD 5 0)).toInt64)) <<< ((6 : Int32) &&& 0x3f).toInt64) ||| ((own_F16 (cs10.getD 6 0)).toInt64)) <<< ((6 : Int32) &&& 0x3f).toInt64) ||| ((own_F16 (cs10.getD 7 0)).toInt64))), .second, .val (.int (8 : Int32))]) rfl ?_
    show Steps p.tables e below (T37.setTop (mkF m 28 #[.val (.ref a10_0), .val (.long (((((((((((((((((0 : Int64) <<< ((6 : Int32) &&& 0x3f).toInt64) ||| ((own_F16 (cs10.getD 0 0)).toInt64)) <<< ((6 : Int32) &&& 0x3f).toInt64) ||| ((own_F16 (cs10.getD 1 0)).toInt64)) <<< ((6 : Int32) &&& 0x3f).toInt64) ||| ((own_F16 (cs10.getD 2 0)).toInt64)) <<< ((6 : Int32) &&& 0x3f).toInt64) ||| ((own_F16 (cs10.getD 3 0)).toInt64)) <<< ((6 : Int32) &&& 0x3f).toInt64) ||| ((own_F16 (cs10.getD 4 0)).toInt64)) <<< ((6 : Int32) &&& 0x3f).toInt64) ||| ((own_F16 (cs10.getD 5 0)).toInt64)) <<< ((6 : Int32) &&& 0x3f).toInt64) ||| ((own_F16 (cs10.getD 6 0)).toInt64)) <<< ((6 : Int32) &&& 0x3f).toInt64) ||| ((own_F16 (cs10.getD 7 0)).toInt64))), .second, .val (.int (8 : Int32))] [])) t
    refine XS.goto X37.here hx rfl (pc0 := 28) (pc' := 4) rfl (hb hby d10_28) (by decide) (by decide) ?_
    show Steps p.tables e below (T37.setTop (mkF m 4 #[.val (.ref a10_0), .val (.long (((((((((((((((((0 : Int64) <<< ((6 : Int32) &&& 0x3f).toInt64) ||| ((own_F16 (cs10.getD 0 0)).toInt64)) <<< ((6 : Int32) &&& 0x3f).toInt64) ||| ((own_F16 (cs10.getD 1 0)).toInt64)) <<< ((6 : Int32) &&& 0x3f).toInt64) ||| ((own_F16 (cs10.getD 2 0)).toInt64)) <<< ((6 : Int32) &&& 0x3f).toInt64) ||| ((own_F16 (cs10.getD 3 0)).toInt64)) <<< ((6 : Int32) &&& 0x3f).toInt64) ||| ((own_F16 (cs10.getD 4 0)).toInt64)) <<< ((6 : Int32) &&& 0x3f).toInt64) ||| ((own_F16 (cs10.getD 5 0)).toInt64)) <<< ((6 : Int32) &&& 0x3f).toInt64) ||| ((own_F16 (cs10.getD 6 0)).toInt64)) <<< ((6 : Int32) &&& 0x3f).toInt64) ||| ((own_F16 (cs10.getD 7 0)).toInt64))), .second, .val (.int (8 : Int32))] [])) t
    refine XS.iloadN X37.here hx rfl (hb hby d10_4) rfl ?_
    show Steps p.tables e below (T37.setTop (mkF m 5 #[.val (.ref a10_0), .val (.long (((((((((((((((((0 : Int64) <<< ((6 : Int32) &&& 0x3f).toInt64) ||| ((own_F16 (cs10.getD 0 0)).toInt64)) <<< ((6 : Int32) &&& 0x3f).toInt64) ||| ((own_F16 (cs10.getD 1 0)).toInt64)) <<< ((6 : Int32) &&& 0x3f).toInt64) ||| ((own_F16 (cs10.getD 2 0)).toInt64)) <<< ((6 : Int32) &&& 0x3f).toInt64) ||| ((own_F16 (cs10.getD 3 0)).toInt64)) <<< ((6 : Int32) &&& 0x3f).toInt64) ||| ((own_F16 (cs10.getD 4 0)).toInt64)) <<< ((6 : Int32) &&& 0x3f).toInt64) ||| ((own_F16 (cs10.getD 5 0)).toInt64)) <<< ((6 : Int32) &&& 0x3f).toInt64) ||| ((own_F16 (cs10.getD 6 0)).toInt64)) <<< ((6 : Int32) &&& 0x3f).toInt64) ||| ((own_F16 (cs10.getD 7 0)).toInt64))), .second, .val (.int (8 : Int32))] [(.int (8 : Int32))])) t
    refine XS.bipush X37.here hx rfl (hb hby d10_5) ?_
    show Steps p.tables e below (T37.setTop (mkF m 7 #[.val (.ref a10_0), .val (.long (((((((((((((((((0 : Int64) <<< ((6 : Int32) &&& 0x3f).toInt64) ||| ((own_F16 (cs10.getD 0 0)).toInt64)) <<< ((6 : Int32) &&& 0x3f).toInt64) ||| ((own_F16 (cs10.getD 1 0)).toInt64)) <<< ((6 : Int32) &&& 0x3f).toInt64) ||| ((own_F16 (cs10.getD 2 0)).toInt64)) <<< ((6 : Int32) &&& 0x3f).toInt64) ||| ((own_F16 (cs10.getD 3 0)).toInt64)) <<< ((6 : Int32) &&& 0x3f).toInt64) ||| ((own_F16 (cs10.getD 4 0)).toInt64)) <<< ((6 : Int32) &&& 0x3f).toInt64) ||| ((own_F16 (cs10.getD 5 0)).toInt64)) <<< ((6 : Int32) &&& 0x3f).toInt64) ||| ((own_F16 (cs10.getD 6 0)).toInt64)) <<< ((6 : Int32) &&& 0x3f).toInt64) ||| ((own_F16 (cs10.getD 7 0)).toInt64))), .second, .val (.int (8 : Int32))] [(.int (10 : Int32)), (.int (8 : Int32))])) t
    refine XS.icmpNo X37.here hx rfl (hb hby d10_7) rfl (tlt (by decide : (8 : Int32) < (10 : Int32))).2.1 ?_
    show Steps p.tables e below (T37.setTop (mkF m 10 #[.val (.ref a10_0), .val (.long (((((((((((((((((0 : Int64) <<< ((6 : Int32) &&& 0x3f).toInt64) ||| ((own_F16 (cs10.getD 0 0)).toInt64)) <<< ((6 : Int32) &&& 0x3f).toInt64) ||| ((own_F16 (cs10.getD 1 0)).toInt64)) <<< ((6 : Int32) &&& 0x3f).toInt64) ||| ((own_F16 (cs10.getD 2 0)).toInt64)) <<< ((6 : Int32) &&& 0x3f).toInt64) ||| ((own_F16 (cs10.getD 3 0)).toInt64)) <<< ((6 : Int32) &&& 0x3f).toInt64) ||| ((own_F16 (cs10.getD 4 0)).toInt64)) <<< ((6 : Int32) &&& 0x3f).toInt64) ||| ((own_F16 (cs10.getD 5 0)).toInt64)) <<< ((6 : Int32) &&& 0x3f).toInt64) ||| ((own_F16 (cs10.getD 6 0)).toInt64)) <<< ((6 : Int32) &&& 0x3f).toInt64) ||| ((own_F16 (cs10.getD 7 0)).toInt64))), .second, .val (.int (8 : Int32))] [])) t
    refine XS.lloadN X37.here hx rfl (hb hby d10_10) rfl ?_
    show Steps p.tables e below (T37.setTop (mkF m 11 #[.val (.ref a10_0), .val (.long (((((((((((((((((0 : Int64) <<< ((6 : Int32) &&& 0x3f).toInt64) ||| ((own_F16 (cs10.getD 0 0)).toInt64)) <<< ((6 : Int32) &&& 0x3f).toInt64) ||| ((own_F16 (cs10.getD 1 0)).toInt64)) <<< ((6 : Int32) &&& 0x3f).toInt64) ||| ((own_F16 (cs10.getD 2 0)).toInt64)) <<< ((6 : Int32) &&& 0x3f).toInt64) ||| ((own_F16 (cs10.getD 3 0)).toInt64)) <<< ((6 : Int32) &&& 0x3f).toInt64) ||| ((own_F16 (cs10.getD 4 0)).toInt64)) <<< ((6 : Int32) &&& 0x3f).toInt64) ||| ((own_F16 (cs10.getD 5 0)).toInt64)) <<< ((6 : Int32) &&& 0x3f).toInt64) ||| ((own_F16 (cs10.getD 6 0)).toInt64)) <<< ((6 : Int32) &&& 0x3f).toInt64) ||| ((own_F16 (cs10.getD 7 0)).toInt64))), .second, .val (.int (8 : Int32))] [(.long (((((((((((((((((0 : Int64) <<< ((6 : Int32) &&& 0x3f).toInt64) ||| ((own_F16 (cs10.getD 0 0)).toInt64)) <<< ((6 : Int32) &&& 0x3f).toInt64) ||| ((own_F16 (cs10.getD 1 0)).toInt64)) <<< ((6 : Int32) &&& 0x3f).toInt64) ||| ((own_F16 (cs10.getD 2 0)).toInt64)) <<< ((6 : Int32) &&& 0x3f).toInt64) ||| ((own_F16 (cs10.getD 3 0)).toInt64)) <<< ((6 : Int32) &&& 0x3f).toInt64) ||| ((own_F16 (cs10.getD 4 0)).toInt64)) <<< ((6 : Int32) &&& 0x3f).toInt64) ||| ((own_F16 (cs10.getD 5 0)).toInt64)) <<< ((6 : Int32) &&& 0x3f).toInt64) ||| ((own_F16 (cs10.getD 6 0)).toInt64)) <<< ((6 : Int32) &&& 0x3f).toInt64) ||| ((own_F16 (cs10.getD 7 0)).toInt64)))])) t
    refine XS.bipush X37.here hx rfl (hb hby d10_11) ?_
    show Steps p.tables e below (T37.setTop (mkF m 13 #[.val (.ref a10_0), .val (.long (((((((((((((((((0 : Int64) <<< ((6 : Int32) &&& 0x3f).toInt64) ||| ((own_F16 (cs10.getD 0 0)).toInt64)) <<< ((6 : Int32) &&& 0x3f).toInt64) ||| ((own_F16 (cs10.getD 1 0)).toInt64)) <<< ((6 : Int32) &&& 0x3f).toInt64) ||| ((own_F16 (cs10.getD 2 0)).toInt64)) <<< ((6 : Int32) &&& 0x3f).toInt64) ||| ((own_F16 (cs10.getD 3 0)).toInt64)) <<< ((6 : Int32) &&& 0x3f).toInt64) ||| ((own_F16 (cs10.getD 4 0)).toInt64)) <<< ((6 : Int32) &&& 0x3f).toInt64) ||| ((own_F16 (cs10.getD 5 0)).toInt64)) <<< ((6 : Int32) &&& 0x3f).toInt64) ||| ((own_F16 (cs10.getD 6 0)).toInt64)) <<< ((6 : Int32) &&& 0x3f).toInt64) ||| ((own_F16 (cs10.getD 7 0)).toInt64))), .second, .val (.int (8 : Int32))] [(.int (6 : Int32)), (.long (((((((((((((((((0 : Int64) <<< ((6 : Int32) &&& 0x3f).toInt64) ||| ((own_F16 (cs10.getD 0 0)).toInt64)) <<< ((6 : Int32) &&& 0x3f).toInt64) ||| ((own_F16 (cs10.getD 1 0)).toInt64)) <<< ((6 : Int32) &&& 0x3f).toInt64) ||| ((own_F16 (cs10.getD 2 0)).toInt64)) <<< ((6 : Int32) &&& 0x3f).toInt64) ||| ((own_F16 (cs10.getD 3 0)).toInt64)) <<< ((6 : Int32) &&& 0x3f).toInt64) ||| ((own_F16 (cs10.getD 4 0)).toInt64)) <<< ((6 : Int32) &&& 0x3f).toInt64) ||| ((own_F16 (cs10.getD 5 0)).toInt64)) <<< ((6 : Int32) &&& 0x3f).toInt64) ||| ((own_F16 (cs10.getD 6 0)).toInt64)) <<< ((6 : Int32) &&& 0x3f).toInt64) ||| ((own_F16 (cs10.getD 7 0)).toInt64)))])) t
    refine XS.lshl X37.here hx rfl (hb hby d10_13) rfl ?_
    show Steps p.tables e below (T37.setTop (mkF m 14 #[.val (.ref a10_0), .val (.long (((((((((((((((((0 : Int64) <<< ((6 : Int32) &&& 0x3f).toInt64) ||| ((own_F16 (cs10.getD 0 0)).toInt64)) <<< ((6 : Int32) &&& 0x3f).toInt64) ||| ((own_F16 (cs10.getD 1 0)).toInt64)) <<< ((6 : Int32) &&& 0x3f).toInt64) ||| ((own_F16 (cs10.getD 2 0)).toInt64)) <<< ((6 : Int32) &&& 0x3f).toInt64) ||| ((own_F16 (cs10.getD 3 0)).toInt64)) <<< ((6 : Int32) &&& 0x3f).toInt64) ||| ((own_F16 (cs10.getD 4 0)).toInt64)) <<< ((6 : Int32) &&& 0x3f).toInt64) ||| ((own_F16 (cs10.getD 5 0)).toInt64)) <<< ((6 : Int32) &&& 0x3f).toInt64) ||| ((own_F16 (cs10.getD 6 0)).toInt64)) <<< ((6 : Int32) &&& 0x3f).toInt64) ||| ((own_F16 (cs10.getD 7 0)).toInt64))), .second, .val (.int (8 : Int32))] [(.long ((((((((((((((((((0 : Int64) <<< ((6 : Int32) &&& 0x3f).toInt64) ||| ((own_F16 (cs10.getD 0 0)).toInt64)) <<< ((6 : Int32) &&& 0x3f).toInt64) ||| ((own_F16 (cs10.getD 1 0)).toInt64)) <<< ((6 : Int32) &&& 0x3f).toInt64) ||| ((own_F16 (cs10.getD 2 0)).toInt64)) <<< ((6 : Int32) &&& 0x3f).toInt64) ||| ((own_F16 (cs10.getD 3 0)).toInt64)) <<< ((6 : Int32) &&& 0x3f).toInt64) ||| ((own_F16 (cs10.getD 4 0)).toInt64)) <<< ((6 : Int32) &&& 0x3f).toInt64) ||| ((own_F16 (cs10.getD 5 0)).toInt64)) <<< ((6 : Int32) &&& 0x3f).toInt64) ||| ((own_F16 (cs10.getD 6 0)).toInt64)) <<< ((6 : Int32) &&& 0x3f).toInt64) ||| ((own_F16 (cs10.getD 7 0)).toInt64)) <<< ((6 : Int32) &&& 0x3f).toInt64))])) t
    refine XS.aloadN X37.here hx rfl (hb hby d10_14) rfl rfl ?_
    show Steps p.tables e below (T37.setTop (mkF m 15 #[.val (.ref a10_0), .val (.long (((((((((((((((((0 : Int64) <<< ((6 : Int32) &&& 0x3f).toInt64) ||| ((own_F16 (cs10.getD 0 0)).toInt64)) <<< ((6 : Int32) &&& 0x3f).toInt64) ||| ((own_F16 (cs10.getD 1 0)).toInt64)) <<< ((6 : Int32) &&& 0x3f).toInt64) ||| ((own_F16 (cs10.getD 2 0)).toInt64)) <<< ((6 : Int32) &&& 0x3f).toInt64) ||| ((own_F16 (cs10.getD 3 0)).toInt64)) <<< ((6 : Int32) &&& 0x3f).toInt64) ||| ((own_F16 (cs10.getD 4 0)).toInt64)) <<< ((6 : Int32) &&& 0x3f).toInt64) ||| ((own_F16 (cs10.getD 5 0)).toInt64)) <<< ((6 : Int32) &&& 0x3f).toInt64) ||| ((own_F16 (cs10.getD 6 0)).toInt64)) <<< ((6 : Int32) &&& 0x3f).toInt64) ||| ((own_F16 (cs10.getD 7 0)).toInt64))), .second, .val (.int (8 : Int32))] [(.ref a10_0), (.long ((((((((((((((((((0 : Int64) <<< ((6 : Int32) &&& 0x3f).toInt64) ||| ((own_F16 (cs10.getD 0 0)).toInt64)) <<< ((6 : Int32) &&& 0x3f).toInt64) ||| ((own_F16 (cs10.getD 1 0)).toInt64)) <<< ((6 : Int32) &&& 0x3f).toInt64) ||| ((own_F16 (cs10.getD 2 0)).toInt64)) <<< ((6 : Int32) &&& 0x3f).toInt64) ||| ((own_F16 (cs10.getD 3 0)).toInt64)) <<< ((6 : Int32) &&& 0x3f).toInt64) ||| ((own_F16 (cs10.getD 4 0)).toInt64)) <<< ((6 : Int32) &&& 0x3f).toInt64) ||| ((own_F16 (cs10.getD 5 0)).toInt64)) <<< ((6 : Int32) &&& 0x3f).toInt64) ||| ((own_F16 (cs10.getD 6 0)).toInt64)) <<< ((6 : Int32) &&& 0x3f).toInt64) ||| ((own_F16 (cs10.getD 7 0)).toInt64)) <<< ((6 : Int32) &&& 0x3f).toInt64))])) t
    refine XS.iloadN X37.here hx rfl (hb hby d10_15) rfl ?_
    show Steps p.tables e below (T37.setTop (mkF m 16 #[.val (.ref a10_0), .val (.long (((((((((((((((((0 : Int64) <<< ((6 : Int32) &&& 0x3f).toInt64) ||| ((own_F16 (cs10.getD 0 0)).toInt64)) <<< ((6 : Int32) &&& 0x3f).toInt64) ||| ((own_F16 (cs10.getD 1 0)).toInt64)) <<< ((6 : Int32) &&& 0x3f).toInt64) ||| ((own_F16 (cs10.getD 2 0)).toInt64)) <<< ((6 : Int32) &&& 0x3f).toInt64) ||| ((own_F16 (cs10.getD 3 0)).toInt64)) <<< ((6 : Int32) &&& 0x3f).toInt64) ||| ((own_F16 (cs10.getD 4 0)).toInt64)) <<< ((6 : Int32) &&& 0x3f).toInt64) ||| ((own_F16 (cs10.getD 5 0)).toInt64)) <<< ((6 : Int32) &&& 0x3f).toInt64) ||| ((own_F16 (cs10.getD 6 0)).toInt64)) <<< ((6 : Int32) &&& 0x3f).toInt64) ||| ((own_F16 (cs10.getD 7 0)).toInt64))), .second, .val (.int (8 : Int32))] [(.int (8 : Int32)), (.ref a10_0), (.long ((((((((((((((((((0 : Int64) <<< ((6 : Int32) &&& 0x3f).toInt64) ||| ((own_F16 (cs10.getD 0 0)).toInt64)) <<< ((6 : Int32) &&& 0x3f).toInt64) ||| ((own_F16 (cs10.getD 1 0)).toInt64)) <<< ((6 : Int32) &&& 0x3f).toInt64) ||| ((own_F16 (cs10.getD 2 0)).toInt64)) <<< ((6 : Int32) &&& 0x3f).toInt64) ||| ((own_F16 (cs10.getD 3 0)).toInt64)) <<< ((6 : Int32) &&& 0x3f).toInt64) ||| ((own_F16 (cs10.getD 4 0)).toInt64)) <<< ((6 : Int32) &&& 0x3f).toInt64) ||| ((own_F16 (cs10.getD 5 0)).toInt64)) <<< ((6 : Int32) &&& 0x3f).toInt64) ||| ((own_F16 (cs10.getD 6 0)).toInt64)) <<< ((6 : Int32) &&& 0x3f).toInt64) ||| ((own_F16 (cs10.getD 7 0)).toInt64)) <<< ((6 : Int32) &&& 0x3f).toInt64))])) t
    exact k
  have hch39 : ∀ d ∈ StrChars.Road.wordsChN, d.before a0 Z = true := fun d hd => hw d ((by decide +kernel : ∀ d ∈ StrChars.Road.wordsChN, d ∈ tables_1) d hd)
  have hcd39 : StrChars.Road.CodA cs10 0 (22 : Int32) ((cs10.map (fun c => c.toInt8.toInt32)).map Value.int) := StrChars.Road.codOf (n := 22) HL10 (fun x hx => (HP10 x hx).2)
  obtain ⟨cq39, kq39, q39a, q39b, q39c⟩ := isOf hZ e37 E10
  obtain ⟨v39, _, ⟨T39, L39, k39, n39⟩, -, X39, ⟨Lc39, hQ39, l39, y39, z39⟩, st39⟩ := X37.virtualBack hx (y := (⟨"java/lang/String", "charAt", "(I)C"⟩ : MethodName)) (z := (⟨"java/lang/String", "charAt", "(I)C"⟩ : MethodName)) hown (mvT hZ (hw _ (List.mem_of_getElem? (i := 46) rfl))) (mvT hZ (hw _ (List.mem_of_getElem? (i := 47) rfl))) (notFace_of_selects (args := #[]) (mvT hZ (hw _ (List.mem_of_getElem? (i := 49) rfl)))) (mvT hZ (hw _ (List.mem_of_getElem? (i := 49) rfl))) (mvT hZ (hw _ (List.mem_of_getElem? (i := 48) rfl))) (by decide) (StrChars.Road.chN (W := 2) hZ hch39 (kI := 4) (hw _ (List.mem_of_getElem? (i := 14) rfl)) E10 V10 C10 K10 hcd39 (own_up _ HP10) (SC.ext O0.2) HCS (SFm.ext O0.2) HFm (by rw [HL10]; decide) (i := 8) (by rw [HL10]; decide) (j := (8 : Int32)) rfl (by decide) (by decide)) q39a q39c (g := (mkF m 16 #[.val (.ref a10_0), .val (.long (((((((((((((((((0 : Int64) <<< ((6 : Int32) &&& 0x3f).toInt64) ||| ((own_F16 (cs10.getD 0 0)).toInt64)) <<< ((6 : Int32) &&& 0x3f).toInt64) ||| ((own_F16 (cs10.getD 1 0)).toInt64)) <<< ((6 : Int32) &&& 0x3f).toInt64) ||| ((own_F16 (cs10.getD 2 0)).toInt64)) <<< ((6 : Int32) &&& 0x3f).toInt64) ||| ((own_F16 (cs10.getD 3 0)).toInt64)) <<< ((6 : Int32) &&& 0x3f).toInt64) ||| ((own_F16 (cs10.getD 4 0)).toInt64)) <<< ((6 : Int32) &&& 0x3f).toInt64) ||| ((own_F16 (cs10.getD 5 0)).toInt64)) <<< ((6 : Int32) &&& 0x3f).toInt64) ||| ((own_F16 (cs10.getD 6 0)).toInt64)) <<< ((6 : Int32) &&& 0x3f).toInt64) ||| ((own_F16 (cs10.getD 7 0)).toInt64))), .second, .val (.int (8 : Int32))] [(.int (8 : Int32)), (.ref a10_0), (.long ((((((((((((((((((0 : Int64) <<< ((6 : Int32) &&& 0x3f).toInt64) ||| ((own_F16 (cs10.getD 0 0)).toInt64)) <<< ((6 : Int32) &&& 0x3f).toInt64) ||| ((own_F16 (cs10.getD 1 0)).toInt64)) <<< ((6 : Int32) &&& 0x3f).toInt64) ||| ((own_F16 (cs10.getD 2 0)).toInt64)) <<< ((6 : Int32) &&& 0x3f).toInt64) ||| ((own_F16 (cs10.getD 3 0)).toInt64)) <<< ((6 : Int32) &&& 0x3f).toInt64) ||| ((own_F16 (cs10.getD 4 0)).toInt64)) <<< ((6 : Int32) &&& 0x3f).toInt64) ||| ((own_F16 (cs10.getD 5 0)).toInt64)) <<< ((6 : Int32) &&& 0x3f).toInt64) ||| ((own_F16 (cs10.getD 6 0)).toInt64)) <<< ((6 : Int32) &&& 0x3f).toInt64) ||| ((own_F16 (cs10.getD 7 0)).toInt64)) <<< ((6 : Int32) &&& 0x3f).toInt64))])) rfl (by rw [hml]; rfl) (Steps.refl _) (argsL := [(.int (8 : Int32))]) (rest := [(.long ((((((((((((((((((0 : Int64) <<< ((6 : Int32) &&& 0x3f).toInt64) ||| ((own_F16 (cs10.getD 0 0)).toInt64)) <<< ((6 : Int32) &&& 0x3f).toInt64) ||| ((own_F16 (cs10.getD 1 0)).toInt64)) <<< ((6 : Int32) &&& 0x3f).toInt64) ||| ((own_F16 (cs10.getD 2 0)).toInt64)) <<< ((6 : Int32) &&& 0x3f).toInt64) ||| ((own_F16 (cs10.getD 3 0)).toInt64)) <<< ((6 : Int32) &&& 0x3f).toInt64) ||| ((own_F16 (cs10.getD 4 0)).toInt64)) <<< ((6 : Int32) &&& 0x3f).toInt64) ||| ((own_F16 (cs10.getD 5 0)).toInt64)) <<< ((6 : Int32) &&& 0x3f).toInt64) ||| ((own_F16 (cs10.getD 6 0)).toInt64)) <<< ((6 : Int32) &&& 0x3f).toInt64) ||| ((own_F16 (cs10.getD 7 0)).toInt64)) <<< ((6 : Int32) &&& 0x3f).toInt64))]) (lenOf pd__I_C rfl) rfl (by show 2 * 0 + _ ≤ _; exact Nat.le_of_eq rfl) (hb hby d10_16) (fun _ _ => ⟨rfl, e37, (by decide : 0 + 0 ≤ _), (by decide : 0 + 0 ≤ _)⟩)
  dsimp only [Pt.U, Pt.locs, Pt.cells, Pt.slots] at X39 l39 y39 z39 st39 hQ39
  subst y39 z39
  obtain ⟨rfl, rfl, e39⟩ := hQ39
  have N40 : Fr n0 L39 := by rw [l39]; exact Fr.app N38 (Fr.nil n0)
  refine own_via (T' := T39) (g' := (mkF m 19 #[.val (.ref a10_0), .val (.long (((((((((((((((((0 : Int64) <<< ((6 : Int32) &&& 0x3f).toInt64) ||| ((own_F16 (cs10.getD 0 0)).toInt64)) <<< ((6 : Int32) &&& 0x3f).toInt64) ||| ((own_F16 (cs10.getD 1 0)).toInt64)) <<< ((6 : Int32) &&& 0x3f).toInt64) ||| ((own_F16 (cs10.getD 2 0)).toInt64)) <<< ((6 : Int32) &&& 0x3f).toInt64) ||| ((own_F16 (cs10.getD 3 0)).toInt64)) <<< ((6 : Int32) &&& 0x3f).toInt64) ||| ((own_F16 (cs10.getD 4 0)).toInt64)) <<< ((6 : Int32) &&& 0x3f).toInt64) ||| ((own_F16 (cs10.getD 5 0)).toInt64)) <<< ((6 : Int32) &&& 0x3f).toInt64) ||| ((own_F16 (cs10.getD 6 0)).toInt64)) <<< ((6 : Int32) &&& 0x3f).toInt64) ||| ((own_F16 (cs10.getD 7 0)).toInt64))), .second, .val (.int (8 : Int32))] [(.int (cs10.getD 8 0)), (.long ((((((((((((((((((0 : Int64) <<< ((6 : Int32) &&& 0x3f).toInt64) ||| ((own_F16 (cs10.getD 0 0)).toInt64)) <<< ((6 : Int32) &&& 0x3f).toInt64) ||| ((own_F16 (cs10.getD 1 0)).toInt64)) <<< ((6 : Int32) &&& 0x3f).toInt64) ||| ((own_F16 (cs10.getD 2 0)).toInt64)) <<< ((6 : Int32) &&& 0x3f).toInt64) ||| ((own_F16 (cs10.getD 3 0)).toInt64)) <<< ((6 : Int32) &&& 0x3f).toInt64) ||| ((own_F16 (cs10.getD 4 0)).toInt64)) <<< ((6 : Int32) &&& 0x3f).toInt64) ||| ((own_F16 (cs10.getD 5 0)).toInt64)) <<< ((6 : Int32) &&& 0x3f).toInt64) ||| ((own_F16 (cs10.getD 6 0)).toInt64)) <<< ((6 : Int32) &&& 0x3f).toInt64) ||| ((own_F16 (cs10.getD 7 0)).toInt64)) <<< ((6 : Int32) &&& 0x3f).toInt64))])) st39 ?_
  obtain ⟨v41, _, ⟨T41, L41, k41, n41⟩, -, X41, ⟨Lc41, hQ41, l41, y41, z41⟩, st41⟩ := Jvm.LawKit.callS X39 hx (y := (⟨"com/example/vacant_errand/vacanterrand/PackedId", "place", "(C)I"⟩ : MethodName)) hown (mvT hZ (hw _ (List.mem_of_getElem? (i := 68) rfl))) (mvT hZ (hw _ (List.mem_of_getElem? (i := 69) rfl))) (mvT hZ (hw _ (List.mem_of_getElem? (i := 44) rfl))) (mvT hZ (hw _ (List.mem_of_getElem? (i := 70) rfl))) (by decide) (backOf (W := 2) (own_rm16 l Z a0 hw [] (cs10.getD 8 0) wPL cPL h0 n0 Z0 O0 (HP10 _ (own_mem cs10 HL10 8 (by decide))).1 SPL TPL) hZ (hw _ (List.mem_of_getElem? (i := 70) rfl)) (hw _ (List.mem_of_getElem? (i := 44) rfl)) (by decide) (by decide)) (g := (mkF m 19 #[.val (.ref a10_0), .val (.long (((((((((((((((((0 : Int64) <<< ((6 : Int32) &&& 0x3f).toInt64) ||| ((own_F16 (cs10.getD 0 0)).toInt64)) <<< ((6 : Int32) &&& 0x3f).toInt64) ||| ((own_F16 (cs10.getD 1 0)).toInt64)) <<< ((6 : Int32) &&& 0x3f).toInt64) ||| ((own_F16 (cs10.getD 2 0)).toInt64)) <<< ((6 : Int32) &&& 0x3f).toInt64) ||| ((own_F16 (cs10.getD 3 0)).toInt64)) <<< ((6 : Int32) &&& 0x3f).toInt64) ||| ((own_F16 (cs10.getD 4 0)).toInt64)) <<< ((6 : Int32) &&& 0x3f).toInt64) ||| ((own_F16 (cs10.getD 5 0)).toInt64)) <<< ((6 : Int32) &&& 0x3f).toInt64) ||| ((own_F16 (cs10.getD 6 0)).toInt64)) <<< ((6 : Int32) &&& 0x3f).toInt64) ||| ((own_F16 (cs10.getD 7 0)).toInt64))), .second, .val (.int (8 : Int32))] [(.int (cs10.getD 8 0)), (.long ((((((((((((((((((0 : Int64) <<< ((6 : Int32) &&& 0x3f).toInt64) ||| ((own_F16 (cs10.getD 0 0)).toInt64)) <<< ((6 : Int32) &&& 0x3f).toInt64) ||| ((own_F16 (cs10.getD 1 0)).toInt64)) <<< ((6 : Int32) &&& 0x3f).toInt64) ||| ((own_F16 (cs10.getD 2 0)).toInt64)) <<< ((6 : Int32) &&& 0x3f).toInt64) ||| ((own_F16 (cs10.getD 3 0)).toInt64)) <<< ((6 : Int32) &&& 0x3f).toInt64) ||| ((own_F16 (cs10.getD 4 0)).toInt64)) <<< ((6 : Int32) &&& 0x3f).toInt64) ||| ((own_F16 (cs10.getD 5 0)).toInt64)) <<< ((6 : Int32) &&& 0x3f).toInt64) ||| ((own_F16 (cs10.getD 6 0)).toInt64)) <<< ((6 : Int32) &&& 0x3f).toInt64) ||| ((own_F16 (cs10.getD 7 0)).toInt64)) <<< ((6 : Int32) &&& 0x3f).toInt64))])) rfl (by rw [hml]; rfl) (argsL := [(.int (cs10.getD 8 0))]) (rest := [(.long ((((((((((((((((((0 : Int64) <<< ((6 : Int32) &&& 0x3f).toInt64) ||| ((own_F16 (cs10.getD 0 0)).toInt64)) <<< ((6 : Int32) &&& 0x3f).toInt64) ||| ((own_F16 (cs10.getD 1 0)).toInt64)) <<< ((6 : Int32) &&& 0x3f).toInt64) ||| ((own_F16 (cs10.getD 2 0)).toInt64)) <<< ((6 : Int32) &&& 0x3f).toInt64) ||| ((own_F16 (cs10.getD 3 0)).toInt64)) <<< ((6 : Int32) &&& 0x3f).toInt64) ||| ((own_F16 (cs10.getD 4 0)).toInt64)) <<< ((6 : Int32) &&& 0x3f).toInt64) ||| ((own_F16 (cs10.getD 5 0)).toInt64)) <<< ((6 : Int32) &&& 0x3f).toInt64) ||| ((own_F16 (cs10.getD 6 0)).toInt64)) <<< ((6 : Int32) &&& 0x3f).toInt64) ||| ((own_F16 (cs10.getD 7 0)).toInt64)) <<< ((6 : Int32) &&& 0x3f).toInt64))]) (lenOf pd__C_I rfl) rfl (by show 2 * 0 + _ ≤ _; exact Nat.le_of_eq rfl) (hb hby d10_19) (fun _ _ => ⟨rfl, e39, (by decide : 0 + 0 ≤ _), (by decide : 0 + 0 ≤ _)⟩)
  dsimp only [Pt.U, Pt.locs, Pt.cells, Pt.slots] at X41 l41 y41 z41 st41 hQ41
  subst y41 z41
  obtain ⟨rfl, M41, e41⟩ := hQ41
  have N42 : Fr n0 L41 := by rw [l41]; exact Fr.app N40 M41
  refine own_by (T' := T41) (g' := (mkF m 22 #[.val (.ref a10_0), .val (.long (((((((((((((((((0 : Int64) <<< ((6 : Int32) &&& 0x3f).toInt64) ||| ((own_F16 (cs10.getD 0 0)).toInt64)) <<< ((6 : Int32) &&& 0x3f).toInt64) ||| ((own_F16 (cs10.getD 1 0)).toInt64)) <<< ((6 : Int32) &&& 0x3f).toInt64) ||| ((own_F16 (cs10.getD 2 0)).toInt64)) <<< ((6 : Int32) &&& 0x3f).toInt64) ||| ((own_F16 (cs10.getD 3 0)).toInt64)) <<< ((6 : Int32) &&& 0x3f).toInt64) ||| ((own_F16 (cs10.getD 4 0)).toInt64)) <<< ((6 : Int32) &&& 0x3f).toInt64) ||| ((own_F16 (cs10.getD 5 0)).toInt64)) <<< ((6 : Int32) &&& 0x3f).toInt64) ||| ((own_F16 (cs10.getD 6 0)).toInt64)) <<< ((6 : Int32) &&& 0x3f).toInt64) ||| ((own_F16 (cs10.getD 7 0)).toInt64))), .second, .val (.int (8 : Int32))] [(.int (own_F16 (cs10.getD 8 0))), (.long ((((((((((((((((((0 : Int64) <<< ((6 : Int32) &&& 0x3f).toInt64) ||| ((own_F16 (cs10.getD 0 0)).toInt64)) <<< ((6 : Int32) &&& 0x3f).toInt64) ||| ((own_F16 (cs10.getD 1 0)).toInt64)) <<< ((6 : Int32) &&& 0x3f).toInt64) ||| ((own_F16 (cs10.getD 2 0)).toInt64)) <<< ((6 : Int32) &&& 0x3f).toInt64) ||| ((own_F16 (cs10.getD 3 0)).toInt64)) <<< ((6 : Int32) &&& 0x3f).toInt64) ||| ((own_F16 (cs10.getD 4 0)).toInt64)) <<< ((6 : Int32) &&& 0x3f).toInt64) ||| ((own_F16 (cs10.getD 5 0)).toInt64)) <<< ((6 : Int32) &&& 0x3f).toInt64) ||| ((own_F16 (cs10.getD 6 0)).toInt64)) <<< ((6 : Int32) &&& 0x3f).toInt64) ||| ((own_F16 (cs10.getD 7 0)).toInt64)) <<< ((6 : Int32) &&& 0x3f).toInt64))])) st41 ?_
  refine own_by (T' := T41) (g' := (mkF m 16 #[.val (.ref a10_0), .val (.long (((((((((((((((((((0 : Int64) <<< ((6 : Int32) &&& 0x3f).toInt64) ||| ((own_F16 (cs10.getD 0 0)).toInt64)) <<< ((6 : Int32) &&& 0x3f).toInt64) ||| ((own_F16 (cs10.getD 1 0)).toInt64)) <<< ((6 : Int32) &&& 0x3f).toInt64) ||| ((own_F16 (cs10.getD 2 0)).toInt64)) <<< ((6 : Int32) &&& 0x3f).toInt64) ||| ((own_F16 (cs10.getD 3 0)).toInt64)) <<< ((6 : Int32) &&& 0x3f).toInt64) ||| ((own_F16 (cs10.getD 4 0)).toInt64)) <<< ((6 : Int32) &&& 0x3f).toInt64) ||| ((own_F16 (cs10.getD 5 0)).toInt64)) <<< ((6 : Int32) &&& 0x3f).toInt64) ||| ((own_F16 (cs10.getD 6 0)).toInt64)) <<< ((6 : Int32) &&& 0x3f).toInt64) ||| ((own_F16 (cs10.getD 7 0)).toInt64)) <<< ((6 : Int32) &&& 0x3f).toInt64) ||| ((own_F16 (cs10.getD 8 0)).toInt64))), .second, .val (.int (9 : Int32))] [(.int (9 : Int32)), (.ref a10_0), (.long ((((((((((((((((((((0 : Int64) <<< ((6 : Int32) &&& 0x3f).toInt64) ||| ((own_F16 (cs10.getD 0 0)).toInt64)) <<< ((6 : Int32) &&& 0x3f).toInt64) ||| ((own_F16 (cs10.getD 1 0)).toInt64)) <<< ((6 : Int32) &&& 0x3f).toInt64) ||| ((own_F16 (cs10.getD 2 0)).toInt64)) <<< ((6 : Int32) &&& 0x3f).toInt64) ||| ((own_F16 (cs10.getD 3 0)).toInt64)) <<< ((6 : Int32) &&& 0x3f).toInt64) ||| ((own_F16 (cs10.getD 4 0)).toInt64)) <<< ((6 : Int32) &&& 0x3f).toInt64) ||| ((own_F16 (cs10.getD 5 0)).toInt64)) <<< ((6 : Int32) &&& 0x3f).toInt64) ||| ((own_F16 (cs10.getD 6 0)).toInt64)) <<< ((6 : Int32) &&& 0x3f).toInt64) ||| ((own_F16 (cs10.getD 7 0)).toInt64)) <<< ((6 : Int32) &&& 0x3f).toInt64) ||| ((own_F16 (cs10.getD 8 0)).toInt64)) <<< ((6 : Int32) &&& 0x3f).toInt64))])) (fun t k => ?_) ?_
  · show Steps p.tables e below (T41.setTop (mkF m 22 #[.val (.ref a10_0), .val (.long (((((((((((((((((0 : Int64) <<< ((6 : Int32) &&& 0x3f).toInt64) ||| ((own_F16 (cs10.getD 0 0)).toInt64)) <<< ((6 : Int32) &&& 0x3f).toInt64) ||| ((own_F16 (cs10.getD 1 0)).toInt64)) <<< ((6 : Int32) &&& 0x3f).toInt64) ||| ((own_F16 (cs10.getD 2 0)).toInt64)) <<< ((6 : Int32) &&& 0x3f).toInt64) ||| ((own_F16 (cs10.getD 3 0)).toInt64)) <<< ((6 : Int32) &&& 0x3f).toInt64) ||| ((own_F16 (cs10.getD 4 0)).toInt64)) <<< ((6 : Int32) &&& 0x3f).toInt64) ||| ((own_F16 (cs10.getD 5 0)).toInt64)) <<< ((6 : Int32) &&& 0x3f).toInt64) ||| ((own_F16 (cs10.getD 6 0)).toInt64)) <<< ((6 : Int32) &&& 0x3f).toInt64) ||| ((own_F16 (cs10.getD 7 0)).toInt64))), .second, .val (.int (8 : Int32))] [(.int (own_F16 (cs10.getD 8 0))), (.long ((((((((((((((((((0 : Int64) <<< ((6 : Int32) &&& 0x3f).toInt64) ||| ((own_F16 (cs10.getD 0 0)).toInt64)) <<< ((6 : Int32) &&& 0x3f).toInt64) ||| ((own_F16 (cs10.getD 1 0)).toInt64)) <<< ((6 : Int32) &&& 0x3f).toInt64) ||| ((own_F16 (cs10.getD 2 0)).toInt64)) <<< ((6 : Int32) &&& 0x3f).toInt64) ||| ((own_F16 (cs10.getD 3 0)).toInt64)) <<< ((6 : Int32) &&& 0x3f).toInt64) ||| ((own_F16 (cs10.getD 4 0)).toInt64)) <<< ((6 : Int32) &&& 0x3f).toInt64) ||| ((own_F16 (cs10.getD 5 0)).toInt64)) <<< ((6 : Int32) &&& 0x3f).toInt64) ||| ((own_F16 (cs10.getD 6 0)).toInt64)) <<< ((6 : Int32) &&& 0x3f).toInt64) ||| ((own_F16 (cs10.getD 7 0)).toInt64)) <<< ((6 : Int32) &&& 0x3f).toInt64))])) t
    refine XS.i2l X41.here hx rfl (hb hby d10_22) rfl ?_
    show Steps p.tables e below (T41.setTop (mkF m 23 #[.val (.ref a10_0), .val (.long (((((((((((((((((0 : Int64) <<< ((6 : Int32) &&& 0x3f).toInt64) ||| ((own_F16 (cs10.getD 0 0)).toInt64)) <<< ((6 : Int32) &&& 0x3f).toInt64) ||| ((own_F16 (cs10.getD 1 0)).toInt64)) <<< ((6 : Int32) &&& 0x3f).toInt64) ||| ((own_F16 (cs10.getD 2 0)).toInt64)) <<< ((6 : Int32) &&& 0x3f).toInt64) ||| ((own_F16 (cs10.getD 3 0)).toInt64)) <<< ((6 : Int32) &&& 0x3f).toInt64) ||| ((own_F16 (cs10.getD 4 0)).toInt64)) <<< ((6 : Int32) &&& 0x3f).toInt64) ||| ((own_F16 (cs10.getD 5 0)).toInt64)) <<< ((6 : Int32) &&& 0x3f).toInt64) ||| ((own_F16 (cs10.getD 6 0)).toInt64)) <<< ((6 : Int32) &&& 0x3f).toInt64) ||| ((own_F16 (cs10.getD 7 0)).toInt64))), .second, .val (.int (8 : Int32))] [(.long ((own_F16 (cs10.getD 8 0)).toInt64)), (.long ((((((((((((((((((0 : Int64) <<< ((6 : Int32) &&& 0x3f).toInt64) ||| ((own_F16 (cs10.getD 0 0)).toInt64)) <<< ((6 : Int32) &&& 0x3f).toInt64) ||| ((own_F16 (cs10.getD 1 0)).toInt64)) <<< ((6 : Int32) &&& 0x3f).toInt64) ||| ((own_F16 (cs10.getD 2 0)).toInt64)) <<< ((6 : Int32) &&& 0x3f).toInt64) ||| ((own_F16 (cs10.getD 3 0)).toInt64)) <<< ((6 : Int32) &&& 0x3f).toInt64) ||| ((own_F16 (cs10.getD 4 0)).toInt64)) <<< ((6 : Int32) &&& 0x3f).toInt64) ||| ((own_F16 (cs10.getD 5 0)).toInt64)) <<< ((6 : Int32) &&& 0x3f).toInt64) ||| ((own_F16 (cs10.getD 6 0)).toInt64)) <<< ((6 : Int32) &&& 0x3f).toInt64) ||| ((own_F16 (cs10.getD 7 0)).toInt64)) <<< ((6 : Int32) &&& 0x3f).toInt64))])) t
    refine XS.lor X41.here hx rfl (hb hby d10_23) rfl ?_
    show Steps p.tables e below (T41.setTop (mkF m 24 #[.val (.ref a10_0), .val (.long (((((((((((((((((0 : Int64) <<< ((6 : Int32) &&& 0x3f).toInt64) ||| ((own_F16 (cs10.getD 0 0)).toInt64)) <<< ((6 : Int32) &&& 0x3f).toInt64) ||| ((own_F16 (cs10.getD 1 0)).toInt64)) <<< ((6 : Int32) &&& 0x3f).toInt64) ||| ((own_F16 (cs10.getD 2 0)).toInt64)) <<< ((6 : Int32) &&& 0x3f).toInt64) ||| ((own_F16 (cs10.getD 3 0)).toInt64)) <<< ((6 : Int32) &&& 0x3f).toInt64) ||| ((own_F16 (cs10.getD 4 0)).toInt64)) <<< ((6 : Int32) &&& 0x3f).toInt64) ||| ((own_F16 (cs10.getD 5 0)).toInt64)) <<< ((6 : Int32) &&& 0x3f).toInt64) ||| ((own_F16 (cs10.getD 6 0)).toInt64)) <<< ((6 : Int32) &&& 0x3f).toInt64) ||| ((own_F16 (cs10.getD 7 0)).toInt64))), .second, .val (.int (8 : Int32))] [(.long (((((((((((((((((((0 : Int64) <<< ((6 : Int32) &&& 0x3f).toInt64) ||| ((own_F16 (cs10.getD 0 0)).toInt64)) <<< ((6 : Int32) &&& 0x3f).toInt64) ||| ((own_F16 (cs10.getD 1 0)).toInt64)) <<< ((6 : Int32) &&& 0x3f).toInt64) ||| ((own_F16 (cs10.getD 2 0)).toInt64)) <<< ((6 : Int32) &&& 0x3f).toInt64) ||| ((own_F16 (cs10.getD 3 0)).toInt64)) <<< ((6 : Int32) &&& 0x3f).toInt64) ||| ((own_F16 (cs10.getD 4 0)).toInt64)) <<< ((6 : Int32) &&& 0x3f).toInt64) ||| ((own_F16 (cs10.getD 5 0)).toInt64)) <<< ((6 : Int32) &&& 0x3f).toInt64) ||| ((own_F16 (cs10.getD 6 0)).toInt64)) <<< ((6 : Int32) &&& 0x3f).toInt64) ||| ((own_F16 (cs10.getD 7 0)).toInt64)) <<< ((6 : Int32) &&& 0x3f).toInt64) ||| ((own_F16 (cs10.getD 8 0)).toInt64)))])) t
    refine XS.lstoreN X41.here hx rfl (hb hby d10_24) rfl (l' := #[.val (.ref a10_0), .val (.long (((((((((((((((((((0 : Int64) <<< ((6 : Int32) &&& 0x3f).toInt64) ||| ((own_F16 (cs10.getD 0 0)).toInt64)) <<< ((6 : Int32) &&& 0x3f).toInt64) ||| ((own_F16 (cs10.getD 1 0)).toInt64)) <<< ((6 : Int32) &&& 0x3f).toInt64) ||| ((own_F16 (cs10.getD 2 0)).toInt64)) <<< ((6 : Int32) &&& 0x3f).toInt64) ||| ((own_F16 (cs10.getD 3 0)).toInt64)) <<< ((6 : Int32) &&& 0x3f).toInt64) ||| ((own_F16 (cs10.getD 4 0)).toInt64)) <<< ((6 : Int32) &&& 0x3f).toInt64) ||| ((own_F16 (cs10.getD 5 0)).toInt64)) <<< ((6 : Int32) &&& 0x3f).toInt64) ||| ((own_F16 (cs10.getD 6 0)).toInt64)) <<< ((6 : Int32) &&& 0x3f).toInt64) ||| ((own_F16 (cs10.getD 7 0)).toInt64)) <<< ((6 : Int32) &&& 0x3f).toInt64) ||| ((own_F16 (cs10.getD 8 0)).toInt64))), .second, .val (.int (8 : Int32))]) rfl ?_
    show Steps p.tables e below (T41.setTop (mkF m 25 #[.val (.ref a10_0), .val (.long (((((((((((((((((((0 : Int64) <<< ((6 : Int32) &&& 0x3f).toInt64) ||| ((own_F16 (cs10.getD 0 0)).toInt64)) <<< ((6 : Int32) &&& 0x3f).toInt64) ||| ((own_F16 (cs10.getD 1 0)).toInt64)) <<< ((6 : Int32) &&& 0x3f).toInt64) ||| ((own_F16 (cs10.getD 2 0)).toInt64)) <<< ((6 : Int32) &&& 0x3f).toInt64) ||| ((own_F16 (cs10.getD 3 0)).toInt64)) <<< ((6 : Int32) &&& 0x3f).toInt64) ||| ((own_F16 (cs10.getD 4 0)).toInt64)) <<< ((6 : Int32) &&& 0x3f).toInt64) ||| ((own_F16 (cs10.getD 5 0)).toInt64)) <<< ((6 : Int32) &&& 0x3f).toInt64) ||| ((own_F16 (cs10.getD 6 0)).toInt64)) <<< ((6 : Int32) &&& 0x3f).toInt64) ||| ((own_F16 (cs10.getD 7 0)).toInt64)) <<< ((6 : Int32) &&& 0x3f).toInt64) ||| ((own_F16 (cs10.getD 8 0)).toInt64))), .second, .val (.int (8 : Int32))] [])) t
    refine XS.iinc X41.here hx rfl (hb hby d10_25) rfl (l' := #[.val (.ref a10_0), .val (.long (((((((((((((((((((0 : Int64) <<< ((6 : Int32) &&& 0x3f).toInt64) ||| ((own_F16 (cs10.getD 0 0)).toInt64)) <<< ((6 : Int32) &&& 0x3f).toInt64) ||| ((own_F16 (cs10.getD 1 0)).toInt64)) <<< ((6 : Int32) &&& 0x3f).toInt64) ||| ((own_F16 (cs10.getD 2 0)).toInt64)) <<< ((6 : Int32) &&& 0x3f).toInt64) ||| ((own_F16 (cs10.getD 3 0)).toInt64)) <<< ((6 : Int32) &&& 0x3f).toInt64) ||| ((own_F16 (cs10.getD 4 0)).toInt64)) <<< ((6 : Int32) &&& 0x3f).toInt64) ||| ((own_F16 (cs10.getD 5 0)).toInt64)) <<< ((6 : Int32) &&& 0x3f).toInt64) ||| ((own_F16 (cs10.getD 6 0)).toInt64)) <<< ((6 : Int32) &&& 0x3f).toInt64) ||| ((own_F16 (cs10.getD 7 0)).toInt64)) <<< ((6 : Int32) &&& 0x3f).toInt64) ||| ((own_F16 (cs10.getD 8 0)).toInt64))), .second, .val (.int (9 : Int32))]) rfl ?_
    show Steps p.tables e below (T41.setTop (mkF m 28 #[.val (.ref a10_0), .val (.long (((((((((((((((((((0 : Int64) <<< ((6 : Int32) &&& 0x3f).toInt64) ||| ((own_F16 (cs10.getD 0 0)).toInt64)) <<< ((6 : Int32) &&& 0x3f).toInt64) ||| ((own_F16 (cs10.getD 1 0)).toInt64)) <<< ((6 : Int32) &&& 0x3f).toInt64) ||| ((own_F16 (cs10.getD 2 0)).toInt64)) <<< ((6 : Int32) &&& 0x3f).toInt64) ||| ((own_F16 (cs10.getD 3 0)).toInt64)) <<< ((6 : Int32) &&& 0x3f).toInt64) ||| ((own_F16 (cs10.getD 4 0)).toInt64)) <<< ((6 : Int32) &&& 0x3f).toInt64) ||| ((own_F16 (cs10.getD 5 0)).toInt64)) <<< ((6 : Int32) &&& 0x3f).toInt64) ||| ((own_F16 (cs10.getD 6 0)).toInt64)) <<< ((6 : Int32) &&& 0x3f).toInt64) ||| ((own_F16 (cs10.getD 7 0)).toInt64)) <<< ((6 : Int32) &&& 0x3f).toInt64) ||| ((own_F16 (cs10.getD 8 0)).toInt64))), .second, .val (.int (9 : Int32))] [])) t
    refine XS.goto X41.here hx rfl (pc0 := 28) (pc' := 4) rfl (hb hby d10_28) (by decide) (by decide) ?_
    show Steps p.tables e below (T41.setTop (mkF m 4 #[.val (.ref a10_0), .val (.long (((((((((((((((((((0 : Int64) <<< ((6 : Int32) &&& 0x3f).toInt64) ||| ((own_F16 (cs10.getD 0 0)).toInt64)) <<< ((6 : Int32) &&& 0x3f).toInt64) ||| ((own_F16 (cs10.getD 1 0)).toInt64)) <<< ((6 : Int32) &&& 0x3f).toInt64) ||| ((own_F16 (cs10.getD 2 0)).toInt64)) <<< ((6 : Int32) &&& 0x3f).toInt64) ||| ((own_F16 (cs10.getD 3 0)).toInt64)) <<< ((6 : Int32) &&& 0x3f).toInt64) ||| ((own_F16 (cs10.getD 4 0)).toInt64)) <<< ((6 : Int32) &&& 0x3f).toInt64) ||| ((own_F16 (cs10.getD 5 0)).toInt64)) <<< ((6 : Int32) &&& 0x3f).toInt64) ||| ((own_F16 (cs10.getD 6 0)).toInt64)) <<< ((6 : Int32) &&& 0x3f).toInt64) ||| ((own_F16 (cs10.getD 7 0)).toInt64)) <<< ((6 : Int32) &&& 0x3f).toInt64) ||| ((own_F16 (cs10.getD 8 0)).toInt64))), .second, .val (.int (9 : Int32))] [])) t
    refine XS.iloadN X41.here hx rfl (hb hby d10_4) rfl ?_
    show Steps p.tables e below (T41.setTop (mkF m 5 #[.val (.ref a10_0), .val (.long (((((((((((((((((((0 : Int64) <<< ((6 : Int32) &&& 0x3f).toInt64) ||| ((own_F16 (cs10.getD 0 0)).toInt64)) <<< ((6 : Int32) &&& 0x3f).toInt64) ||| ((own_F16 (cs10.getD 1 0)).toInt64)) <<< ((6 : Int32) &&& 0x3f).toInt64) ||| ((own_F16 (cs10.getD 2 0)).toInt64)) <<< ((6 : Int32) &&& 0x3f).toInt64) ||| ((own_F16 (cs10.getD 3 0)).toInt64)) <<< ((6 : Int32) &&& 0x3f).toInt64) ||| ((own_F16 (cs10.getD 4 0)).toInt64)) <<< ((6 : Int32) &&& 0x3f).toInt64) ||| ((own_F16 (cs10.getD 5 0)).toInt64)) <<< ((6 : Int32) &&& 0x3f).toInt64) ||| ((own_F16 (cs10.getD 6 0)).toInt64)) <<< ((6 : Int32) &&& 0x3f).toInt64) ||| ((own_F16 (cs10.getD 7 0)).toInt64)) <<< ((6 : Int32) &&& 0x3f).toInt64) ||| ((own_F16 (cs10.getD 8 0)).toInt64))), .second, .val (.int (9 : Int32))] [(.int (9 : Int32))])) t
    refine XS.bipush X41.here hx rfl (hb hby d10_5) ?_
    show Steps p.tables e below (T41.setTop (mkF m 7 #[.val (.ref a10_0), .val (.long (((((((((((((((((((0 : Int64) <<< ((6 : Int32) &&& 0x3f).toInt64) ||| ((own_F16 (cs10.getD 0 0)).toInt64)) <<< ((6 : Int32) &&& 0x3f).toInt64) ||| ((own_F16 (cs10.getD 1 0)).toInt64)) <<< ((6 : Int32) &&& 0x3f).toInt64) ||| ((own_F16 (cs10.getD 2 0)).toInt64)) <<< ((6 : Int32) &&& 0x3f).toInt64) ||| ((own_F16 (cs10.getD 3 0)).toInt64)) <<< ((6 : Int32) &&& 0x3f).toInt64) ||| ((own_F16 (cs10.getD 4 0)).toInt64)) <<< ((6 : Int32) &&& 0x3f).toInt64) ||| ((own_F16 (cs10.getD 5 0)).toInt64)) <<< ((6 : Int32) &&& 0x3f).toInt64) ||| ((own_F16 (cs10.getD 6 0)).toInt64)) <<< ((6 : Int32) &&& 0x3f).toInt64) ||| ((own_F16 (cs10.getD 7 0)).toInt64)) <<< ((6 : Int32) &&& 0x3f).toInt64) ||| ((own_F16 (cs10.getD 8 0)).toInt64))), .second, .val (.int (9 : Int32))] [(.int (10 : Int32)), (.int (9 : Int32))])) t
    refine XS.icmpNo X41.here hx rfl (hb hby d10_7) rfl (tlt (by decide : (9 : Int32) < (10 : Int32))).2.1 ?_
    show Steps p.tables e below (T41.setTop (mkF m 10 #[.val (.ref a10_0), .val (.long (((((((((((((((((((0 : Int64) <<< ((6 : Int32) &&& 0x3f).toInt64) ||| ((own_F16 (cs10.getD 0 0)).toInt64)) <<< ((6 : Int32) &&& 0x3f).toInt64) ||| ((own_F16 (cs10.getD 1 0)).toInt64)) <<< ((6 : Int32) &&& 0x3f).toInt64) ||| ((own_F16 (cs10.getD 2 0)).toInt64)) <<< ((6 : Int32) &&& 0x3f).toInt64) ||| ((own_F16 (cs10.getD 3 0)).toInt64)) <<< ((6 : Int32) &&& 0x3f).toInt64) ||| ((own_F16 (cs10.getD 4 0)).toInt64)) <<< ((6 : Int32) &&& 0x3f).toInt64) ||| ((own_F16 (cs10.getD 5 0)).toInt64)) <<< ((6 : Int32) &&& 0x3f).toInt64) ||| ((own_F16 (cs10.getD 6 0)).toInt64)) <<< ((6 : Int32) &&& 0x3f).toInt64) ||| ((own_F16 (cs10.getD 7 0)).toInt64)) <<< ((6 : Int32) &&& 0x3f).toInt64) ||| ((own_F16 (cs10.getD 8 0)).toInt64))), .second, .val (.int (9 : Int32))] [])) t
    refine XS.lloadN X41.here hx rfl (hb hby d10_10) rfl ?_
    show Steps p.tables e below (T41.setTop (mkF m 11 #[.val (.ref a10_0), .val (.long (((((((((((((((((((0 : Int64) <<< ((6 : Int32) &&& 0x3f).toInt64) ||| ((own_F16 (cs10.getD 0 0)).toInt64)) <<< ((6 : Int32) &&& 0x3f).toInt64) ||| ((own_F16 (cs10.getD 1 0)).toInt64)) <<< ((6 : Int32) &&& 0x3f).toInt64) ||| ((own_F16 (cs10.getD 2 0)).toInt64)) <<< ((6 : Int32) &&& 0x3f).toInt64) ||| ((own_F16 (cs10.getD 3 0)).toInt64)) <<< ((6 : Int32) &&& 0x3f).toInt64) ||| ((own_F16 (cs10.getD 4 0)).toInt64)) <<< ((6 : Int32) &&& 0x3f).toInt64) ||| ((own_F16 (cs10.getD 5 0)).toInt64)) <<< ((6 : Int32) &&& 0x3f).toInt64) ||| ((own_F16 (cs10.getD 6 0)).toInt64)) <<< ((6 : Int32) &&& 0x3f).toInt64) ||| ((own_F16 (cs10.getD 7 0)).toInt64)) <<< ((6 : Int32) &&& 0x3f).toInt64) ||| ((own_F16 (cs10.getD 8 0)).toInt64))), .second, .val (.int (9 : Int32))] [(.long (((((((((((((((((((0 : Int64) <<< ((6 : Int32) &&& 0x3f).toInt64) ||| ((own_F16 (cs10.getD 0 0)).toInt64)) <<< ((6 : Int32) &&& 0x3f).toInt64) ||| ((own_F16 (cs10.getD 1 0)).toInt64)) <<< ((6 : Int32) &&& 0x3f).toInt64) ||| ((own_F16 (cs10.getD 2 0)).toInt64)) <<< ((6 : Int32) &&& 0x3f).toInt64) ||| ((own_F16 (cs10.getD 3 0)).toInt64)) <<< ((6 : Int32) &&& 0x3f).toInt64) ||| ((own_F16 (cs10.getD 4 0)).toInt64)) <<< ((6 : Int32) &&& 0x3f).toInt64) ||| ((own_F16 (cs10.getD 5 0)).toInt64)) <<< ((6 : Int32) &&& 0x3f).toInt64) ||| ((own_F16 (cs10.getD 6 0)).toInt64)) <<< ((6 : Int32) &&& 0x3f).toInt64) ||| ((own_F16 (cs10.getD 7 0)).toInt64)) <<< ((6 : Int32) &&& 0x3f).toInt64) ||| ((own_F16 (cs10.getD 8 0)).toInt64)))])) t
    refine XS.bipush X41.here hx rfl (hb hby d10_11) ?_
    show Steps p.tables e below (T41.setTop (mkF m 13 #[.val (.ref a10_0), .val (.long (((((((((((((((((((0 : Int64) <<< ((6 : Int32) &&& 0x3f).toInt64) ||| ((own_F16 (cs10.getD 0 0)).toInt64)) <<< ((6 : Int32) &&& 0x3f).toInt64) ||| ((own_F16 (cs10.getD 1 0)).toInt64)) <<< ((6 : Int32) &&& 0x3f).toInt64) ||| ((own_F16 (cs10.getD 2 0)).toInt64)) <<< ((6 : Int32) &&& 0x3f).toInt64) ||| ((own_F16 (cs10.getD 3 0)).toInt64)) <<< ((6 : Int32) &&& 0x3f).toInt64) ||| ((own_F16 (cs10.getD 4 0)).toInt64)) <<< ((6 : Int32) &&& 0x3f).toInt64) ||| ((own_F16 (cs10.getD 5 0)).toInt64)) <<< ((6 : Int32) &&& 0x3f).toInt64) ||| ((own_F16 (cs10.getD 6 0)).toInt64)) <<< ((6 : Int32) &&& 0x3f).toInt64) ||| ((own_F16 (cs10.getD 7 0)).toInt64)) <<< ((6 : Int32) &&& 0x3f).toInt64) ||| ((own_F16 (cs10.getD 8 0)).toInt64))), .second, .val (.int (9 : Int32))] [(.int (6 : Int32)), (.long (((((((((((((((((((0 : Int64) <<< ((6 : Int32) &&& 0x3f).toInt64) ||| ((own_F16 (cs10.getD 0 0)).toInt64)) <<< ((6 : Int32) &&& 0x3f).toInt64) ||| ((own_F16 (cs10.getD 1 0)).toInt64)) <<< ((6 : Int32) &&& 0x3f).toInt64) ||| ((own_F16 (cs10.getD 2 0)).toInt64)) <<< ((6 : Int32) &&& 0x3f).toInt64) ||| ((own_F16 (cs10.getD 3 0)).toInt64)) <<< ((6 : Int32) &&& 0x3f).toInt64) ||| ((own_F16 (cs10.getD 4 0)).toInt64)) <<< ((6 : Int32) &&& 0x3f).toInt64) ||| ((own_F16 (cs10.getD 5 0)).toInt64)) <<< ((6 : Int32) &&& 0x3f).toInt64) ||| ((own_F16 (cs10.getD 6 0)).toInt64)) <<< ((6 : Int32) &&& 0x3f).toInt64) ||| ((own_F16 (cs10.getD 7 0)).toInt64)) <<< ((6 : Int32) &&& 0x3f).toInt64) ||| ((own_F16 (cs10.getD 8 0)).toInt64)))])) t
    refine XS.lshl X41.here hx rfl (hb hby d10_13) rfl ?_
    show Steps p.tables e below (T41.setTop (mkF m 14 #[.val (.ref a10_0), .val (.long (((((((((((((((((((0 : Int64) <<< ((6 : Int32) &&& 0x3f).toInt64) ||| ((own_F16 (cs10.getD 0 0)).toInt64)) <<< ((6 : Int32) &&& 0x3f).toInt64) ||| ((own_F16 (cs10.getD 1 0)).toInt64)) <<< ((6 : Int32) &&& 0x3f).toInt64) ||| ((own_F16 (cs10.getD 2 0)).toInt64)) <<< ((6 : Int32) &&& 0x3f).toInt64) ||| ((own_F16 (cs10.getD 3 0)).toInt64)) <<< ((6 : Int32) &&& 0x3f).toInt64) ||| ((own_F16 (cs10.getD 4 0)).toInt64)) <<< ((6 : Int32) &&& 0x3f).toInt64) ||| ((own_F16 (cs10.getD 5 0)).toInt64)) <<< ((6 : Int32) &&& 0x3f).toInt64) ||| ((own_F16 (cs10.getD 6 0)).toInt64)) <<< ((6 : Int32) &&& 0x3f).toInt64) ||| ((own_F16 (cs10.getD 7 0)).toInt64)) <<< ((6 : Int32) &&& 0x3f).toInt64) ||| ((own_F16 (cs10.getD 8 0)).toInt64))), .second, .val (.int (9 : Int32))] [(.long ((((((((((((((((((((0 : Int64) <<< ((6 : Int32) &&& 0x3f).toInt64) ||| ((own_F16 (cs10.getD 0 0)).toInt64)) <<< ((6 : Int32) &&& 0x3f).toInt64) ||| ((own_F16 (cs10.getD 1 0)).toInt64)) <<< ((6 : Int32) &&& 0x3f).toInt64) ||| ((own_F16 (cs10.getD 2 0)).toInt64)) <<< ((6 : Int32) &&& 0x3f).toInt64) ||| ((own_F16 (cs10.getD 3 0)).toInt64)) <<< ((6 : Int32) &&& 0x3f).toInt64) ||| ((own_F16 (cs10.getD 4 0)).toInt64)) <<< ((6 : Int32) &&& 0x3f).toInt64) ||| ((own_F16 (cs10.getD 5 0)).toInt64)) <<< ((6 : Int32) &&& 0x3f).toInt64) ||| ((own_F16 (cs10.getD 6 0)).toInt64)) <<< ((6 : Int32) &&& 0x3f).toInt64) ||| ((own_F16 (cs10.getD 7 0)).toInt64)) <<< ((6 : Int32) &&& 0x3f).toInt64) ||| ((own_F16 (cs10.getD 8 0)).toInt64)) <<< ((6 : Int32) &&& 0x3f).toInt64))])) t
    refine XS.aloadN X41.here hx rfl (hb hby d10_14) rfl rfl ?_
    show Steps p.tables e below (T41.setTop (mkF m 15 #[.val (.ref a10_0), .val (.long (((((((((((((((((((0 : Int64) <<< ((6 : Int32) &&& 0x3f).toInt64) ||| ((own_F16 (cs10.getD 0 0)).toInt64)) <<< ((6 : Int32) &&& 0x3f).toInt64) ||| ((own_F16 (cs10.getD 1 0)).toInt64)) <<< ((6 : Int32) &&& 0x3f).toInt64) ||| ((own_F16 (cs10.getD 2 0)).toInt64)) <<< ((6 : Int32) &&& 0x3f).toInt64) ||| ((own_F16 (cs10.getD 3 0)).toInt64)) <<< ((6 : Int32) &&& 0x3f).toInt64) ||| ((own_F16 (cs10.getD 4 0)).toInt64)) <<< ((6 : Int32) &&& 0x3f).toInt64) ||| ((own_F16 (cs10.getD 5 0)).toInt64)) <<< ((6 : Int32) &&& 0x3f).toInt64) ||| ((own_F16 (cs10.getD 6 0)).toInt64)) <<< ((6 : Int32) &&& 0x3f).toInt64) ||| ((own_F16 (cs10.getD 7 0)).toInt64)) <<< ((6 : Int32) &&& 0x3f).toInt64) ||| ((own_F16 (cs10.getD 8 0)).toInt64))), .second, .val (.int (9 : Int32))] [(.ref a10_0), (.long ((((((((((((((((((((0 : Int64) <<< ((6 : Int32) &&& 0x3f).toInt64) ||| ((own_F16 (cs10.getD 0 0)).toInt64)) <<< ((6 : Int32) &&& 0x3f).toInt64) ||| ((own_F16 (cs10.getD 1 0)).toInt64)) <<< ((6 : Int32) &&& 0x3f).toInt64) ||| ((own_F16 (cs10.getD 2 0)).toInt64)) <<< ((6 : Int32) &&& 0x3f).toInt64) ||| ((own_F16 (cs10.getD 3 0)).toInt64)) <<< ((6 : Int32) &&& 0x3f).toInt64) ||| ((own_F16 (cs10.getD 4 0)).toInt64)) <<< ((6 : Int32) &&& 0x3f).toInt64) ||| ((own_F16 (cs10.getD 5 0)).toInt64)) <<< ((6 : Int32) &&& 0x3f).toInt64) ||| ((own_F16 (cs10.getD 6 0)).toInt64)) <<< ((6 : Int32) &&& 0x3f).toInt64) ||| ((own_F16 (cs10.getD 7 0)).toInt64)) <<< ((6 : Int32) &&& 0x3f).toInt64) ||| ((own_F16 (cs10.getD 8 0)).toInt64)) <<< ((6 : Int32) &&& 0x3f).toInt64))])) t
    refine XS.iloadN X41.here hx rfl (hb hby d10_15) rfl ?_
    show Steps p.tables e below (T41.setTop (mkF m 16 #[.val (.ref a10_0), .val (.long (((((((((((((((((((0 : Int64) <<< ((6 : Int32) &&& 0x3f).toInt64) ||| ((own_F16 (cs10.getD 0 0)).toInt64)) <<< ((6 : Int32) &&& 0x3f).toInt64) ||| ((own_F16 (cs10.getD 1 0)).toInt64)) <<< ((6 : Int32) &&& 0x3f).toInt64) ||| ((own_F16 (cs10.getD 2 0)).toInt64)) <<< ((6 : Int32) &&& 0x3f).toInt64) ||| ((own_F16 (cs10.getD 3 0)).toInt64)) <<< ((6 : Int32) &&& 0x3f).toInt64) ||| ((own_F16 (cs10.getD 4 0)).toInt64)) <<< ((6 : Int32) &&& 0x3f).toInt64) ||| ((own_F16 (cs10.getD 5 0)).toInt64)) <<< ((6 : Int32) &&& 0x3f).toInt64) ||| ((own_F16 (cs10.getD 6 0)).toInt64)) <<< ((6 : Int32) &&& 0x3f).toInt64) ||| ((own_F16 (cs10.getD 7 0)).toInt64)) <<< ((6 : Int32) &&& 0x3f).toInt64) ||| ((own_F16 (cs10.getD 8 0)).toInt64))), .second, .val (.int (9 : Int32))] [(.int (9 : Int32)), (.ref a10_0), (.long ((((((((((((((((((((0 : Int64) <<< ((6 : Int32) &&& 0x3f).toInt64) ||| ((own_F16 (cs10.getD 0 0)).toInt64)) <<< ((6 : Int32) &&& 0x3f).toInt64) ||| ((own_F16 (cs10.getD 1 0)).toInt64)) <<< ((6 : Int32) &&& 0x3f).toInt64) ||| ((own_F16 (cs10.getD 2 0)).toInt64)) <<< ((6 : Int32) &&& 0x3f).toInt64) ||| ((own_F16 (cs10.getD 3 0)).toInt64)) <<< ((6 : Int32) &&& 0x3f).toInt64) ||| ((own_F16 (cs10.getD 4 0)).toInt64)) <<< ((6 : Int32) &&& 0x3f).toInt64) ||| ((own_F16 (cs10.getD 5 0)).toInt64)) <<< ((6 : Int32) &&& 0x3f).toInt64) ||| ((own_F16 (cs10.getD 6 0)).toInt64)) <<< ((6 : Int32) &&& 0x3f).toInt64) ||| ((own_F16 (cs10.getD 7 0)).toInt64)) <<< ((6 : Int32) &&& 0x3f).toInt64) ||| ((own_F16 (cs10.getD 8 0)).toInt64)) <<< ((6 : Int32) &&& 0x3f).toInt64))])) t
    exact k
  have hch43 : ∀ d ∈ StrChars.Road.wordsChN, d.before a0 Z = true := fun d hd => hw d ((by decide +kernel : ∀ d ∈ StrChars.Road.wordsChN, d ∈ tables_1) d hd)
  have hcd43 : StrChars.Road.CodA cs10 0 (22 : Int32) ((cs10.map (fun c => c.toInt8.toInt32)).map Value.int) := StrChars.Road.codOf (n := 22) HL10 (fun x hx => (HP10 x hx).2)
  obtain ⟨cq43, kq43, q43a, q43b, q43c⟩ := isOf hZ e41 E10
  obtain ⟨v43, _, ⟨T43, L43, k43, n43⟩, -, X43, ⟨Lc43, hQ43, l43, y43, z43⟩, st43⟩ := X41.virtualBack hx (y := (⟨"java/lang/String", "charAt", "(I)C"⟩ : MethodName)) (z := (⟨"java/lang/String", "charAt", "(I)C"⟩ : MethodName)) hown (mvT hZ (hw _ (List.mem_of_getElem? (i := 46) rfl))) (mvT hZ (hw _ (List.mem_of_getElem? (i := 47) rfl))) (notFace_of_selects (args := #[]) (mvT hZ (hw _ (List.mem_of_getElem? (i := 49) rfl)))) (mvT hZ (hw _ (List.mem_of_getElem? (i := 49) rfl))) (mvT hZ (hw _ (List.mem_of_getElem? (i := 48) rfl))) (by decide) (StrChars.Road.chN (W := 2) hZ hch43 (kI := 4) (hw _ (List.mem_of_getElem? (i := 14) rfl)) E10 V10 C10 K10 hcd43 (own_up _ HP10) (SC.ext O0.2) HCS (SFm.ext O0.2) HFm (by rw [HL10]; decide) (i := 9) (by rw [HL10]; decide) (j := (9 : Int32)) rfl (by decide) (by decide)) q43a q43c (g := (mkF m 16 #[.val (.ref a10_0), .val (.long (((((((((((((((((((0 : Int64) <<< ((6 : Int32) &&& 0x3f).toInt64) ||| ((own_F16 (cs10.getD 0 0)).toInt64)) <<< ((6 : Int32) &&& 0x3f).toInt64) ||| ((own_F16 (cs10.getD 1 0)).toInt64)) <<< ((6 : Int32) &&& 0x3f).toInt64) ||| ((own_F16 (cs10.getD 2 0)).toInt64)) <<< ((6 : Int32) &&& 0x3f).toInt64) ||| ((own_F16 (cs10.getD 3 0)).toInt64)) <<< ((6 : Int32) &&& 0x3f).toInt64) ||| ((own_F16 (cs10.getD 4 0)).toInt64)) <<< ((6 : Int32) &&& 0x3f).toInt64) ||| ((own_F16 (cs10.getD 5 0)).toInt64)) <<< ((6 : Int32) &&& 0x3f).toInt64) ||| ((own_F16 (cs10.getD 6 0)).toInt64)) <<< ((6 : Int32) &&& 0x3f).toInt64) ||| ((own_F16 (cs10.getD 7 0)).toInt64)) <<< ((6 : Int32) &&& 0x3f).toInt64) ||| ((own_F16 (cs10.getD 8 0)).toInt64))), .second, .val (.int (9 : Int32))] [(.int (9 : Int32)), (.ref a10_0), (.long ((((((((((((((((((((0 : Int64) <<< ((6 : Int32) &&& 0x3f).toInt64) ||| ((own_F16 (cs10.getD 0 0)).toInt64)) <<< ((6 : Int32) &&& 0x3f).toInt64) ||| ((own_F16 (cs10.getD 1 0)).toInt64)) <<< ((6 : Int32) &&& 0x3f).toInt64) ||| ((own_F16 (cs10.getD 2 0)).toInt64)) <<< ((6 : Int32) &&& 0x3f).toInt64) ||| ((own_F16 (cs10.getD 3 0)).toInt64)) <<< ((6 : Int32) &&& 0x3f).toInt64) ||| ((own_F16 (cs10.getD 4 0)).toInt64)) <<< ((6 : Int32) &&& 0x3f).toInt64) ||| ((own_F16 (cs10.getD 5 0)).toInt64)) <<< ((6 : Int32) &&& 0x3f).toInt64) ||| ((own_F16 (cs10.getD 6 0)).toInt64)) <<< ((6 : Int32) &&& 0x3f).toInt64) ||| ((own_F16 (cs10.getD 7 0)).toInt64)) <<< ((6 : Int32) &&& 0x3f).toInt64) ||| ((own_F16 (cs10.getD 8 0)).toInt64)) <<< ((6 : Int32) &&& 0x3f).toInt64))])) rfl (by rw [hml]; rfl) (Steps.refl _) (argsL := [(.int (9 : Int32))]) (rest := [(.long ((((((((((((((((((((0 : Int64) <<< ((6 : Int32) &&& 0x3f).toInt64) ||| ((own_F16 (cs10.getD 0 0)).toInt64)) <<< ((6 : Int32) &&& 0x3f).toInt64) ||| ((own_F16 (cs10.getD 1 0)).toInt64)) <<< ((6 : Int32) &&& 0x3f).toInt64) ||| ((own_F16 (cs10.getD 2 0)).toInt64)) <<< ((6 : Int32) &&& 0x3f).toInt64) ||| ((own_F16 (cs10.getD 3 0)).toInt64)) <<< ((6 : Int32) &&& 0x3f).toInt64) ||| ((own_F16 (cs10.getD 4 0)).toInt64)) <<< ((6 : Int32) &&& 0x3f).toInt64) ||| ((own_F16 (cs10.getD 5 0)).toInt64)) <<< ((6 : Int32) &&& 0x3f).toInt64) ||| ((own_F16 (cs10.getD 6 0)).toInt64)) <<< ((6 : Int32) &&& 0x3f).toInt64) ||| ((own_F16 (cs10.getD 7 0)).toInt64)) <<< ((6 : Int32) &&& 0x3f).toInt64) ||| ((own_F16 (cs10.getD 8 0)).toInt64)) <<< ((6 : Int32) &&& 0x3f).toInt64))]) (lenOf pd__I_C rfl) rfl (by show 2 * 0 + _ ≤ _; exact Nat.le_of_eq rfl) (hb hby d10_16) (fun _ _ => ⟨rfl, e41, (by decide : 0 + 0 ≤ _), (by decide : 0 + 0 ≤ _)⟩)
  dsimp only [Pt.U, Pt.locs, Pt.cells, Pt.slots] at X43 l43 y43 z43 st43 hQ43
  subst y43 z43
  obtain ⟨rfl, rfl, e43⟩ := hQ43
  have N44 : Fr n0 L43 := by rw [l43]; exact Fr.app N42 (Fr.nil n0)
  refine own_via (T' := T43) (g' := (mkF m 19 #[.val (.ref a10_0), .val (.long (((((((((((((((((((0 : Int64) <<< ((6 : Int32) &&& 0x3f).toInt64) ||| ((own_F16 (cs10.getD 0 0)).toInt64)) <<< ((6 : Int32) &&& 0x3f).toInt64) ||| ((own_F16 (cs10.getD 1 0)).toInt64)) <<< ((6 : Int32) &&& 0x3f).toInt64) ||| ((own_F16 (cs10.getD 2 0)).toInt64)) <<< ((6 : Int32) &&& 0x3f).toInt64) ||| ((own_F16 (cs10.getD 3 0)).toInt64)) <<< ((6 : Int32) &&& 0x3f).toInt64) ||| ((own_F16 (cs10.getD 4 0)).toInt64)) <<< ((6 : Int32) &&& 0x3f).toInt64) ||| ((own_F16 (cs10.getD 5 0)).toInt64)) <<< ((6 : Int32) &&& 0x3f).toInt64) ||| ((own_F16 (cs10.getD 6 0)).toInt64)) <<< ((6 : Int32) &&& 0x3f).toInt64) ||| ((own_F16 (cs10.getD 7 0)).toInt64)) <<< ((6 : Int32) &&& 0x3f).toInt64) ||| ((own_F16 (cs10.getD 8 0)).toInt64))), .second, .val (.int (9 : Int32))] [(.int (cs10.getD 9 0)), (.long ((((((((((((((((((((0 : Int64) <<< ((6 : Int32) &&& 0x3f).toInt64) ||| ((own_F16 (cs10.getD 0 0)).toInt64)) <<< ((6 : Int32) &&& 0x3f).toInt64) ||| ((own_F16 (cs10.getD 1 0)).toInt64)) <<< ((6 : Int32) &&& 0x3f).toInt64) ||| ((own_F16 (cs10.getD 2 0)).toInt64)) <<< ((6 : Int32) &&& 0x3f).toInt64) ||| ((own_F16 (cs10.getD 3 0)).toInt64)) <<< ((6 : Int32) &&& 0x3f).toInt64) ||| ((own_F16 (cs10.getD 4 0)).toInt64)) <<< ((6 : Int32) &&& 0x3f).toInt64) ||| ((own_F16 (cs10.getD 5 0)).toInt64)) <<< ((6 : Int32) &&& 0x3f).toInt64) ||| ((own_F16 (cs10.getD 6 0)).toInt64)) <<< ((6 : Int32) &&& 0x3f).toInt64) ||| ((own_F16 (cs10.getD 7 0)).toInt64)) <<< ((6 : Int32) &&& 0x3f).toInt64) ||| ((own_F16 (cs10.getD 8 0)).toInt64)) <<< ((6 : Int32) &&& 0x3f).toInt64))])) st43 ?_
  obtain ⟨v45, _, ⟨T45, L45, k45, n45⟩, -, X45, ⟨Lc45, hQ45, l45, y45, z45⟩, st45⟩ := Jvm.LawKit.callS X43 hx (y := (⟨"com/example/vacant_errand/vacanterrand/PackedId", "place", "(C)I"⟩ : MethodName)) hown (mvT hZ (hw _ (List.mem_of_getElem? (i := 68) rfl))) (mvT hZ (hw _ (List.mem_of_getElem? (i := 69) rfl))) (mvT hZ (hw _ (List.mem_of_getElem? (i := 44) rfl))) (mvT hZ (hw _ (List.mem_of_getElem? (i := 70) rfl))) (by decide) (backOf (W := 2) (own_rm16 l Z a0 hw [] (cs10.getD 9 0) wPL cPL h0 n0 Z0 O0 (HP10 _ (own_mem cs10 HL10 9 (by decide))).1 SPL TPL) hZ (hw _ (List.mem_of_getElem? (i := 70) rfl)) (hw _ (List.mem_of_getElem? (i := 44) rfl)) (by decide) (by decide)) (g := (mkF m 19 #[.val (.ref a10_0), .val (.long (((((((((((((((((((0 : Int64) <<< ((6 : Int32) &&& 0x3f).toInt64) ||| ((own_F16 (cs10.getD 0 0)).toInt64)) <<< ((6 : Int32) &&& 0x3f).toInt64) ||| ((own_F16 (cs10.getD 1 0)).toInt64)) <<< ((6 : Int32) &&& 0x3f).toInt64) ||| ((own_F16 (cs10.getD 2 0)).toInt64)) <<< ((6 : Int32) &&& 0x3f).toInt64) ||| ((own_F16 (cs10.getD 3 0)).toInt64)) <<< ((6 : Int32) &&& 0x3f).toInt64) ||| ((own_F16 (cs10.getD 4 0)).toInt64)) <<< ((6 : Int32) &&& 0x3f).toInt64) ||| ((own_F16 (cs10.getD 5 0)).toInt64)) <<< ((6 : Int32) &&& 0x3f).toInt64) ||| ((own_F16 (cs10.getD 6 0)).toInt64)) <<< ((6 : Int32) &&& 0x3f).toInt64) ||| ((own_F16 (cs10.getD 7 0)).toInt64)) <<< ((6 : Int32) &&& 0x3f).toInt64) ||| ((own_F16 (cs10.getD 8 0)).toInt64))), .second, .val (.int (9 : Int32))] [(.int (cs10.getD 9 0)), (.long ((((((((((((((((((((0 : Int64) <<< ((6 : Int32) &&& 0x3f).toInt64) ||| ((own_F16 (cs10.getD 0 0)).toInt64)) <<< ((6 : Int32) &&& 0x3f).toInt64) ||| ((own_F16 (cs10.getD 1 0)).toInt64)) <<< ((6 : Int32) &&& 0x3f).toInt64) ||| ((own_F16 (cs10.getD 2 0)).toInt64)) <<< ((6 : Int32) &&& 0x3f).toInt64) ||| ((own_F16 (cs10.getD 3 0)).toInt64)) <<< ((6 : Int32) &&& 0x3f).toInt64) ||| ((own_F16 (cs10.getD 4 0)).toInt64)) <<< ((6 : Int32) &&& 0x3f).toInt64) ||| ((own_F16 (cs10.getD 5 0)).toInt64)) <<< ((6 : Int32) &&& 0x3f).toInt64) ||| ((own_F16 (cs10.getD 6 0)).toInt64)) <<< ((6 : Int32) &&& 0x3f).toInt64) ||| ((own_F16 (cs10.getD 7 0)).toInt64)) <<< ((6 : Int32) &&& 0x3f).toInt64) ||| ((own_F16 (cs10.getD 8 0)).toInt64)) <<< ((6 : Int32) &&& 0x3f).toInt64))])) rfl (by rw [hml]; rfl) (argsL := [(.int (cs10.getD 9 0))]) (rest := [(.long ((((((((((((((((((((0 : Int64) <<< ((6 : Int32) &&& 0x3f).toInt64) ||| ((own_F16 (cs10.getD 0 0)).toInt64)) <<< ((6 : Int32) &&& 0x3f).toInt64) ||| ((own_F16 (cs10.getD 1 0)).toInt64)) <<< ((6 : Int32) &&& 0x3f).toInt64) ||| ((own_F16 (cs10.getD 2 0)).toInt64)) <<< ((6 : Int32) &&& 0x3f).toInt64) ||| ((own_F16 (cs10.getD 3 0)).toInt64)) <<< ((6 : Int32) &&& 0x3f).toInt64) ||| ((own_F16 (cs10.getD 4 0)).toInt64)) <<< ((6 : Int32) &&& 0x3f).toInt64) ||| ((own_F16 (cs10.getD 5 0)).toInt64)) <<< ((6 : Int32) &&& 0x3f).toInt64) ||| ((own_F16 (cs10.getD 6 0)).toInt64)) <<< ((6 : Int32) &&& 0x3f).toInt64) ||| ((own_F16 (cs10.getD 7 0)).toInt64)) <<< ((6 : Int32) &&& 0x3f).toInt64) ||| ((own_F16 (cs10.getD 8 0)).toInt64)) <<< ((6 : Int32) &&& 0x3f).toInt64))]) (lenOf pd__C_I rfl) rfl (by show 2 * 0 + _ ≤ _; exact Nat.le_of_eq rfl) (hb hby d10_19) (fun _ _ => ⟨rfl, e43, (by decide : 0 + 0 ≤ _), (by decide : 0 + 0 ≤ _)⟩)
  dsimp only [Pt.U, Pt.locs, Pt.cells, Pt.slots] at X45 l45 y45 z45 st45 hQ45
  subst y45 z45
  obtain ⟨rfl, M45, e45⟩ := hQ45
  have N46 : Fr n0 L45 := by rw [l45]; exact Fr.app N44 M45
  refine own_by (T' := T45) (g' := (mkF m 22 #[.val (.ref a10_0), .val (.long (((((((((((((((((((0 : Int64) <<< ((6 : Int32) &&& 0x3f).toInt64) ||| ((own_F16 (cs10.getD 0 0)).toInt64)) <<< ((6 : Int32) &&& 0x3f).toInt64) ||| ((own_F16 (cs10.getD 1 0)).toInt64)) <<< ((6 : Int32) &&& 0x3f).toInt64) ||| ((own_F16 (cs10.getD 2 0)).toInt64)) <<< ((6 : Int32) &&& 0x3f).toInt64) ||| ((own_F16 (cs10.getD 3 0)).toInt64)) <<< ((6 : Int32) &&& 0x3f).toInt64) ||| ((own_F16 (cs10.getD 4 0)).toInt64)) <<< ((6 : Int32) &&& 0x3f).toInt64) ||| ((own_F16 (cs10.getD 5 0)).toInt64)) <<< ((6 : Int32) &&& 0x3f).toInt64) ||| ((own_F16 (cs10.getD 6 0)).toInt64)) <<< ((6 : Int32) &&& 0x3f).toInt64) ||| ((own_F16 (cs10.getD 7 0)).toInt64)) <<< ((6 : Int32) &&& 0x3f).toInt64) ||| ((own_F16 (cs10.getD 8 0)).toInt64))), .second, .val (.int (9 : Int32))] [(.int (own_F16 (cs10.getD 9 0))), (.long ((((((((((((((((((((0 : Int64) <<< ((6 : Int32) &&& 0x3f).toInt64) ||| ((own_F16 (cs10.getD 0 0)).toInt64)) <<< ((6 : Int32) &&& 0x3f).toInt64) ||| ((own_F16 (cs10.getD 1 0)).toInt64)) <<< ((6 : Int32) &&& 0x3f).toInt64) ||| ((own_F16 (cs10.getD 2 0)).toInt64)) <<< ((6 : Int32) &&& 0x3f).toInt64) ||| ((own_F16 (cs10.getD 3 0)).toInt64)) <<< ((6 : Int32) &&& 0x3f).toInt64) ||| ((own_F16 (cs10.getD 4 0)).toInt64)) <<< ((6 : Int32) &&& 0x3f).toInt64) ||| ((own_F16 (cs10.getD 5 0)).toInt64)) <<< ((6 : Int32) &&& 0x3f).toInt64) ||| ((own_F16 (cs10.getD 6 0)).toInt64)) <<< ((6 : Int32) &&& 0x3f).toInt64) ||| ((own_F16 (cs10.getD 7 0)).toInt64)) <<< ((6 : Int32) &&& 0x3f).toInt64) ||| ((own_F16 (cs10.getD 8 0)).toInt64)) <<< ((6 : Int32) &&& 0x3f).toInt64))])) st45 ?_
  refine own_by (T' := T45) (g' := (mkF m 37 #[.val (.ref a10_0), .val (.long (((((((((((((((((((((0 : Int64) <<< ((6 : Int32) &&& 0x3f).toInt64) ||| ((own_F16 (cs10.getD 0 0)).toInt64)) <<< ((6 : Int32) &&& 0x3f).toInt64) ||| ((own_F16 (cs10.getD 1 0)).toInt64)) <<< ((6 : Int32) &&& 0x3f).toInt64) ||| ((own_F16 (cs10.getD 2 0)).toInt64)) <<< ((6 : Int32) &&& 0x3f).toInt64) ||| ((own_F16 (cs10.getD 3 0)).toInt64)) <<< ((6 : Int32) &&& 0x3f).toInt64) ||| ((own_F16 (cs10.getD 4 0)).toInt64)) <<< ((6 : Int32) &&& 0x3f).toInt64) ||| ((own_F16 (cs10.getD 5 0)).toInt64)) <<< ((6 : Int32) &&& 0x3f).toInt64) ||| ((own_F16 (cs10.getD 6 0)).toInt64)) <<< ((6 : Int32) &&& 0x3f).toInt64) ||| ((own_F16 (cs10.getD 7 0)).toInt64)) <<< ((6 : Int32) &&& 0x3f).toInt64) ||| ((own_F16 (cs10.getD 8 0)).toInt64)) <<< ((6 : Int32) &&& 0x3f).toInt64) ||| ((own_F16 (cs10.getD 9 0)).toInt64))), .second, .val (.int (10 : Int32))] [(.int (10 : Int32)), (.ref a10_0), (.long ((((((((((((((((((((((0 : Int64) <<< ((6 : Int32) &&& 0x3f).toInt64) ||| ((own_F16 (cs10.getD 0 0)).toInt64)) <<< ((6 : Int32) &&& 0x3f).toInt64) ||| ((own_F16 (cs10.getD 1 0)).toInt64)) <<< ((6 : Int32) &&& 0x3f).toInt64) ||| ((own_F16 (cs10.getD 2 0)).toInt64)) <<< ((6 : Int32) &&& 0x3f).toInt64) ||| ((own_F16 (cs10.getD 3 0)).toInt64)) <<< ((6 : Int32) &&& 0x3f).toInt64) ||| ((own_F16 (cs10.getD 4 0)).toInt64)) <<< ((6 : Int32) &&& 0x3f).toInt64) ||| ((own_F16 (cs10.getD 5 0)).toInt64)) <<< ((6 : Int32) &&& 0x3f).toInt64) ||| ((own_F16 (cs10.getD 6 0)).toInt64)) <<< ((6 : Int32) &&& 0x3f).toInt64) ||| ((own_F16 (cs10.getD 7 0)).toInt64)) <<< ((6 : Int32) &&& 0x3f).toInt64) ||| ((own_F16 (cs10.getD 8 0)).toInt64)) <<< ((6 : Int32) &&& 0x3f).toInt64) ||| ((own_F16 (cs10.getD 9 0)).toInt64)) <<< ((4 : Int32) &&& 0x3f).toInt64))])) (fun t k => ?_) ?_
  · show Steps p.tables e below (T45.setTop (mkF m 22 #[.val (.ref a10_0), .val (.long (((((((((((((((((((0 : Int64) <<< ((6 : Int32) &&& 0x3f).toInt64) ||| ((own_F16 (cs10.getD 0 0)).toInt64)) <<< ((6 : Int32) &&& 0x3f).toInt64) ||| ((own_F16 (cs10.getD 1 0)).toInt64)) <<< ((6 : Int32) &&& 0x3f).toInt64) ||| ((own_F16 (cs10.getD 2 0)).toInt64)) <<< ((6 : Int32) &&& 0x3f).toInt64) ||| ((own_F16 (cs10.getD 3 0)).toInt64)) <<< ((6 : Int32) &&& 0x3f).toInt64) ||| ((own_F16 (cs10.getD 4 0)).toInt64)) <<< ((6 : Int32) &&& 0x3f).toInt64) ||| ((own_F16 (cs10.getD 5 0)).toInt64)) <<< ((6 : Int32) &&& 0x3f).toInt64) ||| ((own_F16 (cs10.getD 6 0)).toInt64)) <<< ((6 : Int32) &&& 0x3f).toInt64) ||| ((own_F16 (cs10.getD 7 0)).toInt64)) <<< ((6 : Int32) &&& 0x3f).toInt64) ||| ((own_F16 (cs10.getD 8 0)).toInt64))), .second, .val (.int (9 : Int32))] [(.int (own_F16 (cs10.getD 9 0))), (.long ((((((((((((((((((((0 : Int64) <<< ((6 : Int32) &&& 0x3f).toInt64) ||| ((own_F16 (cs10.getD 0 0)).toInt64)) <<< ((6 : Int32) &&& 0x3f).toInt64) ||| ((own_F16 (cs10.getD 1 0)).toInt64)) <<< ((6 : Int32) &&& 0x3f).toInt64) ||| ((own_F16 (cs10.getD 2 0)).toInt64)) <<< ((6 : Int32) &&& 0x3f).toInt64) ||| ((own_F16 (cs10.getD 3 0)).toInt64)) <<< ((6 : Int32) &&& 0x3f).toInt64) ||| ((own_F16 (cs10.getD 4 0)).toInt64)) <<< ((6 : Int32) &&& 0x3f).toInt64) ||| ((own_F16 (cs10.getD 5 0)).toInt64)) <<< ((6 : Int32) &&& 0x3f).toInt64) ||| ((own_F16 (cs10.getD 6 0)).toInt64)) <<< ((6 : Int32) &&& 0x3f).toInt64) ||| ((own_F16 (cs10.getD 7 0)).toInt64)) <<< ((6 : Int32) &&& 0x3f).toInt64) ||| ((own_F16 (cs10.getD 8 0)).toInt64)) <<< ((6 : Int32) &&& 0x3f).toInt64))])) t
    refine XS.i2l X45.here hx rfl (hb hby d10_22) rfl ?_
    show Steps p.tables e below (T45.setTop (mkF m 23 #[.val (.ref a10_0), .val (.long (((((((((((((((((((0 : Int64) <<< ((6 : Int32) &&& 0x3f).toInt64) ||| ((own_F16 (cs10.getD 0 0)).toInt64)) <<< ((6 : Int32) &&& 0x3f).toInt64) ||| ((own_F16 (cs10.getD 1 0)).toInt64)) <<< ((6 : Int32) &&& 0x3f).toInt64) ||| ((own_F16 (cs10.getD 2 0)).toInt64)) <<< ((6 : Int32) &&& 0x3f).toInt64) ||| ((own_F16 (cs10.getD 3 0)).toInt64)) <<< ((6 : Int32) &&& 0x3f).toInt64) ||| ((own_F16 (cs10.getD 4 0)).toInt64)) <<< ((6 : Int32) &&& 0x3f).toInt64) ||| ((own_F16 (cs10.getD 5 0)).toInt64)) <<< ((6 : Int32) &&& 0x3f).toInt64) ||| ((own_F16 (cs10.getD 6 0)).toInt64)) <<< ((6 : Int32) &&& 0x3f).toInt64) ||| ((own_F16 (cs10.getD 7 0)).toInt64)) <<< ((6 : Int32) &&& 0x3f).toInt64) ||| ((own_F16 (cs10.getD 8 0)).toInt64))), .second, .val (.int (9 : Int32))] [(.long ((own_F16 (cs10.getD 9 0)).toInt64)), (.long ((((((((((((((((((((0 : Int64) <<< ((6 : Int32) &&& 0x3f).toInt64) ||| ((own_F16 (cs10.getD 0 0)).toInt64)) <<< ((6 : Int32) &&& 0x3f).toInt64) ||| ((own_F16 (cs10.getD 1 0)).toInt64)) <<< ((6 : Int32) &&& 0x3f).toInt64) ||| ((own_F16 (cs10.getD 2 0)).toInt64)) <<< ((6 : Int32) &&& 0x3f).toInt64) ||| ((own_F16 (cs10.getD 3 0)).toInt64)) <<< ((6 : Int32) &&& 0x3f).toInt64) ||| ((own_F16 (cs10.getD 4 0)).toInt64)) <<< ((6 : Int32) &&& 0x3f).toInt64) ||| ((own_F16 (cs10.getD 5 0)).toInt64)) <<< ((6 : Int32) &&& 0x3f).toInt64) ||| ((own_F16 (cs10.getD 6 0)).toInt64)) <<< ((6 : Int32) &&& 0x3f).toInt64) ||| ((own_F16 (cs10.getD 7 0)).toInt64)) <<< ((6 : Int32) &&& 0x3f).toInt64) ||| ((own_F16 (cs10.getD 8 0)).toInt64)) <<< ((6 : Int32) &&& 0x3f).toInt64))])) t
    refine XS.lor X45.here hx rfl (hb hby d10_23) rfl ?_
    show Steps p.tables e below (T45.setTop (mkF m 24 #[.val (.ref a10_0), .val (.long (((((((((((((((((((0 : Int64) <<< ((6 : Int32) &&& 0x3f).toInt64) ||| ((own_F16 (cs10.getD 0 0)).toInt64)) <<< ((6 : Int32) &&& 0x3f).toInt64) ||| ((own_F16 (cs10.getD 1 0)).toInt64)) <<< ((6 : Int32) &&& 0x3f).toInt64) ||| ((own_F16 (cs10.getD 2 0)).toInt64)) <<< ((6 : Int32) &&& 0x3f).toInt64) ||| ((own_F16 (cs10.getD 3 0)).toInt64)) <<< ((6 : Int32) &&& 0x3f).toInt64) ||| ((own_F16 (cs10.getD 4 0)).toInt64)) <<< ((6 : Int32) &&& 0x3f).toInt64) ||| ((own_F16 (cs10.getD 5 0)).toInt64)) <<< ((6 : Int32) &&& 0x3f).toInt64) ||| ((own_F16 (cs10.getD 6 0)).toInt64)) <<< ((6 : Int32) &&& 0x3f).toInt64) ||| ((own_F16 (cs10.getD 7 0)).toInt64)) <<< ((6 : Int32) &&& 0x3f).toInt64) ||| ((own_F16 (cs10.getD 8 0)).toInt64))), .second, .val (.int (9 : Int32))] [(.long (((((((((((((((((((((0 : Int64) <<< ((6 : Int32) &&& 0x3f).toInt64) ||| ((own_F16 (cs10.getD 0 0)).toInt64)) <<< ((6 : Int32) &&& 0x3f).toInt64) ||| ((own_F16 (cs10.getD 1 0)).toInt64)) <<< ((6 : Int32) &&& 0x3f).toInt64) ||| ((own_F16 (cs10.getD 2 0)).toInt64)) <<< ((6 : Int32) &&& 0x3f).toInt64) ||| ((own_F16 (cs10.getD 3 0)).toInt64)) <<< ((6 : Int32) &&& 0x3f).toInt64) ||| ((own_F16 (cs10.getD 4 0)).toInt64)) <<< ((6 : Int32) &&& 0x3f).toInt64) ||| ((own_F16 (cs10.getD 5 0)).toInt64)) <<< ((6 : Int32) &&& 0x3f).toInt64) ||| ((own_F16 (cs10.getD 6 0)).toInt64)) <<< ((6 : Int32) &&& 0x3f).toInt64) ||| ((own_F16 (cs10.getD 7 0)).toInt64)) <<< ((6 : Int32) &&& 0x3f).toInt64) ||| ((own_F16 (cs10.getD 8 0)).toInt64)) <<< ((6 : Int32) &&& 0x3f).toInt64) ||| ((own_F16 (cs10.getD 9 0)).toInt64)))])) t
    refine XS.lstoreN X45.here hx rfl (hb hby d10_24) rfl (l' := #[.val (.ref a10_0), .val (.long (((((((((((((((((((((0 : Int64) <<< ((6 : Int32) &&& 0x3f).toInt64) ||| ((own_F16 (cs10.getD 0 0)).toInt64)) <<< ((6 : Int32) &&& 0x3f).toInt64) ||| ((own_F16 (cs10.getD 1 0)).toInt64)) <<< ((6 : Int32) &&& 0x3f).toInt64) ||| ((own_F16 (cs10.getD 2 0)).toInt64)) <<< ((6 : Int32) &&& 0x3f).toInt64) ||| ((own_F16 (cs10.getD 3 0)).toInt64)) <<< ((6 : Int32) &&& 0x3f).toInt64) ||| ((own_F16 (cs10.getD 4 0)).toInt64)) <<< ((6 : Int32) &&& 0x3f).toInt64) ||| ((own_F16 (cs10.getD 5 0)).toInt64)) <<< ((6 : Int32) &&& 0x3f).toInt64) ||| ((own_F16 (cs10.getD 6 0)).toInt64)) <<< ((6 : Int32) &&& 0x3f).toInt64) ||| ((own_F16 (cs10.getD 7 0)).toInt64)) <<< ((6 : Int32) &&& 0x3f).toInt64) ||| ((own_F16 (cs10.getD 8 0)).toInt64)) <<< ((6 : Int32) &&& 0x3f).toInt64) ||| ((own_F16 (cs10.getD 9 0)).toInt64))), .second, .val (.int (9 : Int32))]) rfl ?_
    show Steps p.tables e below (T45.setTop (mkF m 25 #[.val (.ref a10_0), .val (.long (((((((((((((((((((((0 : Int64) <<< ((6 : Int32) &&& 0x3f).toInt64) ||| ((own_F16 (cs10.getD 0 0)).toInt64)) <<< ((6 : Int32) &&& 0x3f).toInt64) ||| ((own_F16 (cs10.getD 1 0)).toInt64)) <<< ((6 : Int32) &&& 0x3f).toInt64) ||| ((own_F16 (cs10.getD 2 0)).toInt64)) <<< ((6 : Int32) &&& 0x3f).toInt64) ||| ((own_F16 (cs10.getD 3 0)).toInt64)) <<< ((6 : Int32) &&& 0x3f).toInt64) ||| ((own_F16 (cs10.getD 4 0)).toInt64)) <<< ((6 : Int32) &&& 0x3f).toInt64) ||| ((own_F16 (cs10.getD 5 0)).toInt64)) <<< ((6 : Int32) &&& 0x3f).toInt64) ||| ((own_F16 (cs10.getD 6 0)).toInt64)) <<< ((6 : Int32) &&& 0x3f).toInt64) ||| ((own_F16 (cs10.getD 7 0)).toInt64)) <<< ((6 : Int32) &&& 0x3f).toInt64) ||| ((own_F16 (cs10.getD 8 0)).toInt64)) <<< ((6 : Int32) &&& 0x3f).toInt64) ||| ((own_F16 (cs10.getD 9 0)).toInt64))), .second, .val (.int (9 : Int32))] [])) t
    refine XS.iinc X45.here hx rfl (hb hby d10_25) rfl (l' := #[.val (.ref a10_0), .val (.long (((((((((((((((((((((0 : Int64) <<< ((6 : Int32) &&& 0x3f).toInt64) ||| ((own_F16 (cs10.getD 0 0)).toInt64)) <<< ((6 : Int32) &&& 0x3f).toInt64) ||| ((own_F16 (cs10.getD 1 0)).toInt64)) <<< ((6 : Int32) &&& 0x3f).toInt64) ||| ((own_F16 (cs10.getD 2 0)).toInt64)) <<< ((6 : Int32) &&& 0x3f).toInt64) ||| ((own_F16 (cs10.getD 3 0)).toInt64)) <<< ((6 : Int32) &&& 0x3f).toInt64) ||| ((own_F16 (cs10.getD 4 0)).toInt64)) <<< ((6 : Int32) &&& 0x3f).toInt64) ||| ((own_F16 (cs10.getD 5 0)).toInt64)) <<< ((6 : Int32) &&& 0x3f).toInt64) ||| ((own_F16 (cs10.getD 6 0)).toInt64)) <<< ((6 : Int32) &&& 0x3f).toInt64) ||| ((own_F16 (cs10.getD 7 0)).toInt64)) <<< ((6 : Int32) &&& 0x3f).toInt64) ||| ((own_F16 (cs10.getD 8 0)).toInt64)) <<< ((6 : Int32) &&& 0x3f).toInt64) ||| ((own_F16 (cs10.getD 9 0)).toInt64))), .second, .val (.int (10 : Int32))]) rfl ?_
    show Steps p.tables e below (T45.setTop (mkF m 28 #[.val (.ref a10_0), .val (.long (((((((((((((((((((((0 : Int64) <<< ((6 : Int32) &&& 0x3f).toInt64) ||| ((own_F16 (cs10.getD 0 0)).toInt64)) <<< ((6 : Int32) &&& 0x3f).toInt64) ||| ((own_F16 (cs10.getD 1 0)).toInt64)) <<< ((6 : Int32) &&& 0x3f).toInt64) ||| ((own_F16 (cs10.getD 2 0)).toInt64)) <<< ((6 : Int32) &&& 0x3f).toInt64) ||| ((own_F16 (cs10.getD 3 0)).toInt64)) <<< ((6 : Int32) &&& 0x3f).toInt64) ||| ((own_F16 (cs10.getD 4 0)).toInt64)) <<< ((6 : Int32) &&& 0x3f).toInt64) ||| ((own_F16 (cs10.getD 5 0)).toInt64)) <<< ((6 : Int32) &&& 0x3f).toInt64) ||| ((own_F16 (cs10.getD 6 0)).toInt64)) <<< ((6 : Int32) &&& 0x3f).toInt64) ||| ((own_F16 (cs10.getD 7 0)).toInt64)) <<< ((6 : Int32) &&& 0x3f).toInt64) ||| ((own_F16 (cs10.getD 8 0)).toInt64)) <<< ((6 : Int32) &&& 0x3f).toInt64) ||| ((own_F16 (cs10.getD 9 0)).toInt64))), .second, .val (.int (10 : Int32))] [])) t
    refine XS.goto X45.here hx rfl (pc0 := 28) (pc' := 4) rfl (hb hby d10_28) (by decide) (by decide) ?_
    show Steps p.tables e below (T45.setTop (mkF m 4 #[.val (.ref a10_0), .val (.long (((((((((((((((((((((0 : Int64) <<< ((6 : Int32) &&& 0x3f).toInt64) ||| ((own_F16 (cs10.getD 0 0)).toInt64)) <<< ((6 : Int32) &&& 0x3f).toInt64) ||| ((own_F16 (cs10.getD 1 0)).toInt64)) <<< ((6 : Int32) &&& 0x3f).toInt64) ||| ((own_F16 (cs10.getD 2 0)).toInt64)) <<< ((6 : Int32) &&& 0x3f).toInt64) ||| ((own_F16 (cs10.getD 3 0)).toInt64)) <<< ((6 : Int32) &&& 0x3f).toInt64) ||| ((own_F16 (cs10.getD 4 0)).toInt64)) <<< ((6 : Int32) &&& 0x3f).toInt64) ||| ((own_F16 (cs10.getD 5 0)).toInt64)) <<< ((6 : Int32) &&& 0x3f).toInt64) ||| ((own_F16 (cs10.getD 6 0)).toInt64)) <<< ((6 : Int32) &&& 0x3f).toInt64) ||| ((own_F16 (cs10.getD 7 0)).toInt64)) <<< ((6 : Int32) &&& 0x3f).toInt64) ||| ((own_F16 (cs10.getD 8 0)).toInt64)) <<< ((6 : Int32) &&& 0x3f).toInt64) ||| ((own_F16 (cs10.getD 9 0)).toInt64))), .second, .val (.int (10 : Int32))] [])) t
    refine XS.iloadN X45.here hx rfl (hb hby d10_4) rfl ?_
    show Steps p.tables e below (T45.setTop (mkF m 5 #[.val (.ref a10_0), .val (.long (((((((((((((((((((((0 : Int64) <<< ((6 : Int32) &&& 0x3f).toInt64) ||| ((own_F16 (cs10.getD 0 0)).toInt64)) <<< ((6 : Int32) &&& 0x3f).toInt64) ||| ((own_F16 (cs10.getD 1 0)).toInt64)) <<< ((6 : Int32) &&& 0x3f).toInt64) ||| ((own_F16 (cs10.getD 2 0)).toInt64)) <<< ((6 : Int32) &&& 0x3f).toInt64) ||| ((own_F16 (cs10.getD 3 0)).toInt64)) <<< ((6 : Int32) &&& 0x3f).toInt64) ||| ((own_F16 (cs10.getD 4 0)).toInt64)) <<< ((6 : Int32) &&& 0x3f).toInt64) ||| ((own_F16 (cs10.getD 5 0)).toInt64)) <<< ((6 : Int32) &&& 0x3f).toInt64) ||| ((own_F16 (cs10.getD 6 0)).toInt64)) <<< ((6 : Int32) &&& 0x3f).toInt64) ||| ((own_F16 (cs10.getD 7 0)).toInt64)) <<< ((6 : Int32) &&& 0x3f).toInt64) ||| ((own_F16 (cs10.getD 8 0)).toInt64)) <<< ((6 : Int32) &&& 0x3f).toInt64) ||| ((own_F16 (cs10.getD 9 0)).toInt64))), .second, .val (.int (10 : Int32))] [(.int (10 : Int32))])) t
    refine XS.bipush X45.here hx rfl (hb hby d10_5) ?_
    show Steps p.tables e below (T45.setTop (mkF m 7 #[.val (.ref a10_0), .val (.long (((((((((((((((((((((0 : Int64) <<< ((6 : Int32) &&& 0x3f).toInt64) ||| ((own_F16 (cs10.getD 0 0)).toInt64)) <<< ((6 : Int32) &&& 0x3f).toInt64) ||| ((own_F16 (cs10.getD 1 0)).toInt64)) <<< ((6 : Int32) &&& 0x3f).toInt64) ||| ((own_F16 (cs10.getD 2 0)).toInt64)) <<< ((6 : Int32) &&& 0x3f).toInt64) ||| ((own_F16 (cs10.getD 3 0)).toInt64)) <<< ((6 : Int32) &&& 0x3f).toInt64) ||| ((own_F16 (cs10.getD 4 0)).toInt64)) <<< ((6 : Int32) &&& 0x3f).toInt64) ||| ((own_F16 (cs10.getD 5 0)).toInt64)) <<< ((6 : Int32) &&& 0x3f).toInt64) ||| ((own_F16 (cs10.getD 6 0)).toInt64)) <<< ((6 : Int32) &&& 0x3f).toInt64) ||| ((own_F16 (cs10.getD 7 0)).toInt64)) <<< ((6 : Int32) &&& 0x3f).toInt64) ||| ((own_F16 (cs10.getD 8 0)).toInt64)) <<< ((6 : Int32) &&& 0x3f).toInt64) ||| ((own_F16 (cs10.getD 9 0)).toInt64))), .second, .val (.int (10 : Int32))] [(.int (10 : Int32)), (.int (10 : Int32))])) t
    refine XS.icmpYes X45.here hx rfl (pc0 := 7) (pc' := 31) rfl (hb hby d10_7) rfl (flt (by decide : ¬ ((10 : Int32) < (10 : Int32)))).2.1 (by decide) (by decide) ?_
    show Steps p.tables e below (T45.setTop (mkF m 31 #[.val (.ref a10_0), .val (.long (((((((((((((((((((((0 : Int64) <<< ((6 : Int32) &&& 0x3f).toInt64) ||| ((own_F16 (cs10.getD 0 0)).toInt64)) <<< ((6 : Int32) &&& 0x3f).toInt64) ||| ((own_F16 (cs10.getD 1 0)).toInt64)) <<< ((6 : Int32) &&& 0x3f).toInt64) ||| ((own_F16 (cs10.getD 2 0)).toInt64)) <<< ((6 : Int32) &&& 0x3f).toInt64) ||| ((own_F16 (cs10.getD 3 0)).toInt64)) <<< ((6 : Int32) &&& 0x3f).toInt64) ||| ((own_F16 (cs10.getD 4 0)).toInt64)) <<< ((6 : Int32) &&& 0x3f).toInt64) ||| ((own_F16 (cs10.getD 5 0)).toInt64)) <<< ((6 : Int32) &&& 0x3f).toInt64) ||| ((own_F16 (cs10.getD 6 0)).toInt64)) <<< ((6 : Int32) &&& 0x3f).toInt64) ||| ((own_F16 (cs10.getD 7 0)).toInt64)) <<< ((6 : Int32) &&& 0x3f).toInt64) ||| ((own_F16 (cs10.getD 8 0)).toInt64)) <<< ((6 : Int32) &&& 0x3f).toInt64) ||| ((own_F16 (cs10.getD 9 0)).toInt64))), .second, .val (.int (10 : Int32))] [])) t
    refine XS.lloadN X45.here hx rfl (hb hby d10_31) rfl ?_
    show Steps p.tables e below (T45.setTop (mkF m 32 #[.val (.ref a10_0), .val (.long (((((((((((((((((((((0 : Int64) <<< ((6 : Int32) &&& 0x3f).toInt64) ||| ((own_F16 (cs10.getD 0 0)).toInt64)) <<< ((6 : Int32) &&& 0x3f).toInt64) ||| ((own_F16 (cs10.getD 1 0)).toInt64)) <<< ((6 : Int32) &&& 0x3f).toInt64) ||| ((own_F16 (cs10.getD 2 0)).toInt64)) <<< ((6 : Int32) &&& 0x3f).toInt64) ||| ((own_F16 (cs10.getD 3 0)).toInt64)) <<< ((6 : Int32) &&& 0x3f).toInt64) ||| ((own_F16 (cs10.getD 4 0)).toInt64)) <<< ((6 : Int32) &&& 0x3f).toInt64) ||| ((own_F16 (cs10.getD 5 0)).toInt64)) <<< ((6 : Int32) &&& 0x3f).toInt64) ||| ((own_F16 (cs10.getD 6 0)).toInt64)) <<< ((6 : Int32) &&& 0x3f).toInt64) ||| ((own_F16 (cs10.getD 7 0)).toInt64)) <<< ((6 : Int32) &&& 0x3f).toInt64) ||| ((own_F16 (cs10.getD 8 0)).toInt64)) <<< ((6 : Int32) &&& 0x3f).toInt64) ||| ((own_F16 (cs10.getD 9 0)).toInt64))), .second, .val (.int (10 : Int32))] [(.long (((((((((((((((((((((0 : Int64) <<< ((6 : Int32) &&& 0x3f).toInt64) ||| ((own_F16 (cs10.getD 0 0)).toInt64)) <<< ((6 : Int32) &&& 0x3f).toInt64) ||| ((own_F16 (cs10.getD 1 0)).toInt64)) <<< ((6 : Int32) &&& 0x3f).toInt64) ||| ((own_F16 (cs10.getD 2 0)).toInt64)) <<< ((6 : Int32) &&& 0x3f).toInt64) ||| ((own_F16 (cs10.getD 3 0)).toInt64)) <<< ((6 : Int32) &&& 0x3f).toInt64) ||| ((own_F16 (cs10.getD 4 0)).toInt64)) <<< ((6 : Int32) &&& 0x3f).toInt64) ||| ((own_F16 (cs10.getD 5 0)).toInt64)) <<< ((6 : Int32) &&& 0x3f).toInt64) ||| ((own_F16 (cs10.getD 6 0)).toInt64)) <<< ((6 : Int32) &&& 0x3f).toInt64) ||| ((own_F16 (cs10.getD 7 0)).toInt64)) <<< ((6 : Int32) &&& 0x3f).toInt64) ||| ((own_F16 (cs10.getD 8 0)).toInt64)) <<< ((6 : Int32) &&& 0x3f).toInt64) ||| ((own_F16 (cs10.getD 9 0)).toInt64)))])) t
    refine XS.iconst X45.here hx rfl (hb hby d10_32) ?_
    show Steps p.tables e below (T45.setTop (mkF m 33 #[.val (.ref a10_0), .val (.long (((((((((((((((((((((0 : Int64) <<< ((6 : Int32) &&& 0x3f).toInt64) ||| ((own_F16 (cs10.getD 0 0)).toInt64)) <<< ((6 : Int32) &&& 0x3f).toInt64) ||| ((own_F16 (cs10.getD 1 0)).toInt64)) <<< ((6 : Int32) &&& 0x3f).toInt64) ||| ((own_F16 (cs10.getD 2 0)).toInt64)) <<< ((6 : Int32) &&& 0x3f).toInt64) ||| ((own_F16 (cs10.getD 3 0)).toInt64)) <<< ((6 : Int32) &&& 0x3f).toInt64) ||| ((own_F16 (cs10.getD 4 0)).toInt64)) <<< ((6 : Int32) &&& 0x3f).toInt64) ||| ((own_F16 (cs10.getD 5 0)).toInt64)) <<< ((6 : Int32) &&& 0x3f).toInt64) ||| ((own_F16 (cs10.getD 6 0)).toInt64)) <<< ((6 : Int32) &&& 0x3f).toInt64) ||| ((own_F16 (cs10.getD 7 0)).toInt64)) <<< ((6 : Int32) &&& 0x3f).toInt64) ||| ((own_F16 (cs10.getD 8 0)).toInt64)) <<< ((6 : Int32) &&& 0x3f).toInt64) ||| ((own_F16 (cs10.getD 9 0)).toInt64))), .second, .val (.int (10 : Int32))] [(.int (4 : Int32)), (.long (((((((((((((((((((((0 : Int64) <<< ((6 : Int32) &&& 0x3f).toInt64) ||| ((own_F16 (cs10.getD 0 0)).toInt64)) <<< ((6 : Int32) &&& 0x3f).toInt64) ||| ((own_F16 (cs10.getD 1 0)).toInt64)) <<< ((6 : Int32) &&& 0x3f).toInt64) ||| ((own_F16 (cs10.getD 2 0)).toInt64)) <<< ((6 : Int32) &&& 0x3f).toInt64) ||| ((own_F16 (cs10.getD 3 0)).toInt64)) <<< ((6 : Int32) &&& 0x3f).toInt64) ||| ((own_F16 (cs10.getD 4 0)).toInt64)) <<< ((6 : Int32) &&& 0x3f).toInt64) ||| ((own_F16 (cs10.getD 5 0)).toInt64)) <<< ((6 : Int32) &&& 0x3f).toInt64) ||| ((own_F16 (cs10.getD 6 0)).toInt64)) <<< ((6 : Int32) &&& 0x3f).toInt64) ||| ((own_F16 (cs10.getD 7 0)).toInt64)) <<< ((6 : Int32) &&& 0x3f).toInt64) ||| ((own_F16 (cs10.getD 8 0)).toInt64)) <<< ((6 : Int32) &&& 0x3f).toInt64) ||| ((own_F16 (cs10.getD 9 0)).toInt64)))])) t
    refine XS.lshl X45.here hx rfl (hb hby d10_33) rfl ?_
    show Steps p.tables e below (T45.setTop (mkF m 34 #[.val (.ref a10_0), .val (.long (((((((((((((((((((((0 : Int64) <<< ((6 : Int32) &&& 0x3f).toInt64) ||| ((own_F16 (cs10.getD 0 0)).toInt64)) <<< ((6 : Int32) &&& 0x3f).toInt64) ||| ((own_F16 (cs10.getD 1 0)).toInt64)) <<< ((6 : Int32) &&& 0x3f).toInt64) ||| ((own_F16 (cs10.getD 2 0)).toInt64)) <<< ((6 : Int32) &&& 0x3f).toInt64) ||| ((own_F16 (cs10.getD 3 0)).toInt64)) <<< ((6 : Int32) &&& 0x3f).toInt64) ||| ((own_F16 (cs10.getD 4 0)).toInt64)) <<< ((6 : Int32) &&& 0x3f).toInt64) ||| ((own_F16 (cs10.getD 5 0)).toInt64)) <<< ((6 : Int32) &&& 0x3f).toInt64) ||| ((own_F16 (cs10.getD 6 0)).toInt64)) <<< ((6 : Int32) &&& 0x3f).toInt64) ||| ((own_F16 (cs10.getD 7 0)).toInt64)) <<< ((6 : Int32) &&& 0x3f).toInt64) ||| ((own_F16 (cs10.getD 8 0)).toInt64)) <<< ((6 : Int32) &&& 0x3f).toInt64) ||| ((own_F16 (cs10.getD 9 0)).toInt64))), .second, .val (.int (10 : Int32))] [(.long ((((((((((((((((((((((0 : Int64) <<< ((6 : Int32) &&& 0x3f).toInt64) ||| ((own_F16 (cs10.getD 0 0)).toInt64)) <<< ((6 : Int32) &&& 0x3f).toInt64) ||| ((own_F16 (cs10.getD 1 0)).toInt64)) <<< ((6 : Int32) &&& 0x3f).toInt64) ||| ((own_F16 (cs10.getD 2 0)).toInt64)) <<< ((6 : Int32) &&& 0x3f).toInt64) ||| ((own_F16 (cs10.getD 3 0)).toInt64)) <<< ((6 : Int32) &&& 0x3f).toInt64) ||| ((own_F16 (cs10.getD 4 0)).toInt64)) <<< ((6 : Int32) &&& 0x3f).toInt64) ||| ((own_F16 (cs10.getD 5 0)).toInt64)) <<< ((6 : Int32) &&& 0x3f).toInt64) ||| ((own_F16 (cs10.getD 6 0)).toInt64)) <<< ((6 : Int32) &&& 0x3f).toInt64) ||| ((own_F16 (cs10.getD 7 0)).toInt64)) <<< ((6 : Int32) &&& 0x3f).toInt64) ||| ((own_F16 (cs10.getD 8 0)).toInt64)) <<< ((6 : Int32) &&& 0x3f).toInt64) ||| ((own_F16 (cs10.getD 9 0)).toInt64)) <<< ((4 : Int32) &&& 0x3f).toInt64))])) t
    refine XS.aloadN X45.here hx rfl (hb hby d10_34) rfl rfl ?_
    show Steps p.tables e below (T45.setTop (mkF m 35 #[.val (.ref a10_0), .val (.long (((((((((((((((((((((0 : Int64) <<< ((6 : Int32) &&& 0x3f).toInt64) ||| ((own_F16 (cs10.getD 0 0)).toInt64)) <<< ((6 : Int32) &&& 0x3f).toInt64) ||| ((own_F16 (cs10.getD 1 0)).toInt64)) <<< ((6 : Int32) &&& 0x3f).toInt64) ||| ((own_F16 (cs10.getD 2 0)).toInt64)) <<< ((6 : Int32) &&& 0x3f).toInt64) ||| ((own_F16 (cs10.getD 3 0)).toInt64)) <<< ((6 : Int32) &&& 0x3f).toInt64) ||| ((own_F16 (cs10.getD 4 0)).toInt64)) <<< ((6 : Int32) &&& 0x3f).toInt64) ||| ((own_F16 (cs10.getD 5 0)).toInt64)) <<< ((6 : Int32) &&& 0x3f).toInt64) ||| ((own_F16 (cs10.getD 6 0)).toInt64)) <<< ((6 : Int32) &&& 0x3f).toInt64) ||| ((own_F16 (cs10.getD 7 0)).toInt64)) <<< ((6 : Int32) &&& 0x3f).toInt64) ||| ((own_F16 (cs10.getD 8 0)).toInt64)) <<< ((6 : Int32) &&& 0x3f).toInt64) ||| ((own_F16 (cs10.getD 9 0)).toInt64))), .second, .val (.int (10 : Int32))] [(.ref a10_0), (.long ((((((((((((((((((((((0 : Int64) <<< ((6 : Int32) &&& 0x3f).toInt64) ||| ((own_F16 (cs10.getD 0 0)).toInt64)) <<< ((6 : Int32) &&& 0x3f).toInt64) ||| ((own_F16 (cs10.getD 1 0)).toInt64)) <<< ((6 : Int32) &&& 0x3f).toInt64) ||| ((own_F16 (cs10.getD 2 0)).toInt64)) <<< ((6 : Int32) &&& 0x3f).toInt64) ||| ((own_F16 (cs10.getD 3 0)).toInt64)) <<< ((6 : Int32) &&& 0x3f).toInt64) ||| ((own_F16 (cs10.getD 4 0)).toInt64)) <<< ((6 : Int32) &&& 0x3f).toInt64) ||| ((own_F16 (cs10.getD 5 0)).toInt64)) <<< ((6 : Int32) &&& 0x3f).toInt64) ||| ((own_F16 (cs10.getD 6 0)).toInt64)) <<< ((6 : Int32) &&& 0x3f).toInt64) ||| ((own_F16 (cs10.getD 7 0)).toInt64)) <<< ((6 : Int32) &&& 0x3f).toInt64) ||| ((own_F16 (cs10.getD 8 0)).toInt64)) <<< ((6 : Int32) &&& 0x3f).toInt64) ||| ((own_F16 (cs10.getD 9 0)).toInt64)) <<< ((4 : Int32) &&& 0x3f).toInt64))])) t
    refine XS.bipush X45.here hx rfl (hb hby d10_35) ?_
    show Steps p.tables e below (T45.setTop (mkF m 37 #[.val (.ref a10_0), .val (.long (((((((((((((((((((((0 : Int64) <<< ((6 : Int32) &&& 0x3f).toInt64) ||| ((own_F16 (cs10.getD 0 0)).toInt64)) <<< ((6 : Int32) &&& 0x3f).toInt64) ||| ((own_F16 (cs10.getD 1 0)).toInt64)) <<< ((6 : Int32) &&& 0x3f).toInt64) ||| ((own_F16 (cs10.getD 2 0)).toInt64)) <<< ((6 : Int32) &&& 0x3f).toInt64) ||| ((own_F16 (cs10.getD 3 0)).toInt64)) <<< ((6 : Int32) &&& 0x3f).toInt64) ||| ((own_F16 (cs10.getD 4 0)).toInt64)) <<< ((6 : Int32) &&& 0x3f).toInt64) ||| ((own_F16 (cs10.getD 5 0)).toInt64)) <<< ((6 : Int32) &&& 0x3f).toInt64) ||| ((own_F16 (cs10.getD 6 0)).toInt64)) <<< ((6 : Int32) &&& 0x3f).toInt64) ||| ((own_F16 (cs10.getD 7 0)).toInt64)) <<< ((6 : Int32) &&& 0x3f).toInt64) ||| ((own_F16 (cs10.getD 8 0)).toInt64)) <<< ((6 : Int32) &&& 0x3f).toInt64) ||| ((own_F16 (cs10.getD 9 0)).toInt64))), .second, .val (.int (10 : Int32))] [(.int (10 : Int32)), (.ref a10_0), (.long ((((((((((((((((((((((0 : Int64) <<< ((6 : Int32) &&& 0x3f).toInt64) ||| ((own_F16 (cs10.getD 0 0)).toInt64)) <<< ((6 : Int32) &&& 0x3f).toInt64) ||| ((own_F16 (cs10.getD 1 0)).toInt64)) <<< ((6 : Int32) &&& 0x3f).toInt64) ||| ((own_F16 (cs10.getD 2 0)).toInt64)) <<< ((6 : Int32) &&& 0x3f).toInt64) ||| ((own_F16 (cs10.getD 3 0)).toInt64)) <<< ((6 : Int32) &&& 0x3f).toInt64) ||| ((own_F16 (cs10.getD 4 0)).toInt64)) <<< ((6 : Int32) &&& 0x3f).toInt64) ||| ((own_F16 (cs10.getD 5 0)).toInt64)) <<< ((6 : Int32) &&& 0x3f).toInt64) ||| ((own_F16 (cs10.getD 6 0)).toInt64)) <<< ((6 : Int32) &&& 0x3f).toInt64) ||| ((own_F16 (cs10.getD 7 0)).toInt64)) <<< ((6 : Int32) &&& 0x3f).toInt64) ||| ((own_F16 (cs10.getD 8 0)).toInt64)) <<< ((6 : Int32) &&& 0x3f).toInt64) ||| ((own_F16 (cs10.getD 9 0)).toInt64)) <<< ((4 : Int32) &&& 0x3f).toInt64))])) t
    exact k
  have hch47 : ∀ d ∈ StrChars.Road.wordsChN, d.before a0 Z = true := fun d hd => hw d ((by decide +kernel : ∀ d ∈ StrChars.Road.wordsChN, d ∈ tables_1) d hd)
  have hcd47 : StrChars.Road.CodA cs10 0 (22 : Int32) ((cs10.map (fun c => c.toInt8.toInt32)).map Value.int) := StrChars.Road.codOf (n := 22) HL10 (fun x hx => (HP10 x hx).2)
  obtain ⟨cq47, kq47, q47a, q47b, q47c⟩ := isOf hZ e45 E10
  obtain ⟨v47, _, ⟨T47, L47, k47, n47⟩, -, X47, ⟨Lc47, hQ47, l47, y47, z47⟩, st47⟩ := X45.virtualBack hx (y := (⟨"java/lang/String", "charAt", "(I)C"⟩ : MethodName)) (z := (⟨"java/lang/String", "charAt", "(I)C"⟩ : MethodName)) hown (mvT hZ (hw _ (List.mem_of_getElem? (i := 46) rfl))) (mvT hZ (hw _ (List.mem_of_getElem? (i := 47) rfl))) (notFace_of_selects (args := #[]) (mvT hZ (hw _ (List.mem_of_getElem? (i := 49) rfl)))) (mvT hZ (hw _ (List.mem_of_getElem? (i := 49) rfl))) (mvT hZ (hw _ (List.mem_of_getElem? (i := 48) rfl))) (by decide) (StrChars.Road.chN (W := 2) hZ hch47 (kI := 4) (hw _ (List.mem_of_getElem? (i := 14) rfl)) E10 V10 C10 K10 hcd47 (own_up _ HP10) (SC.ext O0.2) HCS (SFm.ext O0.2) HFm (by rw [HL10]; decide) (i := 10) (by rw [HL10]; decide) (j := (10 : Int32)) rfl (by decide) (by decide)) q47a q47c (g := (mkF m 37 #[.val (.ref a10_0), .val (.long (((((((((((((((((((((0 : Int64) <<< ((6 : Int32) &&& 0x3f).toInt64) ||| ((own_F16 (cs10.getD 0 0)).toInt64)) <<< ((6 : Int32) &&& 0x3f).toInt64) ||| ((own_F16 (cs10.getD 1 0)).toInt64)) <<< ((6 : Int32) &&& 0x3f).toInt64) ||| ((own_F16 (cs10.getD 2 0)).toInt64)) <<< ((6 : Int32) &&& 0x3f).toInt64) ||| ((own_F16 (cs10.getD 3 0)).toInt64)) <<< ((6 : Int32) &&& 0x3f).toInt64) ||| ((own_F16 (cs10.getD 4 0)).toInt64)) <<< ((6 : Int32) &&& 0x3f).toInt64) ||| ((own_F16 (cs10.getD 5 0)).toInt64)) <<< ((6 : Int32) &&& 0x3f).toInt64) ||| ((own_F16 (cs10.getD 6 0)).toInt64)) <<< ((6 : Int32) &&& 0x3f).toInt64) ||| ((own_F16 (cs10.getD 7 0)).toInt64)) <<< ((6 : Int32) &&& 0x3f).toInt64) ||| ((own_F16 (cs10.getD 8 0)).toInt64)) <<< ((6 : Int32) &&& 0x3f).toInt64) ||| ((own_F16 (cs10.getD 9 0)).toInt64))), .second, .val (.int (10 : Int32))] [(.int (10 : Int32)), (.ref a10_0), (.long ((((((((((((((((((((((0 : Int64) <<< ((6 : Int32) &&& 0x3f).toInt64) ||| ((own_F16 (cs10.getD 0 0)).toInt64)) <<< ((6 : Int32) &&& 0x3f).toInt64) ||| ((own_F16 (cs10.getD 1 0)).toInt64)) <<< ((6 : Int32) &&& 0x3f).toInt64) ||| ((own_F16 (cs10.getD 2 0)).toInt64)) <<< ((6 : Int32) &&& 0x3f).toInt64) ||| ((own_F16 (cs10.getD 3 0)).toInt64)) <<< ((6 : Int32) &&& 0x3f).toInt64) ||| ((own_F16 (cs10.getD 4 0)).toInt64)) <<< ((6 : Int32) &&& 0x3f).toInt64) ||| ((own_F16 (cs10.getD 5 0)).toInt64)) <<< ((6 : Int32) &&& 0x3f).toInt64) ||| ((own_F16 (cs10.getD 6 0)).toInt64)) <<< ((6 : Int32) &&& 0x3f).toInt64) ||| ((own_F16 (cs10.getD 7 0)).toInt64)) <<< ((6 : Int32) &&& 0x3f).toInt64) ||| ((own_F16 (cs10.getD 8 0)).toInt64)) <<< ((6 : Int32) &&& 0x3f).toInt64) ||| ((own_F16 (cs10.getD 9 0)).toInt64)) <<< ((4 : Int32) &&& 0x3f).toInt64))])) rfl (by rw [hml]; rfl) (Steps.refl _) (argsL := [(.int (10 : Int32))]) (rest := [(.long ((((((((((((((((((((((0 : Int64) <<< ((6 : Int32) &&& 0x3f).toInt64) ||| ((own_F16 (cs10.getD 0 0)).toInt64)) <<< ((6 : Int32) &&& 0x3f).toInt64) ||| ((own_F16 (cs10.getD 1 0)).toInt64)) <<< ((6 : Int32) &&& 0x3f).toInt64) ||| ((own_F16 (cs10.getD 2 0)).toInt64)) <<< ((6 : Int32) &&& 0x3f).toInt64) ||| ((own_F16 (cs10.getD 3 0)).toInt64)) <<< ((6 : Int32) &&& 0x3f).toInt64) ||| ((own_F16 (cs10.getD 4 0)).toInt64)) <<< ((6 : Int32) &&& 0x3f).toInt64) ||| ((own_F16 (cs10.getD 5 0)).toInt64)) <<< ((6 : Int32) &&& 0x3f).toInt64) ||| ((own_F16 (cs10.getD 6 0)).toInt64)) <<< ((6 : Int32) &&& 0x3f).toInt64) ||| ((own_F16 (cs10.getD 7 0)).toInt64)) <<< ((6 : Int32) &&& 0x3f).toInt64) ||| ((own_F16 (cs10.getD 8 0)).toInt64)) <<< ((6 : Int32) &&& 0x3f).toInt64) ||| ((own_F16 (cs10.getD 9 0)).toInt64)) <<< ((4 : Int32) &&& 0x3f).toInt64))]) (lenOf pd__I_C rfl) rfl (by show 2 * 0 + _ ≤ _; exact Nat.le_of_eq rfl) (hb hby d10_37) (fun _ _ => ⟨rfl, e45, (by decide : 0 + 0 ≤ _), (by decide : 0 + 0 ≤ _)⟩)
  dsimp only [Pt.U, Pt.locs, Pt.cells, Pt.slots] at X47 l47 y47 z47 st47 hQ47
  subst y47 z47
  obtain ⟨rfl, rfl, e47⟩ := hQ47
  have N48 : Fr n0 L47 := by rw [l47]; exact Fr.app N46 (Fr.nil n0)
  refine own_via (T' := T47) (g' := (mkF m 40 #[.val (.ref a10_0), .val (.long (((((((((((((((((((((0 : Int64) <<< ((6 : Int32) &&& 0x3f).toInt64) ||| ((own_F16 (cs10.getD 0 0)).toInt64)) <<< ((6 : Int32) &&& 0x3f).toInt64) ||| ((own_F16 (cs10.getD 1 0)).toInt64)) <<< ((6 : Int32) &&& 0x3f).toInt64) ||| ((own_F16 (cs10.getD 2 0)).toInt64)) <<< ((6 : Int32) &&& 0x3f).toInt64) ||| ((own_F16 (cs10.getD 3 0)).toInt64)) <<< ((6 : Int32) &&& 0x3f).toInt64) ||| ((own_F16 (cs10.getD 4 0)).toInt64)) <<< ((6 : Int32) &&& 0x3f).toInt64) ||| ((own_F16 (cs10.getD 5 0)).toInt64)) <<< ((6 : Int32) &&& 0x3f).toInt64) ||| ((own_F16 (cs10.getD 6 0)).toInt64)) <<< ((6 : Int32) &&& 0x3f).toInt64) ||| ((own_F16 (cs10.getD 7 0)).toInt64)) <<< ((6 : Int32) &&& 0x3f).toInt64) ||| ((own_F16 (cs10.getD 8 0)).toInt64)) <<< ((6 : Int32) &&& 0x3f).toInt64) ||| ((own_F16 (cs10.getD 9 0)).toInt64))), .second, .val (.int (10 : Int32))] [(.int (cs10.getD 10 0)), (.long ((((((((((((((((((((((0 : Int64) <<< ((6 : Int32) &&& 0x3f).toInt64) ||| ((own_F16 (cs10.getD 0 0)).toInt64)) <<< ((6 : Int32) &&& 0x3f).toInt64) ||| ((own_F16 (cs10.getD 1 0)).toInt64)) <<< ((6 : Int32) &&& 0x3f).toInt64) ||| ((own_F16 (cs10.getD 2 0)).toInt64)) <<< ((6 : Int32) &&& 0x3f).toInt64) ||| ((own_F16 (cs10.getD 3 0)).toInt64)) <<< ((6 : Int32) &&& 0x3f).toInt64) ||| ((own_F16 (cs10.getD 4 0)).toInt64)) <<< ((6 : Int32) &&& 0x3f).toInt64) ||| ((own_F16 (cs10.getD 5 0)).toInt64)) <<< ((6 : Int32) &&& 0x3f).toInt64) ||| ((own_F16 (cs10.getD 6 0)).toInt64)) <<< ((6 : Int32) &&& 0x3f).toInt64) ||| ((own_F16 (cs10.getD 7 0)).toInt64)) <<< ((6 : Int32) &&& 0x3f).toInt64) ||| ((own_F16 (cs10.getD 8 0)).toInt64)) <<< ((6 : Int32) &&& 0x3f).toInt64) ||| ((own_F16 (cs10.getD 9 0)).toInt64)) <<< ((4 : Int32) &&& 0x3f).toInt64))])) st47 ?_
  obtain ⟨v49, _, ⟨T49, L49, k49, n49⟩, -, X49, ⟨Lc49, hQ49, l49, y49, z49⟩, st49⟩ := Jvm.LawKit.callS X47 hx (y := (⟨"com/example/vacant_errand/vacanterrand/PackedId", "place", "(C)I"⟩ : MethodName)) hown (mvT hZ (hw _ (List.mem_of_getElem? (i := 68) rfl))) (mvT hZ (hw _ (List.mem_of_getElem? (i := 69) rfl))) (mvT hZ (hw _ (List.mem_of_getElem? (i := 44) rfl))) (mvT hZ (hw _ (List.mem_of_getElem? (i := 70) rfl))) (by decide) (backOf (W := 2) (own_rm16 l Z a0 hw [] (cs10.getD 10 0) wPL cPL h0 n0 Z0 O0 (HP10 _ (own_mem cs10 HL10 10 (by decide))).1 SPL TPL) hZ (hw _ (List.mem_of_getElem? (i := 70) rfl)) (hw _ (List.mem_of_getElem? (i := 44) rfl)) (by decide) (by decide)) (g := (mkF m 40 #[.val (.ref a10_0), .val (.long (((((((((((((((((((((0 : Int64) <<< ((6 : Int32) &&& 0x3f).toInt64) ||| ((own_F16 (cs10.getD 0 0)).toInt64)) <<< ((6 : Int32) &&& 0x3f).toInt64) ||| ((own_F16 (cs10.getD 1 0)).toInt64)) <<< ((6 : Int32) &&& 0x3f).toInt64) ||| ((own_F16 (cs10.getD 2 0)).toInt64)) <<< ((6 : Int32) &&& 0x3f).toInt64) ||| ((own_F16 (cs10.getD 3 0)).toInt64)) <<< ((6 : Int32) &&& 0x3f).toInt64) ||| ((own_F16 (cs10.getD 4 0)).toInt64)) <<< ((6 : Int32) &&& 0x3f).toInt64) ||| ((own_F16 (cs10.getD 5 0)).toInt64)) <<< ((6 : Int32) &&& 0x3f).toInt64) ||| ((own_F16 (cs10.getD 6 0)).toInt64)) <<< ((6 : Int32) &&& 0x3f).toInt64) ||| ((own_F16 (cs10.getD 7 0)).toInt64)) <<< ((6 : Int32) &&& 0x3f).toInt64) ||| ((own_F16 (cs10.getD 8 0)).toInt64)) <<< ((6 : Int32) &&& 0x3f).toInt64) ||| ((own_F16 (cs10.getD 9 0)).toInt64))), .second, .val (.int (10 : Int32))] [(.int (cs10.getD 10 0)), (.long ((((((((((((((((((((((0 : Int64) <<< ((6 : Int32) &&& 0x3f).toInt64) ||| ((own_F16 (cs10.getD 0 0)).toInt64)) <<< ((6 : Int32) &&& 0x3f).toInt64) ||| ((own_F16 (cs10.getD 1 0)).toInt64)) <<< ((6 : Int32) &&& 0x3f).toInt64) ||| ((own_F16 (cs10.getD 2 0)).toInt64)) <<< ((6 : Int32) &&& 0x3f).toInt64) ||| ((own_F16 (cs10.getD 3 0)).toInt64)) <<< ((6 : Int32) &&& 0x3f).toInt64) ||| ((own_F16 (cs10.getD 4 0)).toInt64)) <<< ((6 : Int32) &&& 0x3f).toInt64) ||| ((own_F16 (cs10.getD 5 0)).toInt64)) <<< ((6 : Int32) &&& 0x3f).toInt64) ||| ((own_F16 (cs10.getD 6 0)).toInt64)) <<< ((6 : Int32) &&& 0x3f).toInt64) ||| ((own_F16 (cs10.getD 7 0)).toInt64)) <<< ((6 : Int32) &&& 0x3f).toInt64) ||| ((own_F16 (cs10.getD 8 0)).toInt64)) <<< ((6 : Int32) &&& 0x3f).toInt64) ||| ((own_F16 (cs10.getD 9 0)).toInt64)) <<< ((4 : Int32) &&& 0x3f).toInt64))])) rfl (by rw [hml]; rfl) (argsL := [(.int (cs10.getD 10 0))]) (rest := [(.long ((((((((((((((((((((((0 : Int64) <<< ((6 : Int32) &&& 0x3f).toInt64) ||| ((own_F16 (cs10.getD 0 0)).toInt64)) <<< ((6 : Int32) &&& 0x3f).toInt64) ||| ((own_F16 (cs10.getD 1 0)).toInt64)) <<< ((6 : Int32) &&& 0x3f).toInt64) ||| ((own_F16 (cs10.getD 2 0)).toInt64)) <<< ((6 : Int32) &&& 0x3f).toInt64) ||| ((own_F16 (cs10.getD 3 0)).toInt64)) <<< ((6 : Int32) &&& 0x3f).toInt64) ||| ((own_F16 (cs10.getD 4 0)).toInt64)) <<< ((6 : Int32) &&& 0x3f).toInt64) ||| ((own_F16 (cs10.getD 5 0)).toInt64)) <<< ((6 : Int32) &&& 0x3f).toInt64) ||| ((own_F16 (cs10.getD 6 0)).toInt64)) <<< ((6 : Int32) &&& 0x3f).toInt64) ||| ((own_F16 (cs10.getD 7 0)).toInt64)) <<< ((6 : Int32) &&& 0x3f).toInt64) ||| ((own_F16 (cs10.getD 8 0)).toInt64)) <<< ((6 : Int32) &&& 0x3f).toInt64) ||| ((own_F16 (cs10.getD 9 0)).toInt64)) <<< ((4 : Int32) &&& 0x3f).toInt64))]) (lenOf pd__C_I rfl) rfl (by show 2 * 0 + _ ≤ _; exact Nat.le_of_eq rfl) (hb hby d10_40) (fun _ _ => ⟨rfl, e47, (by decide : 0 + 0 ≤ _), (by decide : 0 + 0 ≤ _)⟩)
  dsimp only [Pt.U, Pt.locs, Pt.cells, Pt.slots] at X49 l49 y49 z49 st49 hQ49
  subst y49 z49
  obtain ⟨rfl, M49, e49⟩ := hQ49
  have N50 : Fr n0 L49 := by rw [l49]; exact Fr.app N48 M49
  refine own_by (T' := T49) (g' := (mkF m 43 #[.val (.ref a10_0), .val (.long (((((((((((((((((((((0 : Int64) <<< ((6 : Int32) &&& 0x3f).toInt64) ||| ((own_F16 (cs10.getD 0 0)).toInt64)) <<< ((6 : Int32) &&& 0x3f).toInt64) ||| ((own_F16 (cs10.getD 1 0)).toInt64)) <<< ((6 : Int32) &&& 0x3f).toInt64) ||| ((own_F16 (cs10.getD 2 0)).toInt64)) <<< ((6 : Int32) &&& 0x3f).toInt64) ||| ((own_F16 (cs10.getD 3 0)).toInt64)) <<< ((6 : Int32) &&& 0x3f).toInt64) ||| ((own_F16 (cs10.getD 4 0)).toInt64)) <<< ((6 : Int32) &&& 0x3f).toInt64) ||| ((own_F16 (cs10.getD 5 0)).toInt64)) <<< ((6 : Int32) &&& 0x3f).toInt64) ||| ((own_F16 (cs10.getD 6 0)).toInt64)) <<< ((6 : Int32) &&& 0x3f).toInt64) ||| ((own_F16 (cs10.getD 7 0)).toInt64)) <<< ((6 : Int32) &&& 0x3f).toInt64) ||| ((own_F16 (cs10.getD 8 0)).toInt64)) <<< ((6 : Int32) &&& 0x3f).toInt64) ||| ((own_F16 (cs10.getD 9 0)).toInt64))), .second, .val (.int (10 : Int32))] [(.int (own_F16 (cs10.getD 10 0))), (.long ((((((((((((((((((((((0 : Int64) <<< ((6 : Int32) &&& 0x3f).toInt64) ||| ((own_F16 (cs10.getD 0 0)).toInt64)) <<< ((6 : Int32) &&& 0x3f).toInt64) ||| ((own_F16 (cs10.getD 1 0)).toInt64)) <<< ((6 : Int32) &&& 0x3f).toInt64) ||| ((own_F16 (cs10.getD 2 0)).toInt64)) <<< ((6 : Int32) &&& 0x3f).toInt64) ||| ((own_F16 (cs10.getD 3 0)).toInt64)) <<< ((6 : Int32) &&& 0x3f).toInt64) ||| ((own_F16 (cs10.getD 4 0)).toInt64)) <<< ((6 : Int32) &&& 0x3f).toInt64) ||| ((own_F16 (cs10.getD 5 0)).toInt64)) <<< ((6 : Int32) &&& 0x3f).toInt64) ||| ((own_F16 (cs10.getD 6 0)).toInt64)) <<< ((6 : Int32) &&& 0x3f).toInt64) ||| ((own_F16 (cs10.getD 7 0)).toInt64)) <<< ((6 : Int32) &&& 0x3f).toInt64) ||| ((own_F16 (cs10.getD 8 0)).toInt64)) <<< ((6 : Int32) &&& 0x3f).toInt64) ||| ((own_F16 (cs10.getD 9 0)).toInt64)) <<< ((4 : Int32) &&& 0x3f).toInt64))])) st49 ?_
  refine own_by (T' := T49) (g' := (mkF m 47 #[.val (.ref a10_0), .val (.long (((((((((((((((((((((0 : Int64) <<< ((6 : Int32) &&& 0x3f).toInt64) ||| ((own_F16 (cs10.getD 0 0)).toInt64)) <<< ((6 : Int32) &&& 0x3f).toInt64) ||| ((own_F16 (cs10.getD 1 0)).toInt64)) <<< ((6 : Int32) &&& 0x3f).toInt64) ||| ((own_F16 (cs10.getD 2 0)).toInt64)) <<< ((6 : Int32) &&& 0x3f).toInt64) ||| ((own_F16 (cs10.getD 3 0)).toInt64)) <<< ((6 : Int32) &&& 0x3f).toInt64) ||| ((own_F16 (cs10.getD 4 0)).toInt64)) <<< ((6 : Int32) &&& 0x3f).toInt64) ||| ((own_F16 (cs10.getD 5 0)).toInt64)) <<< ((6 : Int32) &&& 0x3f).toInt64) ||| ((own_F16 (cs10.getD 6 0)).toInt64)) <<< ((6 : Int32) &&& 0x3f).toInt64) ||| ((own_F16 (cs10.getD 7 0)).toInt64)) <<< ((6 : Int32) &&& 0x3f).toInt64) ||| ((own_F16 (cs10.getD 8 0)).toInt64)) <<< ((6 : Int32) &&& 0x3f).toInt64) ||| ((own_F16 (cs10.getD 9 0)).toInt64))), .second, .val (.int (10 : Int32))] [(.long (((((((((((((((((((((((0 : Int64) <<< ((6 : Int32) &&& 0x3f).toInt64) ||| ((own_F16 (cs10.getD 0 0)).toInt64)) <<< ((6 : Int32) &&& 0x3f).toInt64) ||| ((own_F16 (cs10.getD 1 0)).toInt64)) <<< ((6 : Int32) &&& 0x3f).toInt64) ||| ((own_F16 (cs10.getD 2 0)).toInt64)) <<< ((6 : Int32) &&& 0x3f).toInt64) ||| ((own_F16 (cs10.getD 3 0)).toInt64)) <<< ((6 : Int32) &&& 0x3f).toInt64) ||| ((own_F16 (cs10.getD 4 0)).toInt64)) <<< ((6 : Int32) &&& 0x3f).toInt64) ||| ((own_F16 (cs10.getD 5 0)).toInt64)) <<< ((6 : Int32) &&& 0x3f).toInt64) ||| ((own_F16 (cs10.getD 6 0)).toInt64)) <<< ((6 : Int32) &&& 0x3f).toInt64) ||| ((own_F16 (cs10.getD 7 0)).toInt64)) <<< ((6 : Int32) &&& 0x3f).toInt64) ||| ((own_F16 (cs10.getD 8 0)).toInt64)) <<< ((6 : Int32) &&& 0x3f).toInt64) ||| ((own_F16 (cs10.getD 9 0)).toInt64)) <<< ((4 : Int32) &&& 0x3f).toInt64) ||| ((((own_F16 (cs10.getD 10 0)).toUInt32 >>> ((2 : Int32) &&& 31).toUInt32).toInt32).toInt64)))])) (fun t k => ?_) ?_
  · show Steps p.tables e below (T49.setTop (mkF m 43 #[.val (.ref a10_0), .val (.long (((((((((((((((((((((0 : Int64) <<< ((6 : Int32) &&& 0x3f).toInt64) ||| ((own_F16 (cs10.getD 0 0)).toInt64)) <<< ((6 : Int32) &&& 0x3f).toInt64) ||| ((own_F16 (cs10.getD 1 0)).toInt64)) <<< ((6 : Int32) &&& 0x3f).toInt64) ||| ((own_F16 (cs10.getD 2 0)).toInt64)) <<< ((6 : Int32) &&& 0x3f).toInt64) ||| ((own_F16 (cs10.getD 3 0)).toInt64)) <<< ((6 : Int32) &&& 0x3f).toInt64) ||| ((own_F16 (cs10.getD 4 0)).toInt64)) <<< ((6 : Int32) &&& 0x3f).toInt64) ||| ((own_F16 (cs10.getD 5 0)).toInt64)) <<< ((6 : Int32) &&& 0x3f).toInt64) ||| ((own_F16 (cs10.getD 6 0)).toInt64)) <<< ((6 : Int32) &&& 0x3f).toInt64) ||| ((own_F16 (cs10.getD 7 0)).toInt64)) <<< ((6 : Int32) &&& 0x3f).toInt64) ||| ((own_F16 (cs10.getD 8 0)).toInt64)) <<< ((6 : Int32) &&& 0x3f).toInt64) ||| ((own_F16 (cs10.getD 9 0)).toInt64))), .second, .val (.int (10 : Int32))] [(.int (own_F16 (cs10.getD 10 0))), (.long ((((((((((((((((((((((0 : Int64) <<< ((6 : Int32) &&& 0x3f).toInt64) ||| ((own_F16 (cs10.getD 0 0)).toInt64)) <<< ((6 : Int32) &&& 0x3f).toInt64) ||| ((own_F16 (cs10.getD 1 0)).toInt64)) <<< ((6 : Int32) &&& 0x3f).toInt64) ||| ((own_F16 (cs10.getD 2 0)).toInt64)) <<< ((6 : Int32) &&& 0x3f).toInt64) ||| ((own_F16 (cs10.getD 3 0)).toInt64)) <<< ((6 : Int32) &&& 0x3f).toInt64) ||| ((own_F16 (cs10.getD 4 0)).toInt64)) <<< ((6 : Int32) &&& 0x3f).toInt64) ||| ((own_F16 (cs10.getD 5 0)).toInt64)) <<< ((6 : Int32) &&& 0x3f).toInt64) ||| ((own_F16 (cs10.getD 6 0)).toInt64)) <<< ((6 : Int32) &&& 0x3f).toInt64) ||| ((own_F16 (cs10.getD 7 0)).toInt64)) <<< ((6 : Int32) &&& 0x3f).toInt64) ||| ((own_F16 (cs10.getD 8 0)).toInt64)) <<< ((6 : Int32) &&& 0x3f).toInt64) ||| ((own_F16 (cs10.getD 9 0)).toInt64)) <<< ((4 : Int32) &&& 0x3f).toInt64))])) t
    refine XS.iconst X49.here hx rfl (hb hby d10_43) ?_
    show Steps p.tables e below (T49.setTop (mkF m 44 #[.val (.ref a10_0), .val (.long (((((((((((((((((((((0 : Int64) <<< ((6 : Int32) &&& 0x3f).toInt64) ||| ((own_F16 (cs10.getD 0 0)).toInt64)) <<< ((6 : Int32) &&& 0x3f).toInt64) ||| ((own_F16 (cs10.getD 1 0)).toInt64)) <<< ((6 : Int32) &&& 0x3f).toInt64) ||| ((own_F16 (cs10.getD 2 0)).toInt64)) <<< ((6 : Int32) &&& 0x3f).toInt64) ||| ((own_F16 (cs10.getD 3 0)).toInt64)) <<< ((6 : Int32) &&& 0x3f).toInt64) ||| ((own_F16 (cs10.getD 4 0)).toInt64)) <<< ((6 : Int32) &&& 0x3f).toInt64) ||| ((own_F16 (cs10.getD 5 0)).toInt64)) <<< ((6 : Int32) &&& 0x3f).toInt64) ||| ((own_F16 (cs10.getD 6 0)).toInt64)) <<< ((6 : Int32) &&& 0x3f).toInt64) ||| ((own_F16 (cs10.getD 7 0)).toInt64)) <<< ((6 : Int32) &&& 0x3f).toInt64) ||| ((own_F16 (cs10.getD 8 0)).toInt64)) <<< ((6 : Int32) &&& 0x3f).toInt64) ||| ((own_F16 (cs10.getD 9 0)).toInt64))), .second, .val (.int (10 : Int32))] [(.int (2 : Int32)), (.int (own_F16 (cs10.getD 10 0))), (.long ((((((((((((((((((((((0 : Int64) <<< ((6 : Int32) &&& 0x3f).toInt64) ||| ((own_F16 (cs10.getD 0 0)).toInt64)) <<< ((6 : Int32) &&& 0x3f).toInt64) ||| ((own_F16 (cs10.getD 1 0)).toInt64)) <<< ((6 : Int32) &&& 0x3f).toInt64) ||| ((own_F16 (cs10.getD 2 0)).toInt64)) <<< ((6 : Int32) &&& 0x3f).toInt64) ||| ((own_F16 (cs10.getD 3 0)).toInt64)) <<< ((6 : Int32) &&& 0x3f).toInt64) ||| ((own_F16 (cs10.getD 4 0)).toInt64)) <<< ((6 : Int32) &&& 0x3f).toInt64) ||| ((own_F16 (cs10.getD 5 0)).toInt64)) <<< ((6 : Int32) &&& 0x3f).toInt64) ||| ((own_F16 (cs10.getD 6 0)).toInt64)) <<< ((6 : Int32) &&& 0x3f).toInt64) ||| ((own_F16 (cs10.getD 7 0)).toInt64)) <<< ((6 : Int32) &&& 0x3f).toInt64) ||| ((own_F16 (cs10.getD 8 0)).toInt64)) <<< ((6 : Int32) &&& 0x3f).toInt64) ||| ((own_F16 (cs10.getD 9 0)).toInt64)) <<< ((4 : Int32) &&& 0x3f).toInt64))])) t
    refine XS.iushr X49.here hx rfl (hb hby d10_44) rfl ?_
    show Steps p.tables e below (T49.setTop (mkF m 45 #[.val (.ref a10_0), .val (.long (((((((((((((((((((((0 : Int64) <<< ((6 : Int32) &&& 0x3f).toInt64) ||| ((own_F16 (cs10.getD 0 0)).toInt64)) <<< ((6 : Int32) &&& 0x3f).toInt64) ||| ((own_F16 (cs10.getD 1 0)).toInt64)) <<< ((6 : Int32) &&& 0x3f).toInt64) ||| ((own_F16 (cs10.getD 2 0)).toInt64)) <<< ((6 : Int32) &&& 0x3f).toInt64) ||| ((own_F16 (cs10.getD 3 0)).toInt64)) <<< ((6 : Int32) &&& 0x3f).toInt64) ||| ((own_F16 (cs10.getD 4 0)).toInt64)) <<< ((6 : Int32) &&& 0x3f).toInt64) ||| ((own_F16 (cs10.getD 5 0)).toInt64)) <<< ((6 : Int32) &&& 0x3f).toInt64) ||| ((own_F16 (cs10.getD 6 0)).toInt64)) <<< ((6 : Int32) &&& 0x3f).toInt64) ||| ((own_F16 (cs10.getD 7 0)).toInt64)) <<< ((6 : Int32) &&& 0x3f).toInt64) ||| ((own_F16 (cs10.getD 8 0)).toInt64)) <<< ((6 : Int32) &&& 0x3f).toInt64) ||| ((own_F16 (cs10.getD 9 0)).toInt64))), .second, .val (.int (10 : Int32))] [(.int (((own_F16 (cs10.getD 10 0)).toUInt32 >>> ((2 : Int32) &&& 31).toUInt32).toInt32)), (.long ((((((((((((((((((((((0 : Int64) <<< ((6 : Int32) &&& 0x3f).toInt64) ||| ((own_F16 (cs10.getD 0 0)).toInt64)) <<< ((6 : Int32) &&& 0x3f).toInt64) ||| ((own_F16 (cs10.getD 1 0)).toInt64)) <<< ((6 : Int32) &&& 0x3f).toInt64) ||| ((own_F16 (cs10.getD 2 0)).toInt64)) <<< ((6 : Int32) &&& 0x3f).toInt64) ||| ((own_F16 (cs10.getD 3 0)).toInt64)) <<< ((6 : Int32) &&& 0x3f).toInt64) ||| ((own_F16 (cs10.getD 4 0)).toInt64)) <<< ((6 : Int32) &&& 0x3f).toInt64) ||| ((own_F16 (cs10.getD 5 0)).toInt64)) <<< ((6 : Int32) &&& 0x3f).toInt64) ||| ((own_F16 (cs10.getD 6 0)).toInt64)) <<< ((6 : Int32) &&& 0x3f).toInt64) ||| ((own_F16 (cs10.getD 7 0)).toInt64)) <<< ((6 : Int32) &&& 0x3f).toInt64) ||| ((own_F16 (cs10.getD 8 0)).toInt64)) <<< ((6 : Int32) &&& 0x3f).toInt64) ||| ((own_F16 (cs10.getD 9 0)).toInt64)) <<< ((4 : Int32) &&& 0x3f).toInt64))])) t
    refine XS.i2l X49.here hx rfl (hb hby d10_45) rfl ?_
    show Steps p.tables e below (T49.setTop (mkF m 46 #[.val (.ref a10_0), .val (.long (((((((((((((((((((((0 : Int64) <<< ((6 : Int32) &&& 0x3f).toInt64) ||| ((own_F16 (cs10.getD 0 0)).toInt64)) <<< ((6 : Int32) &&& 0x3f).toInt64) ||| ((own_F16 (cs10.getD 1 0)).toInt64)) <<< ((6 : Int32) &&& 0x3f).toInt64) ||| ((own_F16 (cs10.getD 2 0)).toInt64)) <<< ((6 : Int32) &&& 0x3f).toInt64) ||| ((own_F16 (cs10.getD 3 0)).toInt64)) <<< ((6 : Int32) &&& 0x3f).toInt64) ||| ((own_F16 (cs10.getD 4 0)).toInt64)) <<< ((6 : Int32) &&& 0x3f).toInt64) ||| ((own_F16 (cs10.getD 5 0)).toInt64)) <<< ((6 : Int32) &&& 0x3f).toInt64) ||| ((own_F16 (cs10.getD 6 0)).toInt64)) <<< ((6 : Int32) &&& 0x3f).toInt64) ||| ((own_F16 (cs10.getD 7 0)).toInt64)) <<< ((6 : Int32) &&& 0x3f).toInt64) ||| ((own_F16 (cs10.getD 8 0)).toInt64)) <<< ((6 : Int32) &&& 0x3f).toInt64) ||| ((own_F16 (cs10.getD 9 0)).toInt64))), .second, .val (.int (10 : Int32))] [(.long ((((own_F16 (cs10.getD 10 0)).toUInt32 >>> ((2 : Int32) &&& 31).toUInt32).toInt32).toInt64)), (.long ((((((((((((((((((((((0 : Int64) <<< ((6 : Int32) &&& 0x3f).toInt64) ||| ((own_F16 (cs10.getD 0 0)).toInt64)) <<< ((6 : Int32) &&& 0x3f).toInt64) ||| ((own_F16 (cs10.getD 1 0)).toInt64)) <<< ((6 : Int32) &&& 0x3f).toInt64) ||| ((own_F16 (cs10.getD 2 0)).toInt64)) <<< ((6 : Int32) &&& 0x3f).toInt64) ||| ((own_F16 (cs10.getD 3 0)).toInt64)) <<< ((6 : Int32) &&& 0x3f).toInt64) ||| ((own_F16 (cs10.getD 4 0)).toInt64)) <<< ((6 : Int32) &&& 0x3f).toInt64) ||| ((own_F16 (cs10.getD 5 0)).toInt64)) <<< ((6 : Int32) &&& 0x3f).toInt64) ||| ((own_F16 (cs10.getD 6 0)).toInt64)) <<< ((6 : Int32) &&& 0x3f).toInt64) ||| ((own_F16 (cs10.getD 7 0)).toInt64)) <<< ((6 : Int32) &&& 0x3f).toInt64) ||| ((own_F16 (cs10.getD 8 0)).toInt64)) <<< ((6 : Int32) &&& 0x3f).toInt64) ||| ((own_F16 (cs10.getD 9 0)).toInt64)) <<< ((4 : Int32) &&& 0x3f).toInt64))])) t
    refine XS.lor X49.here hx rfl (hb hby d10_46) rfl ?_
    show Steps p.tables e below (T49.setTop (mkF m 47 #[.val (.ref a10_0), .val (.long (((((((((((((((((((((0 : Int64) <<< ((6 : Int32) &&& 0x3f).toInt64) ||| ((own_F16 (cs10.getD 0 0)).toInt64)) <<< ((6 : Int32) &&& 0x3f).toInt64) ||| ((own_F16 (cs10.getD 1 0)).toInt64)) <<< ((6 : Int32) &&& 0x3f).toInt64) ||| ((own_F16 (cs10.getD 2 0)).toInt64)) <<< ((6 : Int32) &&& 0x3f).toInt64) ||| ((own_F16 (cs10.getD 3 0)).toInt64)) <<< ((6 : Int32) &&& 0x3f).toInt64) ||| ((own_F16 (cs10.getD 4 0)).toInt64)) <<< ((6 : Int32) &&& 0x3f).toInt64) ||| ((own_F16 (cs10.getD 5 0)).toInt64)) <<< ((6 : Int32) &&& 0x3f).toInt64) ||| ((own_F16 (cs10.getD 6 0)).toInt64)) <<< ((6 : Int32) &&& 0x3f).toInt64) ||| ((own_F16 (cs10.getD 7 0)).toInt64)) <<< ((6 : Int32) &&& 0x3f).toInt64) ||| ((own_F16 (cs10.getD 8 0)).toInt64)) <<< ((6 : Int32) &&& 0x3f).toInt64) ||| ((own_F16 (cs10.getD 9 0)).toInt64))), .second, .val (.int (10 : Int32))] [(.long (((((((((((((((((((((((0 : Int64) <<< ((6 : Int32) &&& 0x3f).toInt64) ||| ((own_F16 (cs10.getD 0 0)).toInt64)) <<< ((6 : Int32) &&& 0x3f).toInt64) ||| ((own_F16 (cs10.getD 1 0)).toInt64)) <<< ((6 : Int32) &&& 0x3f).toInt64) ||| ((own_F16 (cs10.getD 2 0)).toInt64)) <<< ((6 : Int32) &&& 0x3f).toInt64) ||| ((own_F16 (cs10.getD 3 0)).toInt64)) <<< ((6 : Int32) &&& 0x3f).toInt64) ||| ((own_F16 (cs10.getD 4 0)).toInt64)) <<< ((6 : Int32) &&& 0x3f).toInt64) ||| ((own_F16 (cs10.getD 5 0)).toInt64)) <<< ((6 : Int32) &&& 0x3f).toInt64) ||| ((own_F16 (cs10.getD 6 0)).toInt64)) <<< ((6 : Int32) &&& 0x3f).toInt64) ||| ((own_F16 (cs10.getD 7 0)).toInt64)) <<< ((6 : Int32) &&& 0x3f).toInt64) ||| ((own_F16 (cs10.getD 8 0)).toInt64)) <<< ((6 : Int32) &&& 0x3f).toInt64) ||| ((own_F16 (cs10.getD 9 0)).toInt64)) <<< ((4 : Int32) &&& 0x3f).toInt64) ||| ((((own_F16 (cs10.getD 10 0)).toUInt32 >>> ((2 : Int32) &&& 31).toUInt32).toInt32).toInt64)))])) t
    exact k
  rw [show own_F10 cs10 = (((((((((((((((((((((((0 : Int64) <<< ((6 : Int32) &&& 0x3f).toInt64) ||| ((own_F16 (cs10.getD 0 0)).toInt64)) <<< ((6 : Int32) &&& 0x3f).toInt64) ||| ((own_F16 (cs10.getD 1 0)).toInt64)) <<< ((6 : Int32) &&& 0x3f).toInt64) ||| ((own_F16 (cs10.getD 2 0)).toInt64)) <<< ((6 : Int32) &&& 0x3f).toInt64) ||| ((own_F16 (cs10.getD 3 0)).toInt64)) <<< ((6 : Int32) &&& 0x3f).toInt64) ||| ((own_F16 (cs10.getD 4 0)).toInt64)) <<< ((6 : Int32) &&& 0x3f).toInt64) ||| ((own_F16 (cs10.getD 5 0)).toInt64)) <<< ((6 : Int32) &&& 0x3f).toInt64) ||| ((own_F16 (cs10.getD 6 0)).toInt64)) <<< ((6 : Int32) &&& 0x3f).toInt64) ||| ((own_F16 (cs10.getD 7 0)).toInt64)) <<< ((6 : Int32) &&& 0x3f).toInt64) ||| ((own_F16 (cs10.getD 8 0)).toInt64)) <<< ((6 : Int32) &&& 0x3f).toInt64) ||| ((own_F16 (cs10.getD 9 0)).toInt64)) <<< ((4 : Int32) &&& 0x3f).toInt64) ||| ((((own_F16 (cs10.getD 10 0)).toUInt32 >>> ((2 : Int32) &&& 31).toUInt32).toInt32).toInt64)) from rfl]
  exact own_retJ X49 hx Bd.returns (hb hby d10_47) hlk (by decide) (by decide) ⟨rfl, N50, e49⟩
theorem d1_0 : decode method_4_code 0 = .ok (.lload_n 0, 1) := by decide +kernel
theorem d1_1 : decode method_4_code 1 = .ok (.iload_n 2, 1) := by decide +kernel
theorem d1_2 : decode method_4_code 2 = .ok (.lushr, 1) := by decide +kernel
theorem d1_3 : decode method_4_code 3 = .ok (.ldc2_w 7, 3) := by decide +kernel
theorem d1_6 : decode method_4_code 6 = .ok (.land, 1) := by decide +kernel
theorem d1_7 : decode method_4_code 7 = .ok (.l2i, 1) := by decide +kernel
theorem d1_8 : decode method_4_code 8 = .ok (.ireturn, 1) := by decide +kernel
theorem pn_com_example_vacant_errand_vacanterrand_PackedIdHighPinLaw : plainName "com/example/vacant_errand/vacanterrand/PackedIdHighPinLaw" = true := by first | (simp [plainName, overriddenIn]; done) | decide +kernel
def own_F1 (q1_0 : Int64) (p1_1 : Int32) : Int32 := ((((q1_0.toUInt64 >>> (p1_1 &&& 0x3f).toInt64.toUInt64).toInt64) &&& (63 : Int64)).toInt32)
theorem own_ef1 (m : MethodId) (x0 : Int64) (x1 : Int32) : entryFrame m #[(.long x0), (.int x1)] 3 = mkF m 0 #[.val (.long x0), .second, .val (.int x1)] [] := by first | (simp [entryFrame, mkF, argsToLocals, Value.category]; done) | rfl
def own_Q1 (r : Int32) (h0 : Heap) (n0 : Nat) (v : Option Value) (h : Heap) (L : List Loc) : Prop := v = some (.int r) ∧ Fr n0 L ∧ h = h0
set_option maxRecDepth 65536 in
set_option maxHeartbeats 40000000 in
theorem own_rm1 (l : Launch) (Z : State) (a0 : Array Value) (hw : ∀ d ∈ tables_1, d.before a0 Z = true) (ws : List Jvm.Cond) (q1_0 : Int64) (p1_1 : Int32) (h0 : Heap) (n0 : Nat) (Z0 : n0 ≤ h0.size) :
    MetFree l (⟨"com/example/vacant_errand/vacanterrand/PackedIdHighPinLaw", "six", "(JI)I"⟩ : MethodName) (head1 (Jvm.Cond.code (⟨"com/example/vacant_errand/vacanterrand/PackedIdHighPinLaw", "six", "(JI)I"⟩ : MethodName) method_4_code 3 (some .int) :: ws) ({ frames := 0, cells := 0, slots := 0, locals := 0 } : Room)) (fun a U => a = #[(.long q1_0), (.int p1_1)] ∧ Z.Warmed39 U.vm ∧ U.heap = h0) (fun _ _ _ _ _ => True) (fun _ U o U' => ∃ v L, o = .returned v ∧ own_Q1 (own_F1 q1_0 p1_1) h0 n0 v U'.heap L ∧ FrameEnd U o U' L ({ frames := 0, cells := 0, slots := 0, locals := 0 } : Room).cells ({ frames := 0, cells := 0, slots := 0, locals := 0 } : Room).slots) := by
  refine MetFree.of_bodySF (plainFor_of_name pn_com_example_vacant_errand_vacanterrand_PackedIdHighPinLaw) hisR ?_
  intro p e s m args below meth c s₁ Bd hml0 hP hK
  obtain ⟨rfl, hZ, hh⟩ := hP
  have hx := Bd.exec
  have hby := Bd.bytes
  have hlk : meth.locks = false := BodyLoose.notSynchronized Bd
  have hml : c.maxLocals = 3 := hml0
  have hown : s.vm.findClass "com/example/vacant_errand/vacanterrand/PackedIdHighPinLaw" = some m.cls := findClass_of_methodNamed Bd.named
  have hnm := (name_of_methodNamed Bd.named Bd.method).1
  have X0 : Stand p l e ({ frames := 0, cells := 0, slots := 0, locals := 0 } : Room) s m #[(.long q1_0), (.int p1_1)] below meth c s₁ [] 0 0 := Stand.of_body Bd
  have e0 : s₁.heap = h0 := by rw [← hh, Bd.state]; rfl
  have N0 := Fr.nil n0
  show own_Go p e below (own_P s below ({ frames := 0, cells := 0, slots := 0, locals := 0 } : Room) (own_Q1 (own_F1 q1_0 p1_1) h0 n0)) s₁ (entryFrame m #[(.long q1_0), (.int p1_1)] 3)
  refine own_in (own_ef1 m q1_0 p1_1) ?_
  refine own_by (T' := s₁) (g' := (mkF m 8 #[.val (.long q1_0), .second, .val (.int p1_1)] [(.int ((((q1_0.toUInt64 >>> (p1_1 &&& 0x3f).toInt64.toUInt64).toInt64) &&& (63 : Int64)).toInt32))])) (fun t k => ?_) ?_
  · show Steps p.tables e below (s₁.setTop (mkF m 0 #[.val (.long q1_0), .second, .val (.int p1_1)] [])) t
    refine XS.lloadN X0.here hx rfl (hb hby d1_0) rfl ?_
    show Steps p.tables e below (s₁.setTop (mkF m 1 #[.val (.long q1_0), .second, .val (.int p1_1)] [(.long q1_0)])) t
    refine XS.iloadN X0.here hx rfl (hb hby d1_1) rfl ?_
    show Steps p.tables e below (s₁.setTop (mkF m 2 #[.val (.long q1_0), .second, .val (.int p1_1)] [(.int p1_1), (.long q1_0)])) t
    refine XS.lushr X0.here hx rfl (hb hby d1_2) rfl ?_
    show Steps p.tables e below (s₁.setTop (mkF m 3 #[.val (.long q1_0), .second, .val (.int p1_1)] [(.long ((q1_0.toUInt64 >>> (p1_1 &&& 0x3f).toInt64.toUInt64).toInt64))])) t
    refine X0.ldc2Long hx hown (mvT hZ (hw _ (List.mem_of_getElem? (i := 5) rfl))) (g := (mkF m 3 #[.val (.long q1_0), .second, .val (.int p1_1)] [(.long ((q1_0.toUInt64 >>> (p1_1 &&& 0x3f).toInt64.toUInt64).toInt64))])) rfl (hb hby d1_3) _ ?_
    show Steps p.tables e below (s₁.setTop (mkF m 6 #[.val (.long q1_0), .second, .val (.int p1_1)] [(.long (63 : Int64)), (.long ((q1_0.toUInt64 >>> (p1_1 &&& 0x3f).toInt64.toUInt64).toInt64))])) t
    refine XS.land X0.here hx rfl (hb hby d1_6) rfl ?_
    show Steps p.tables e below (s₁.setTop (mkF m 7 #[.val (.long q1_0), .second, .val (.int p1_1)] [(.long (((q1_0.toUInt64 >>> (p1_1 &&& 0x3f).toInt64.toUInt64).toInt64) &&& (63 : Int64)))])) t
    refine XS.l2i X0.here hx rfl (hb hby d1_7) rfl ?_
    show Steps p.tables e below (s₁.setTop (mkF m 8 #[.val (.long q1_0), .second, .val (.int p1_1)] [(.int ((((q1_0.toUInt64 >>> (p1_1 &&& 0x3f).toInt64.toUInt64).toInt64) &&& (63 : Int64)).toInt32))])) t
    exact k
  rw [show own_F1 q1_0 p1_1 = ((((q1_0.toUInt64 >>> (p1_1 &&& 0x3f).toInt64.toUInt64).toInt64) &&& (63 : Int64)).toInt32) from rfl]
  exact own_retI X0 hx Bd.returns (hb hby d1_8) hlk (by decide) (by decide) ⟨rfl, N0, e0⟩
theorem d2_0 : decode method_2_code 0 = .ok (.iload_n 0, 1) := by decide +kernel
theorem d2_1 : decode method_2_code 1 = .ok (.ifCond .ne 6, 3) := by decide +kernel
theorem d2_4 : decode method_2_code 4 = .ok (.bipush 45, 2) := by decide +kernel
theorem d2_6 : decode method_2_code 6 = .ok (.ireturn, 1) := by decide +kernel
theorem d2_7 : decode method_2_code 7 = .ok (.iload_n 0, 1) := by decide +kernel
theorem d2_8 : decode method_2_code 8 = .ok (.bipush 11, 2) := by decide +kernel
theorem d2_10 : decode method_2_code 10 = .ok (.if_icmp .ge 11, 3) := by decide +kernel
theorem d2_13 : decode method_2_code 13 = .ok (.bipush 48, 2) := by decide +kernel
theorem d2_15 : decode method_2_code 15 = .ok (.iload_n 0, 1) := by decide +kernel
theorem d2_16 : decode method_2_code 16 = .ok (.iconst 1, 1) := by decide +kernel
theorem d2_17 : decode method_2_code 17 = .ok (.isub, 1) := by decide +kernel
theorem d2_18 : decode method_2_code 18 = .ok (.iadd, 1) := by decide +kernel
theorem d2_19 : decode method_2_code 19 = .ok (.i2c, 1) := by decide +kernel
theorem d2_20 : decode method_2_code 20 = .ok (.ireturn, 1) := by decide +kernel
theorem d2_21 : decode method_2_code 21 = .ok (.iload_n 0, 1) := by decide +kernel
theorem d2_22 : decode method_2_code 22 = .ok (.bipush 37, 2) := by decide +kernel
theorem d2_24 : decode method_2_code 24 = .ok (.if_icmp .ge 12, 3) := by decide +kernel
theorem d2_27 : decode method_2_code 27 = .ok (.bipush 65, 2) := by decide +kernel
theorem d2_29 : decode method_2_code 29 = .ok (.iload_n 0, 1) := by decide +kernel
theorem d2_30 : decode method_2_code 30 = .ok (.bipush 11, 2) := by decide +kernel
theorem d2_32 : decode method_2_code 32 = .ok (.isub, 1) := by decide +kernel
theorem d2_33 : decode method_2_code 33 = .ok (.iadd, 1) := by decide +kernel
theorem d2_34 : decode method_2_code 34 = .ok (.i2c, 1) := by decide +kernel
theorem d2_35 : decode method_2_code 35 = .ok (.ireturn, 1) := by decide +kernel
theorem d2_36 : decode method_2_code 36 = .ok (.iload_n 0, 1) := by decide +kernel
theorem d2_37 : decode method_2_code 37 = .ok (.bipush 37, 2) := by decide +kernel
theorem d2_39 : decode method_2_code 39 = .ok (.if_icmp .ne 6, 3) := by decide +kernel
theorem d2_42 : decode method_2_code 42 = .ok (.bipush 95, 2) := by decide +kernel
theorem d2_44 : decode method_2_code 44 = .ok (.ireturn, 1) := by decide +kernel
theorem d2_45 : decode method_2_code 45 = .ok (.bipush 97, 2) := by decide +kernel
theorem d2_47 : decode method_2_code 47 = .ok (.iload_n 0, 1) := by decide +kernel
theorem d2_48 : decode method_2_code 48 = .ok (.bipush 38, 2) := by decide +kernel
theorem d2_50 : decode method_2_code 50 = .ok (.isub, 1) := by decide +kernel
theorem d2_51 : decode method_2_code 51 = .ok (.iadd, 1) := by decide +kernel
theorem d2_52 : decode method_2_code 52 = .ok (.i2c, 1) := by decide +kernel
theorem d2_53 : decode method_2_code 53 = .ok (.ireturn, 1) := by decide +kernel
def own_F2 (p2_0 : Int32) : Int32 := (if p2_0 = (0 : Int32) then (45 : Int32) else (if p2_0 < (11 : Int32) then (nar .char (((48 : Int32) + (p2_0 - (1 : Int32))).toUInt32.toUInt16.toUInt32.toInt32)) else (if p2_0 < (37 : Int32) then (nar .char (((65 : Int32) + (p2_0 - (11 : Int32))).toUInt32.toUInt16.toUInt32.toInt32)) else (if p2_0 = (37 : Int32) then (95 : Int32) else (nar .char (((97 : Int32) + (p2_0 - (38 : Int32))).toUInt32.toUInt16.toUInt32.toInt32))))))
theorem own_ef2 (m : MethodId) (x0 : Int32) : entryFrame m #[(.int x0)] 1 = mkF m 0 #[.val (.int x0)] [] := by first | (simp [entryFrame, mkF, argsToLocals, Value.category]; done) | rfl
def own_Q2 (r : Int32) (h0 : Heap) (n0 : Nat) (v : Option Value) (h : Heap) (L : List Loc) : Prop := v = some (.int r) ∧ Fr n0 L ∧ h = h0
set_option maxRecDepth 65536 in
set_option maxHeartbeats 40000000 in
theorem own_rm2 (l : Launch) (Z : State) (a0 : Array Value) (hw : ∀ d ∈ tables_1, d.before a0 Z = true) (ws : List Jvm.Cond) (p2_0 : Int32) (h0 : Heap) (n0 : Nat) (Z0 : n0 ≤ h0.size) :
    MetFree l (⟨"com/example/vacant_errand/vacanterrand/PackedIdHighPinLaw", "c", "(I)C"⟩ : MethodName) (head1 (Jvm.Cond.code (⟨"com/example/vacant_errand/vacanterrand/PackedIdHighPinLaw", "c", "(I)C"⟩ : MethodName) method_2_code 1 (some .char) :: ws) ({ frames := 0, cells := 0, slots := 0, locals := 0 } : Room)) (fun a U => a = #[(.int p2_0)] ∧ Z.Warmed39 U.vm ∧ U.heap = h0) (fun _ _ _ _ _ => True) (fun _ U o U' => ∃ v L, o = .returned v ∧ own_Q2 (own_F2 p2_0) h0 n0 v U'.heap L ∧ FrameEnd U o U' L ({ frames := 0, cells := 0, slots := 0, locals := 0 } : Room).cells ({ frames := 0, cells := 0, slots := 0, locals := 0 } : Room).slots) := by
  refine MetFree.of_bodySF (plainFor_of_name pn_com_example_vacant_errand_vacanterrand_PackedIdHighPinLaw) hisR ?_
  intro p e s m args below meth c s₁ Bd hml0 hP hK
  obtain ⟨rfl, hZ, hh⟩ := hP
  have hx := Bd.exec
  have hby := Bd.bytes
  have hlk : meth.locks = false := BodyLoose.notSynchronized Bd
  have hml : c.maxLocals = 1 := hml0
  have hown : s.vm.findClass "com/example/vacant_errand/vacanterrand/PackedIdHighPinLaw" = some m.cls := findClass_of_methodNamed Bd.named
  have hnm := (name_of_methodNamed Bd.named Bd.method).1
  have X0 : Stand p l e ({ frames := 0, cells := 0, slots := 0, locals := 0 } : Room) s m #[(.int p2_0)] below meth c s₁ [] 0 0 := Stand.of_body Bd
  have e0 : s₁.heap = h0 := by rw [← hh, Bd.state]; rfl
  have N0 := Fr.nil n0
  show own_Go p e below (own_P s below ({ frames := 0, cells := 0, slots := 0, locals := 0 } : Room) (own_Q2 (own_F2 p2_0) h0 n0)) s₁ (entryFrame m #[(.int p2_0)] 1)
  refine own_in (own_ef2 m p2_0) ?_
  refine own_by (T' := s₁) (g' := (mkF m 1 #[.val (.int p2_0)] [(.int p2_0)])) (fun t k => ?_) ?_
  · show Steps p.tables e below (s₁.setTop (mkF m 0 #[.val (.int p2_0)] [])) t
    refine XS.iloadN X0.here hx rfl (hb hby d2_0) rfl ?_
    show Steps p.tables e below (s₁.setTop (mkF m 1 #[.val (.int p2_0)] [(.int p2_0)])) t
    exact k
  by_cases hc51 : p2_0 = (0 : Int32)
  · skip
    refine own_by (T' := s₁) (g' := (mkF m 6 #[.val (.int p2_0)] [(.int (45 : Int32))])) (fun t k => ?_) ?_
    · show Steps p.tables e below (s₁.setTop (mkF m 1 #[.val (.int p2_0)] [(.int p2_0)])) t
      refine XS.ifNo X0.here hx rfl (hb hby d2_1) rfl ((if0 _ _).trans (teq hc51).2) ?_
      show Steps p.tables e below (s₁.setTop (mkF m 4 #[.val (.int p2_0)] [])) t
      refine XS.bipush X0.here hx rfl (hb hby d2_4) ?_
      show Steps p.tables e below (s₁.setTop (mkF m 6 #[.val (.int p2_0)] [(.int (45 : Int32))])) t
      exact k
    rw [show own_F2 p2_0 = (45 : Int32) from ((if_pos hc51).trans rfl)]
    exact own_retN X0 hx (t := .char) Bd.returns (by simp) (hb hby d2_6) hlk (by decide) (by decide) ⟨rfl, N0, e0⟩
  · skip
    refine own_by (T' := s₁) (g' := (mkF m 10 #[.val (.int p2_0)] [(.int (11 : Int32)), (.int p2_0)])) (fun t k => ?_) ?_
    · show Steps p.tables e below (s₁.setTop (mkF m 1 #[.val (.int p2_0)] [(.int p2_0)])) t
      refine XS.ifYes X0.here hx rfl (pc0 := 1) (pc' := 7) rfl (hb hby d2_1) rfl ((if0 _ _).trans (feq hc51).2) (by decide) (by decide) ?_
      show Steps p.tables e below (s₁.setTop (mkF m 7 #[.val (.int p2_0)] [])) t
      refine XS.iloadN X0.here hx rfl (hb hby d2_7) rfl ?_
      show Steps p.tables e below (s₁.setTop (mkF m 8 #[.val (.int p2_0)] [(.int p2_0)])) t
      refine XS.bipush X0.here hx rfl (hb hby d2_8) ?_
      show Steps p.tables e below (s₁.setTop (mkF m 10 #[.val (.int p2_0)] [(.int (11 : Int32)), (.int p2_0)])) t
      exact k
    by_cases hc52 : p2_0 < (11 : Int32)
    · skip
      refine own_by (T' := s₁) (g' := (mkF m 20 #[.val (.int p2_0)] [(.int (((48 : Int32) + (p2_0 - (1 : Int32))).toUInt32.toUInt16.toUInt32.toInt32))])) (fun t k => ?_) ?_
      · show Steps p.tables e below (s₁.setTop (mkF m 10 #[.val (.int p2_0)] [(.int (11 : Int32)), (.int p2_0)])) t
        refine XS.icmpNo X0.here hx rfl (hb hby d2_10) rfl (tlt hc52).2.1 ?_
        show Steps p.tables e below (s₁.setTop (mkF m 13 #[.val (.int p2_0)] [])) t
        refine XS.bipush X0.here hx rfl (hb hby d2_13) ?_
        show Steps p.tables e below (s₁.setTop (mkF m 15 #[.val (.int p2_0)] [(.int (48 : Int32))])) t
        refine XS.iloadN X0.here hx rfl (hb hby d2_15) rfl ?_
        show Steps p.tables e below (s₁.setTop (mkF m 16 #[.val (.int p2_0)] [(.int p2_0), (.int (48 : Int32))])) t
        refine XS.iconst X0.here hx rfl (hb hby d2_16) ?_
        show Steps p.tables e below (s₁.setTop (mkF m 17 #[.val (.int p2_0)] [(.int (1 : Int32)), (.int p2_0), (.int (48 : Int32))])) t
        refine XS.isub X0.here hx rfl (hb hby d2_17) rfl ?_
        show Steps p.tables e below (s₁.setTop (mkF m 18 #[.val (.int p2_0)] [(.int (p2_0 - (1 : Int32))), (.int (48 : Int32))])) t
        refine XS.iadd X0.here hx rfl (hb hby d2_18) rfl ?_
        show Steps p.tables e below (s₁.setTop (mkF m 19 #[.val (.int p2_0)] [(.int ((48 : Int32) + (p2_0 - (1 : Int32))))])) t
        refine XS.i2c X0.here hx rfl (hb hby d2_19) rfl ?_
        show Steps p.tables e below (s₁.setTop (mkF m 20 #[.val (.int p2_0)] [(.int (((48 : Int32) + (p2_0 - (1 : Int32))).toUInt32.toUInt16.toUInt32.toInt32))])) t
        exact k
      rw [show own_F2 p2_0 = (nar .char (((48 : Int32) + (p2_0 - (1 : Int32))).toUInt32.toUInt16.toUInt32.toInt32)) from ((if_neg hc51).trans ((if_pos hc52).trans rfl))]
      exact own_retN X0 hx (t := .char) Bd.returns (by simp) (hb hby d2_20) hlk (by decide) (by decide) ⟨rfl, N0, e0⟩
    · skip
      refine own_by (T' := s₁) (g' := (mkF m 24 #[.val (.int p2_0)] [(.int (37 : Int32)), (.int p2_0)])) (fun t k => ?_) ?_
      · show Steps p.tables e below (s₁.setTop (mkF m 10 #[.val (.int p2_0)] [(.int (11 : Int32)), (.int p2_0)])) t
        refine XS.icmpYes X0.here hx rfl (pc0 := 10) (pc' := 21) rfl (hb hby d2_10) rfl (flt hc52).2.1 (by decide) (by decide) ?_
        show Steps p.tables e below (s₁.setTop (mkF m 21 #[.val (.int p2_0)] [])) t
        refine XS.iloadN X0.here hx rfl (hb hby d2_21) rfl ?_
        show Steps p.tables e below (s₁.setTop (mkF m 22 #[.val (.int p2_0)] [(.int p2_0)])) t
        refine XS.bipush X0.here hx rfl (hb hby d2_22) ?_
        show Steps p.tables e below (s₁.setTop (mkF m 24 #[.val (.int p2_0)] [(.int (37 : Int32)), (.int p2_0)])) t
        exact k
      by_cases hc53 : p2_0 < (37 : Int32)
      · skip
        refine own_by (T' := s₁) (g' := (mkF m 35 #[.val (.int p2_0)] [(.int (((65 : Int32) + (p2_0 - (11 : Int32))).toUInt32.toUInt16.toUInt32.toInt32))])) (fun t k => ?_) ?_
        · show Steps p.tables e below (s₁.setTop (mkF m 24 #[.val (.int p2_0)] [(.int (37 : Int32)), (.int p2_0)])) t
          refine XS.icmpNo X0.here hx rfl (hb hby d2_24) rfl (tlt hc53).2.1 ?_
          show Steps p.tables e below (s₁.setTop (mkF m 27 #[.val (.int p2_0)] [])) t
          refine XS.bipush X0.here hx rfl (hb hby d2_27) ?_
          show Steps p.tables e below (s₁.setTop (mkF m 29 #[.val (.int p2_0)] [(.int (65 : Int32))])) t
          refine XS.iloadN X0.here hx rfl (hb hby d2_29) rfl ?_
          show Steps p.tables e below (s₁.setTop (mkF m 30 #[.val (.int p2_0)] [(.int p2_0), (.int (65 : Int32))])) t
          refine XS.bipush X0.here hx rfl (hb hby d2_30) ?_
          show Steps p.tables e below (s₁.setTop (mkF m 32 #[.val (.int p2_0)] [(.int (11 : Int32)), (.int p2_0), (.int (65 : Int32))])) t
          refine XS.isub X0.here hx rfl (hb hby d2_32) rfl ?_
          show Steps p.tables e below (s₁.setTop (mkF m 33 #[.val (.int p2_0)] [(.int (p2_0 - (11 : Int32))), (.int (65 : Int32))])) t
          refine XS.iadd X0.here hx rfl (hb hby d2_33) rfl ?_
          show Steps p.tables e below (s₁.setTop (mkF m 34 #[.val (.int p2_0)] [(.int ((65 : Int32) + (p2_0 - (11 : Int32))))])) t
          refine XS.i2c X0.here hx rfl (hb hby d2_34) rfl ?_
          show Steps p.tables e below (s₁.setTop (mkF m 35 #[.val (.int p2_0)] [(.int (((65 : Int32) + (p2_0 - (11 : Int32))).toUInt32.toUInt16.toUInt32.toInt32))])) t
          exact k
        rw [show own_F2 p2_0 = (nar .char (((65 : Int32) + (p2_0 - (11 : Int32))).toUInt32.toUInt16.toUInt32.toInt32)) from ((if_neg hc51).trans ((if_neg hc52).trans ((if_pos hc53).trans rfl)))]
        exact own_retN X0 hx (t := .char) Bd.returns (by simp) (hb hby d2_35) hlk (by decide) (by decide) ⟨rfl, N0, e0⟩
      · skip
        refine own_by (T' := s₁) (g' := (mkF m 39 #[.val (.int p2_0)] [(.int (37 : Int32)), (.int p2_0)])) (fun t k => ?_) ?_
        · show Steps p.tables e below (s₁.setTop (mkF m 24 #[.val (.int p2_0)] [(.int (37 : Int32)), (.int p2_0)])) t
          refine XS.icmpYes X0.here hx rfl (pc0 := 24) (pc' := 36) rfl (hb hby d2_24) rfl (flt hc53).2.1 (by decide) (by decide) ?_
          show Steps p.tables e below (s₁.setTop (mkF m 36 #[.val (.int p2_0)] [])) t
          refine XS.iloadN X0.here hx rfl (hb hby d2_36) rfl ?_
          show Steps p.tables e below (s₁.setTop (mkF m 37 #[.val (.int p2_0)] [(.int p2_0)])) t
          refine XS.bipush X0.here hx rfl (hb hby d2_37) ?_
          show Steps p.tables e below (s₁.setTop (mkF m 39 #[.val (.int p2_0)] [(.int (37 : Int32)), (.int p2_0)])) t
          exact k
        by_cases hc54 : p2_0 = (37 : Int32)
        · skip
          refine own_by (T' := s₁) (g' := (mkF m 44 #[.val (.int p2_0)] [(.int (95 : Int32))])) (fun t k => ?_) ?_
          · show Steps p.tables e below (s₁.setTop (mkF m 39 #[.val (.int p2_0)] [(.int (37 : Int32)), (.int p2_0)])) t
            refine XS.icmpNo X0.here hx rfl (hb hby d2_39) rfl (teq hc54).2 ?_
            show Steps p.tables e below (s₁.setTop (mkF m 42 #[.val (.int p2_0)] [])) t
            refine XS.bipush X0.here hx rfl (hb hby d2_42) ?_
            show Steps p.tables e below (s₁.setTop (mkF m 44 #[.val (.int p2_0)] [(.int (95 : Int32))])) t
            exact k
          rw [show own_F2 p2_0 = (95 : Int32) from ((if_neg hc51).trans ((if_neg hc52).trans ((if_neg hc53).trans ((if_pos hc54).trans rfl))))]
          exact own_retN X0 hx (t := .char) Bd.returns (by simp) (hb hby d2_44) hlk (by decide) (by decide) ⟨rfl, N0, e0⟩
        · skip
          refine own_by (T' := s₁) (g' := (mkF m 53 #[.val (.int p2_0)] [(.int (((97 : Int32) + (p2_0 - (38 : Int32))).toUInt32.toUInt16.toUInt32.toInt32))])) (fun t k => ?_) ?_
          · show Steps p.tables e below (s₁.setTop (mkF m 39 #[.val (.int p2_0)] [(.int (37 : Int32)), (.int p2_0)])) t
            refine XS.icmpYes X0.here hx rfl (pc0 := 39) (pc' := 45) rfl (hb hby d2_39) rfl (feq hc54).2 (by decide) (by decide) ?_
            show Steps p.tables e below (s₁.setTop (mkF m 45 #[.val (.int p2_0)] [])) t
            refine XS.bipush X0.here hx rfl (hb hby d2_45) ?_
            show Steps p.tables e below (s₁.setTop (mkF m 47 #[.val (.int p2_0)] [(.int (97 : Int32))])) t
            refine XS.iloadN X0.here hx rfl (hb hby d2_47) rfl ?_
            show Steps p.tables e below (s₁.setTop (mkF m 48 #[.val (.int p2_0)] [(.int p2_0), (.int (97 : Int32))])) t
            refine XS.bipush X0.here hx rfl (hb hby d2_48) ?_
            show Steps p.tables e below (s₁.setTop (mkF m 50 #[.val (.int p2_0)] [(.int (38 : Int32)), (.int p2_0), (.int (97 : Int32))])) t
            refine XS.isub X0.here hx rfl (hb hby d2_50) rfl ?_
            show Steps p.tables e below (s₁.setTop (mkF m 51 #[.val (.int p2_0)] [(.int (p2_0 - (38 : Int32))), (.int (97 : Int32))])) t
            refine XS.iadd X0.here hx rfl (hb hby d2_51) rfl ?_
            show Steps p.tables e below (s₁.setTop (mkF m 52 #[.val (.int p2_0)] [(.int ((97 : Int32) + (p2_0 - (38 : Int32))))])) t
            refine XS.i2c X0.here hx rfl (hb hby d2_52) rfl ?_
            show Steps p.tables e below (s₁.setTop (mkF m 53 #[.val (.int p2_0)] [(.int (((97 : Int32) + (p2_0 - (38 : Int32))).toUInt32.toUInt16.toUInt32.toInt32))])) t
            exact k
          rw [show own_F2 p2_0 = (nar .char (((97 : Int32) + (p2_0 - (38 : Int32))).toUInt32.toUInt16.toUInt32.toInt32)) from ((if_neg hc51).trans ((if_neg hc52).trans ((if_neg hc53).trans ((if_neg hc54).trans rfl))))]
          exact own_retN X0 hx (t := .char) Bd.returns (by simp) (hb hby d2_53) hlk (by decide) (by decide) ⟨rfl, N0, e0⟩
theorem d3_0 : decode method_3_code 0 = .ok (.iload_n 0, 1) := by decide +kernel
theorem d3_1 : decode method_3_code 1 = .ok (.ifCond .ne 6, 3) := by decide +kernel
theorem d3_4 : decode method_3_code 4 = .ok (.bipush 65, 2) := by decide +kernel
theorem d3_6 : decode method_3_code 6 = .ok (.ireturn, 1) := by decide +kernel
theorem d3_7 : decode method_3_code 7 = .ok (.iload_n 0, 1) := by decide +kernel
theorem d3_8 : decode method_3_code 8 = .ok (.iconst 1, 1) := by decide +kernel
theorem d3_9 : decode method_3_code 9 = .ok (.if_icmp .ne 6, 3) := by decide +kernel
theorem d3_12 : decode method_3_code 12 = .ok (.bipush 81, 2) := by decide +kernel
theorem d3_14 : decode method_3_code 14 = .ok (.ireturn, 1) := by decide +kernel
theorem d3_15 : decode method_3_code 15 = .ok (.iload_n 0, 1) := by decide +kernel
theorem d3_16 : decode method_3_code 16 = .ok (.iconst 2, 1) := by decide +kernel
theorem d3_17 : decode method_3_code 17 = .ok (.if_icmp .ne 6, 3) := by decide +kernel
theorem d3_20 : decode method_3_code 20 = .ok (.bipush 103, 2) := by decide +kernel
theorem d3_22 : decode method_3_code 22 = .ok (.ireturn, 1) := by decide +kernel
theorem d3_23 : decode method_3_code 23 = .ok (.bipush 119, 2) := by decide +kernel
theorem d3_25 : decode method_3_code 25 = .ok (.ireturn, 1) := by decide +kernel
def own_F3 (p3_0 : Int32) : Int32 := (if p3_0 = (0 : Int32) then (65 : Int32) else (if p3_0 = (1 : Int32) then (81 : Int32) else (if p3_0 = (2 : Int32) then (103 : Int32) else (119 : Int32))))
theorem own_ef3 (m : MethodId) (x0 : Int32) : entryFrame m #[(.int x0)] 1 = mkF m 0 #[.val (.int x0)] [] := by first | (simp [entryFrame, mkF, argsToLocals, Value.category]; done) | rfl
def own_Q3 (r : Int32) (h0 : Heap) (n0 : Nat) (v : Option Value) (h : Heap) (L : List Loc) : Prop := v = some (.int r) ∧ Fr n0 L ∧ h = h0
set_option maxRecDepth 65536 in
set_option maxHeartbeats 40000000 in
theorem own_rm3 (l : Launch) (Z : State) (a0 : Array Value) (hw : ∀ d ∈ tables_1, d.before a0 Z = true) (ws : List Jvm.Cond) (p3_0 : Int32) (h0 : Heap) (n0 : Nat) (Z0 : n0 ≤ h0.size) :
    MetFree l (⟨"com/example/vacant_errand/vacanterrand/PackedIdHighPinLaw", "last", "(I)C"⟩ : MethodName) (head1 (Jvm.Cond.code (⟨"com/example/vacant_errand/vacanterrand/PackedIdHighPinLaw", "last", "(I)C"⟩ : MethodName) method_3_code 1 (some .char) :: ws) ({ frames := 0, cells := 0, slots := 0, locals := 0 } : Room)) (fun a U => a = #[(.int p3_0)] ∧ Z.Warmed39 U.vm ∧ U.heap = h0) (fun _ _ _ _ _ => True) (fun _ U o U' => ∃ v L, o = .returned v ∧ own_Q3 (own_F3 p3_0) h0 n0 v U'.heap L ∧ FrameEnd U o U' L ({ frames := 0, cells := 0, slots := 0, locals := 0 } : Room).cells ({ frames := 0, cells := 0, slots := 0, locals := 0 } : Room).slots) := by
  refine MetFree.of_bodySF (plainFor_of_name pn_com_example_vacant_errand_vacanterrand_PackedIdHighPinLaw) hisR ?_
  intro p e s m args below meth c s₁ Bd hml0 hP hK
  obtain ⟨rfl, hZ, hh⟩ := hP
  have hx := Bd.exec
  have hby := Bd.bytes
  have hlk : meth.locks = false := BodyLoose.notSynchronized Bd
  have hml : c.maxLocals = 1 := hml0
  have hown : s.vm.findClass "com/example/vacant_errand/vacanterrand/PackedIdHighPinLaw" = some m.cls := findClass_of_methodNamed Bd.named
  have hnm := (name_of_methodNamed Bd.named Bd.method).1
  have X0 : Stand p l e ({ frames := 0, cells := 0, slots := 0, locals := 0 } : Room) s m #[(.int p3_0)] below meth c s₁ [] 0 0 := Stand.of_body Bd
  have e0 : s₁.heap = h0 := by rw [← hh, Bd.state]; rfl
  have N0 := Fr.nil n0
  show own_Go p e below (own_P s below ({ frames := 0, cells := 0, slots := 0, locals := 0 } : Room) (own_Q3 (own_F3 p3_0) h0 n0)) s₁ (entryFrame m #[(.int p3_0)] 1)
  refine own_in (own_ef3 m p3_0) ?_
  refine own_by (T' := s₁) (g' := (mkF m 1 #[.val (.int p3_0)] [(.int p3_0)])) (fun t k => ?_) ?_
  · show Steps p.tables e below (s₁.setTop (mkF m 0 #[.val (.int p3_0)] [])) t
    refine XS.iloadN X0.here hx rfl (hb hby d3_0) rfl ?_
    show Steps p.tables e below (s₁.setTop (mkF m 1 #[.val (.int p3_0)] [(.int p3_0)])) t
    exact k
  by_cases hc55 : p3_0 = (0 : Int32)
  · skip
    refine own_by (T' := s₁) (g' := (mkF m 6 #[.val (.int p3_0)] [(.int (65 : Int32))])) (fun t k => ?_) ?_
    · show Steps p.tables e below (s₁.setTop (mkF m 1 #[.val (.int p3_0)] [(.int p3_0)])) t
      refine XS.ifNo X0.here hx rfl (hb hby d3_1) rfl ((if0 _ _).trans (teq hc55).2) ?_
      show Steps p.tables e below (s₁.setTop (mkF m 4 #[.val (.int p3_0)] [])) t
      refine XS.bipush X0.here hx rfl (hb hby d3_4) ?_
      show Steps p.tables e below (s₁.setTop (mkF m 6 #[.val (.int p3_0)] [(.int (65 : Int32))])) t
      exact k
    rw [show own_F3 p3_0 = (65 : Int32) from ((if_pos hc55).trans rfl)]
    exact own_retN X0 hx (t := .char) Bd.returns (by simp) (hb hby d3_6) hlk (by decide) (by decide) ⟨rfl, N0, e0⟩
  · skip
    refine own_by (T' := s₁) (g' := (mkF m 9 #[.val (.int p3_0)] [(.int (1 : Int32)), (.int p3_0)])) (fun t k => ?_) ?_
    · show Steps p.tables e below (s₁.setTop (mkF m 1 #[.val (.int p3_0)] [(.int p3_0)])) t
      refine XS.ifYes X0.here hx rfl (pc0 := 1) (pc' := 7) rfl (hb hby d3_1) rfl ((if0 _ _).trans (feq hc55).2) (by decide) (by decide) ?_
      show Steps p.tables e below (s₁.setTop (mkF m 7 #[.val (.int p3_0)] [])) t
      refine XS.iloadN X0.here hx rfl (hb hby d3_7) rfl ?_
      show Steps p.tables e below (s₁.setTop (mkF m 8 #[.val (.int p3_0)] [(.int p3_0)])) t
      refine XS.iconst X0.here hx rfl (hb hby d3_8) ?_
      show Steps p.tables e below (s₁.setTop (mkF m 9 #[.val (.int p3_0)] [(.int (1 : Int32)), (.int p3_0)])) t
      exact k
    by_cases hc56 : p3_0 = (1 : Int32)
    · skip
      refine own_by (T' := s₁) (g' := (mkF m 14 #[.val (.int p3_0)] [(.int (81 : Int32))])) (fun t k => ?_) ?_
      · show Steps p.tables e below (s₁.setTop (mkF m 9 #[.val (.int p3_0)] [(.int (1 : Int32)), (.int p3_0)])) t
        refine XS.icmpNo X0.here hx rfl (hb hby d3_9) rfl (teq hc56).2 ?_
        show Steps p.tables e below (s₁.setTop (mkF m 12 #[.val (.int p3_0)] [])) t
        refine XS.bipush X0.here hx rfl (hb hby d3_12) ?_
        show Steps p.tables e below (s₁.setTop (mkF m 14 #[.val (.int p3_0)] [(.int (81 : Int32))])) t
        exact k
      rw [show own_F3 p3_0 = (81 : Int32) from ((if_neg hc55).trans ((if_pos hc56).trans rfl))]
      exact own_retN X0 hx (t := .char) Bd.returns (by simp) (hb hby d3_14) hlk (by decide) (by decide) ⟨rfl, N0, e0⟩
    · skip
      refine own_by (T' := s₁) (g' := (mkF m 17 #[.val (.int p3_0)] [(.int (2 : Int32)), (.int p3_0)])) (fun t k => ?_) ?_
      · show Steps p.tables e below (s₁.setTop (mkF m 9 #[.val (.int p3_0)] [(.int (1 : Int32)), (.int p3_0)])) t
        refine XS.icmpYes X0.here hx rfl (pc0 := 9) (pc' := 15) rfl (hb hby d3_9) rfl (feq hc56).2 (by decide) (by decide) ?_
        show Steps p.tables e below (s₁.setTop (mkF m 15 #[.val (.int p3_0)] [])) t
        refine XS.iloadN X0.here hx rfl (hb hby d3_15) rfl ?_
        show Steps p.tables e below (s₁.setTop (mkF m 16 #[.val (.int p3_0)] [(.int p3_0)])) t
        refine XS.iconst X0.here hx rfl (hb hby d3_16) ?_
        show Steps p.tables e below (s₁.setTop (mkF m 17 #[.val (.int p3_0)] [(.int (2 : Int32)), (.int p3_0)])) t
        exact k
      by_cases hc57 : p3_0 = (2 : Int32)
      · skip
        refine own_by (T' := s₁) (g' := (mkF m 22 #[.val (.int p3_0)] [(.int (103 : Int32))])) (fun t k => ?_) ?_
        · show Steps p.tables e below (s₁.setTop (mkF m 17 #[.val (.int p3_0)] [(.int (2 : Int32)), (.int p3_0)])) t
          refine XS.icmpNo X0.here hx rfl (hb hby d3_17) rfl (teq hc57).2 ?_
          show Steps p.tables e below (s₁.setTop (mkF m 20 #[.val (.int p3_0)] [])) t
          refine XS.bipush X0.here hx rfl (hb hby d3_20) ?_
          show Steps p.tables e below (s₁.setTop (mkF m 22 #[.val (.int p3_0)] [(.int (103 : Int32))])) t
          exact k
        rw [show own_F3 p3_0 = (103 : Int32) from ((if_neg hc55).trans ((if_neg hc56).trans ((if_pos hc57).trans rfl)))]
        exact own_retN X0 hx (t := .char) Bd.returns (by simp) (hb hby d3_22) hlk (by decide) (by decide) ⟨rfl, N0, e0⟩
      · skip
        refine own_by (T' := s₁) (g' := (mkF m 25 #[.val (.int p3_0)] [(.int (119 : Int32))])) (fun t k => ?_) ?_
        · show Steps p.tables e below (s₁.setTop (mkF m 17 #[.val (.int p3_0)] [(.int (2 : Int32)), (.int p3_0)])) t
          refine XS.icmpYes X0.here hx rfl (pc0 := 17) (pc' := 23) rfl (hb hby d3_17) rfl (feq hc57).2 (by decide) (by decide) ?_
          show Steps p.tables e below (s₁.setTop (mkF m 23 #[.val (.int p3_0)] [])) t
          refine XS.bipush X0.here hx rfl (hb hby d3_23) ?_
          show Steps p.tables e below (s₁.setTop (mkF m 25 #[.val (.int p3_0)] [(.int (119 : Int32))])) t
          exact k
        rw [show own_F3 p3_0 = (119 : Int32) from ((if_neg hc55).trans ((if_neg hc56).trans ((if_neg hc57).trans rfl)))]
        exact own_retN X0 hx (t := .char) Bd.returns (by simp) (hb hby d3_25) hlk (by decide) (by decide) ⟨rfl, N0, e0⟩
theorem own_and_le64 (x m : Int64) (k : Nat) (hm : m.toBitVec.toNat = k) (hk : k < 9223372036854775808) : 0 ≤ (x &&& m).toInt ∧ (x &&& m).toInt ≤ k := by
  have h1 : (x &&& m).toBitVec.toNat ≤ k := by
    rw [Int64.toBitVec_and, BitVec.toNat_and, hm]; exact Nat.and_le_right
  have h2 : (x &&& m).toInt = ((x &&& m).toBitVec.toNat : Int) := BitVec.toInt_eq_toNat_of_lt (by omega)
  omega
theorem own_and_le (x m : Int32) (k : Nat) (hm : m.toBitVec.toNat = k) (hk : k < 2147483648) : 0 ≤ (x &&& m).toInt ∧ (x &&& m).toInt ≤ k := by
  have h1 : (x &&& m).toBitVec.toNat ≤ k := by
    rw [Int32.toBitVec_and, BitVec.toNat_and, hm]; exact Nat.and_le_right
  have h2 : (x &&& m).toInt = ((x &&& m).toBitVec.toNat : Int) := BitVec.toInt_eq_toNat_of_lt (by omega)
  omega
theorem own_small (x : Int64) (h0 : 0 ≤ x.toInt) (h1 : x.toInt ≤ 63) : x.toInt32.toInt = x.toInt := by
  rw [Int64.toInt_toInt32, Int.bmod_def]
  split <;> omega
theorem own_f1 (v : Int64) (s : Int32) : 0 ≤ (own_F1 v s).toInt ∧ (own_F1 v s).toInt ≤ 63 := by
  unfold own_F1
  have h := own_and_le64 ((v.toUInt64 >>> (s &&& 0x3f).toInt64.toUInt64).toInt64) 63 63 (by decide) (by decide)
  rw [own_small _ h.1 (by omega)]
  omega
theorem own_of (x : Int32) (n : Nat) (h0 : 0 ≤ x.toInt) (h1 : x.toInt < n) (hn : n ≤ 65536) : ∃ k : Fin n, x = Int32.ofNat k := by
  refine ⟨⟨x.toInt.toNat, by omega⟩, ?_⟩
  rw [← Int32.toInt_inj, Int32.toInt_ofNat_of_lt (by show x.toInt.toNat < _; omega)]
  show x.toInt = (x.toInt.toNat : Int)
  omega
theorem own_c2t : ∀ k : Fin 64, (0 ≤ (own_F2 (Int32.ofNat k)).toInt ∧ (own_F2 (Int32.ofNat k)).toInt ≤ 255) ∧ own_F16 (nar .char (own_F2 (Int32.ofNat k))) = Int32.ofNat k := by decide +kernel
theorem own_c2 (p : Int32) (h : 0 ≤ p.toInt ∧ p.toInt ≤ 63) : 0 ≤ (own_F2 p).toInt ∧ (own_F2 p).toInt ≤ 255 := by
  obtain ⟨k, rfl⟩ := own_of p 64 h.1 (by omega) (by decide)
  exact (own_c2t k).1
theorem own_pc (p : Int32) (h : 0 ≤ p.toInt ∧ p.toInt ≤ 63) : own_F16 (nar .char (own_F2 p)) = p := by
  obtain ⟨k, rfl⟩ := own_of p 64 h.1 (by omega) (by decide)
  exact (own_c2t k).2
theorem own_c3 (p : Int32) : 0 ≤ (own_F3 p).toInt ∧ (own_F3 p).toInt ≤ 255 := by
  unfold own_F3
  repeat' split
  all_goals decide
theorem own_chr (x : Int32) (h : 0 ≤ x.toInt ∧ x.toInt ≤ 255) : ¬ (nar .char x) < 0 ∧ ¬ (255 : Int32) < (nar .char x) := by
  obtain ⟨k, rfl⟩ := own_of x 256 h.1 (by omega) (by decide)
  have t : ∀ k : Fin 256, ¬ (nar .char (Int32.ofNat k)) < 0 ∧ ¬ (255 : Int32) < (nar .char (Int32.ofNat k)) := by decide +kernel
  exact t k
theorem own_mixt : ∀ (n : Fin 16) (m : Fin 4), (0 ≤ (((Int32.ofNat n) <<< ((2 : Int32) &&& 31)) ||| (Int32.ofNat m)).toInt ∧ (((Int32.ofNat n) <<< ((2 : Int32) &&& 31)) ||| (Int32.ofNat m)).toInt ≤ 63) ∧ (((((Int32.ofNat n) <<< ((2 : Int32) &&& 31)) ||| (Int32.ofNat m)).toUInt32 >>> ((2 : Int32) &&& 31).toUInt32).toInt32) = Int32.ofNat n := by decide +kernel
theorem own_low (a : Int64) : ∃ n : Fin 16, (a &&& (15 : Int64)).toInt32 = Int32.ofNat n := by
  have h := own_and_le64 a 15 15 (by decide) (by decide)
  have e := own_small _ h.1 (by omega)
  exact own_of _ 16 (by omega) (by omega) (by decide)
theorem own_mix (a : Int64) (x : Int32) : 0 ≤ ((((a &&& (15 : Int64)).toInt32) <<< ((2 : Int32) &&& 31)) ||| (x &&& (3 : Int32))).toInt ∧ ((((a &&& (15 : Int64)).toInt32) <<< ((2 : Int32) &&& 31)) ||| (x &&& (3 : Int32))).toInt ≤ 63 := by
  obtain ⟨n, hn⟩ := own_low a
  have h3 := own_and_le x 3 3 (by decide) (by decide)
  obtain ⟨m, hm⟩ := own_of (x &&& 3) 4 h3.1 (by omega) (by decide)
  rw [hn, hm]
  exact (own_mixt n m).1
theorem own_mix2 (a : Int64) (x : Int32) : (((((((a &&& (15 : Int64)).toInt32) <<< ((2 : Int32) &&& 31)) ||| (x &&& (3 : Int32))).toUInt32 >>> ((2 : Int32) &&& 31).toUInt32).toInt32)) = (a &&& (15 : Int64)).toInt32 := by
  obtain ⟨n, hn⟩ := own_low a
  have h3 := own_and_le x 3 3 (by decide) (by decide)
  obtain ⟨m, hm⟩ := own_of (x &&& 3) 4 h3.1 (by omega) (by decide)
  rw [hn, hm]
  exact (own_mixt n m).2

theorem pd__JI_I : parseMethodDescriptor "(JI)I" = some ⟨[.long, .int], some .int⟩ := by decide +kernel
theorem pd___C_V : parseMethodDescriptor "([C)V" = some ⟨[(.array .char)], none⟩ := by decide +kernel
theorem pd__Ljava_lang_String__J : parseMethodDescriptor "(Ljava/lang/String;)J" = some ⟨[(.object "java/lang/String")], some .long⟩ := by decide +kernel
def own_F0 (q0_0 : Int64) (q0_1 : Int64) (p0_2 : Int32) : Int32 := (if (own_F10 ([(nar .char (own_F2 (own_F1 q0_0 (58 : Int32)))), (nar .char (own_F2 (own_F1 q0_0 (52 : Int32)))), (nar .char (own_F2 (own_F1 q0_0 (46 : Int32)))), (nar .char (own_F2 (own_F1 q0_0 (40 : Int32)))), (nar .char (own_F2 (own_F1 q0_0 (34 : Int32)))), (nar .char (own_F2 (own_F1 q0_0 (28 : Int32)))), (nar .char (own_F2 (own_F1 q0_0 (22 : Int32)))), (nar .char (own_F2 (own_F1 q0_0 (16 : Int32)))), (nar .char (own_F2 (own_F1 q0_0 (10 : Int32)))), (nar .char (own_F2 (own_F1 q0_0 (4 : Int32)))), (nar .char (own_F2 ((((q0_0 &&& (15 : Int64)).toInt32) <<< ((2 : Int32) &&& 31)) ||| (p0_2 &&& (3 : Int32))))), (nar .char (own_F2 (own_F1 q0_1 (54 : Int32)))), (nar .char (own_F2 (own_F1 q0_1 (48 : Int32)))), (nar .char (own_F2 (own_F1 q0_1 (42 : Int32)))), (nar .char (own_F2 (own_F1 q0_1 (36 : Int32)))), (nar .char (own_F2 (own_F1 q0_1 (30 : Int32)))), (nar .char (own_F2 (own_F1 q0_1 (24 : Int32)))), (nar .char (own_F2 (own_F1 q0_1 (18 : Int32)))), (nar .char (own_F2 (own_F1 q0_1 (12 : Int32)))), (nar .char (own_F2 (own_F1 q0_1 (6 : Int32)))), (nar .char (own_F2 (own_F1 q0_1 (0 : Int32)))), (nar .char (own_F3 (((p0_2.toUInt32 >>> ((2 : Int32) &&& 31).toUInt32).toInt32) &&& (3 : Int32))))] : List Int32)) = q0_0 then (1 : Int32) else (0 : Int32))
theorem own_ef0 (m : MethodId) (x0 : Int64) (x1 : Int64) (x2 : Int32) : entryFrame m #[(.long x0), (.long x1), (.int x2)] maxLocals = mkF m 0 #[.val (.long x0), .second, .val (.long x1), .second, .val (.int x2), .unset, .unset] [] := by first | (simp [entryFrame, mkF, argsToLocals, Value.category, maxLocals]; done) | rfl
def own_Q0 (r : Int32) (h0 : Heap) (n0 : Nat) (v : Option Value) (h : Heap) (L : List Loc) : Prop := v = some (.int r) ∧ Fr n0 L
set_option maxRecDepth 65536 in
set_option maxHeartbeats 40000000 in
theorem own_rm0 (l : Launch) (Z : State) (a0 : Array Value) (hw : ∀ d ∈ tables_1, d.before a0 Z = true) (ws : List Jvm.Cond) (q0_0 : Int64) (q0_1 : Int64) (p0_2 : Int32) (cs : Int32) (fm : Value) (wPL : Addr) (cPL : Cell) (h0 : Heap) (n0 : Nat) (Z0 : n0 ≤ h0.size) (O0 : Old Z n0 h0) (SC : Sta Z Z.heap "java/lang/String" "COMPACT_STRINGS" "Z" (.int cs)) (HCS : ¬ (cs = (0 : Int32))) (SFm : Sta Z Z.heap "jdk/internal/util/Preconditions" "SIOOBE_FORMATTER" "Ljava/util/function/BiFunction;" fm) (HFm : fm.isRef = true) (SPL : Sta Z Z.heap "com/example/vacant_errand/vacanterrand/PackedId" "PLACES" "[B" (.ref wPL)) (TPL : own_PL Z wPL cPL) :
    MetFree l x (head1 (Jvm.Cond.code x code maxLocals ret :: ws) room_1) (fun a U => a = #[(.long q0_0), (.long q0_1), (.int p0_2)] ∧ Z.Warmed39 U.vm ∧ U.heap = h0) (fun _ _ _ _ _ => True) (fun _ U o U' => ∃ v L, o = .returned v ∧ own_Q0 (own_F0 q0_0 q0_1 p0_2) h0 n0 v U'.heap L ∧ FrameEnd U o U' L room_1.cells room_1.slots) := by
  refine MetFree.of_bodySF (plainFor_of_name pn_com_example_vacant_errand_vacanterrand_PackedIdHighPinLaw) hisR ?_
  intro p e s m args below meth c s₁ Bd hml0 hP hK
  obtain ⟨rfl, hZ, hh⟩ := hP
  have hx := Bd.exec
  have hby := Bd.bytes
  have hlk : meth.locks = false := BodyLoose.notSynchronized Bd
  have hml : c.maxLocals = 7 := hml0
  have hown : s.vm.findClass "com/example/vacant_errand/vacanterrand/PackedIdHighPinLaw" = some m.cls := findClass_of_methodNamed Bd.named
  have hnm := (name_of_methodNamed Bd.named Bd.method).1
  have X0 : Stand p l e room_1 s m #[(.long q0_0), (.long q0_1), (.int p0_2)] below meth c s₁ [] 0 0 := Stand.of_body Bd
  have e0 : s₁.heap = h0 := by rw [← hh, Bd.state]; rfl
  have N0 := Fr.nil n0
  show own_Go p e below (own_P s below room_1 (own_Q0 (own_F0 q0_0 q0_1 p0_2) h0 n0)) s₁ (entryFrame m #[(.long q0_0), (.long q0_1), (.int p0_2)] maxLocals)
  refine own_in (own_ef0 m q0_0 q0_1 p0_2) ?_
  refine own_by (T' := s₁) (g' := (mkF m 2 #[.val (.long q0_0), .second, .val (.long q0_1), .second, .val (.int p0_2), .unset, .unset] [(.int (22 : Int32))])) (fun t k => ?_) ?_
  · show Steps p.tables e below (s₁.setTop (mkF m 0 #[.val (.long q0_0), .second, .val (.long q0_1), .second, .val (.int p0_2), .unset, .unset] [])) t
    refine XS.bipush X0.here hx rfl (hb hby at_0) ?_
    show Steps p.tables e below (s₁.setTop (mkF m 2 #[.val (.long q0_0), .second, .val (.long q0_1), .second, .val (.int p0_2), .unset, .unset] [(.int (22 : Int32))])) t
    exact k
  obtain ⟨T58, h58, k58, X58, e58, E58, A58, st58⟩ := newP X0 hx hZ (hw _ (List.mem_of_getElem? (i := 0) rfl)) e0 (g := (mkF m 2 #[.val (.long q0_0), .second, .val (.long q0_1), .second, .val (.int p0_2), .unset, .unset] [(.int (22 : Int32))])) rfl (hb hby at_2) rfl (by decide) (cap := 22) (by decide) (by decide) (by decide) (by decide)
  obtain ⟨b58, g58⟩ : ∃ z, z = h0.size := ⟨_, rfl⟩
  rw [← g58] at A58 st58
  have gn_b58 : n0 ≤ b58 := Nat.le_trans Z0 (Nat.le_of_eq g58.symm)
  have sz_b58 : h0.size ≤ b58 := Nat.le_trans (Keep.refl h0 []).1 (Nat.le_of_eq g58.symm)
  have K59 : Keep h0 h58 [] := (Keep.refl h0 []).ext E58
  have O60 := O0.ext E58
  have Z61 := Nat.le_trans Z0 E58.1
  have f62 : Arv Z h58 b58 k58 .char (22 : Int32) [(.int (0 : Int32)), (.int (0 : Int32)), (.int (0 : Int32)), (.int (0 : Int32)), (.int (0 : Int32)), (.int (0 : Int32)), (.int (0 : Int32)), (.int (0 : Int32)), (.int (0 : Int32)), (.int (0 : Int32)), (.int (0 : Int32)), (.int (0 : Int32)), (.int (0 : Int32)), (.int (0 : Int32)), (.int (0 : Int32)), (.int (0 : Int32)), (.int (0 : Int32)), (.int (0 : Int32)), (.int (0 : Int32)), (.int (0 : Int32)), (.int (0 : Int32)), (.int (0 : Int32))] (.int (0 : Int32)) := (Arv.new A58 (by decide)).pad (pad_rep [] (.int (0 : Int32)) 22)
  refine own_by (T' := T58) (g' := (mkF m 4 #[.val (.long q0_0), .second, .val (.long q0_1), .second, .val (.int p0_2), .unset, .unset] [(.ref b58)])) st58 ?_
  refine own_by (T' := T58) (g' := (mkF m 12 #[.val (.long q0_0), .second, .val (.long q0_1), .second, .val (.int p0_2), .val (.ref b58), .unset] [(.int (58 : Int32)), (.long q0_0), (.int (0 : Int32)), (.ref b58)])) (fun t k => ?_) ?_
  · show Steps p.tables e below (T58.setTop (mkF m 4 #[.val (.long q0_0), .second, .val (.long q0_1), .second, .val (.int p0_2), .unset, .unset] [(.ref b58)])) t
    refine XS.astore X58.here hx rfl (hb hby at_4) rfl rfl (l' := #[.val (.long q0_0), .second, .val (.long q0_1), .second, .val (.int p0_2), .val (.ref b58), .unset]) rfl ?_
    show Steps p.tables e below (T58.setTop (mkF m 6 #[.val (.long q0_0), .second, .val (.long q0_1), .second, .val (.int p0_2), .val (.ref b58), .unset] [])) t
    refine XS.aload X58.here hx rfl (hb hby at_6) rfl rfl ?_
    show Steps p.tables e below (T58.setTop (mkF m 8 #[.val (.long q0_0), .second, .val (.long q0_1), .second, .val (.int p0_2), .val (.ref b58), .unset] [(.ref b58)])) t
    refine XS.iconst X58.here hx rfl (hb hby at_8) ?_
    show Steps p.tables e below (T58.setTop (mkF m 9 #[.val (.long q0_0), .second, .val (.long q0_1), .second, .val (.int p0_2), .val (.ref b58), .unset] [(.int (0 : Int32)), (.ref b58)])) t
    refine XS.lloadN X58.here hx rfl (hb hby at_9) rfl ?_
    show Steps p.tables e below (T58.setTop (mkF m 10 #[.val (.long q0_0), .second, .val (.long q0_1), .second, .val (.int p0_2), .val (.ref b58), .unset] [(.long q0_0), (.int (0 : Int32)), (.ref b58)])) t
    refine XS.bipush X58.here hx rfl (hb hby at_10) ?_
    show Steps p.tables e below (T58.setTop (mkF m 12 #[.val (.long q0_0), .second, .val (.long q0_1), .second, .val (.int p0_2), .val (.ref b58), .unset] [(.int (58 : Int32)), (.long q0_0), (.int (0 : Int32)), (.ref b58)])) t
    exact k
  obtain ⟨v63, _, ⟨T63, L63, k63, n63⟩, -, X63, ⟨Lc63, hQ63, l63, y63, z63⟩, st63⟩ := Jvm.LawKit.callS X58 hx (y := (⟨"com/example/vacant_errand/vacanterrand/PackedIdHighPinLaw", "six", "(JI)I"⟩ : MethodName)) hown (mvT hZ (hw _ (List.mem_of_getElem? (i := 1) rfl))) (mvT hZ (hw _ (List.mem_of_getElem? (i := 2) rfl))) (mvT hZ (hw _ (List.mem_of_getElem? (i := 3) rfl))) (mvT hZ (hw _ (List.mem_of_getElem? (i := 4) rfl))) (by decide) (backOf (W := 2) (own_rm1 l Z a0 hw [] q0_0 (58 : Int32) h58 n0 Z61) hZ (hw _ (List.mem_of_getElem? (i := 4) rfl)) (hw _ (List.mem_of_getElem? (i := 3) rfl)) (by decide) (by decide)) (g := (mkF m 12 #[.val (.long q0_0), .second, .val (.long q0_1), .second, .val (.int p0_2), .val (.ref b58), .unset] [(.int (58 : Int32)), (.long q0_0), (.int (0 : Int32)), (.ref b58)])) rfl (by rw [hml]; rfl) (argsL := [(.long q0_0), (.int (58 : Int32))]) (rest := [(.int (0 : Int32)), (.ref b58)]) (lenOf pd__JI_I rfl) rfl (by show 2 * 0 + _ ≤ _; exact Nat.le_of_eq rfl) (hb hby at_12) (fun _ _ => ⟨rfl, e58, (by decide : 1 + 0 ≤ _), (by decide : 22 + 0 ≤ _)⟩)
  dsimp only [Pt.U, Pt.locs, Pt.cells, Pt.slots] at X63 l63 y63 z63 st63 hQ63
  subst y63 z63
  obtain ⟨rfl, M63, e63⟩ := hQ63
  have N64 : Fr n0 L63 := by rw [l63]; exact Fr.app N0 M63
  refine own_by (T' := T63) (g' := (mkF m 15 #[.val (.long q0_0), .second, .val (.long q0_1), .second, .val (.int p0_2), .val (.ref b58), .unset] [(.int (own_F1 q0_0 (58 : Int32))), (.int (0 : Int32)), (.ref b58)])) st63 ?_
  obtain ⟨v65, _, ⟨T65, L65, k65, n65⟩, -, X65, ⟨Lc65, hQ65, l65, y65, z65⟩, st65⟩ := Jvm.LawKit.callS X63 hx (y := (⟨"com/example/vacant_errand/vacanterrand/PackedIdHighPinLaw", "c", "(I)C"⟩ : MethodName)) hown (mvT hZ (hw _ (List.mem_of_getElem? (i := 6) rfl))) (mvT hZ (hw _ (List.mem_of_getElem? (i := 7) rfl))) (mvT hZ (hw _ (List.mem_of_getElem? (i := 3) rfl))) (mvT hZ (hw _ (List.mem_of_getElem? (i := 8) rfl))) (by decide) (backOf (W := 2) (own_rm2 l Z a0 hw [] (own_F1 q0_0 (58 : Int32)) h58 n0 Z61) hZ (hw _ (List.mem_of_getElem? (i := 8) rfl)) (hw _ (List.mem_of_getElem? (i := 3) rfl)) (by decide) (by decide)) (g := (mkF m 15 #[.val (.long q0_0), .second, .val (.long q0_1), .second, .val (.int p0_2), .val (.ref b58), .unset] [(.int (own_F1 q0_0 (58 : Int32))), (.int (0 : Int32)), (.ref b58)])) rfl (by rw [hml]; rfl) (argsL := [(.int (own_F1 q0_0 (58 : Int32)))]) (rest := [(.int (0 : Int32)), (.ref b58)]) (lenOf pd__I_C rfl) rfl (by show 2 * 0 + _ ≤ _; exact Nat.le_of_eq rfl) (hb hby at_15) (fun _ _ => ⟨rfl, e63, (by decide : 1 + 0 ≤ _), (by decide : 22 + 0 ≤ _)⟩)
  dsimp only [Pt.U, Pt.locs, Pt.cells, Pt.slots] at X65 l65 y65 z65 st65 hQ65
  subst y65 z65
  obtain ⟨rfl, M65, e65⟩ := hQ65
  have N66 : Fr n0 L65 := by rw [l65]; exact Fr.app N64 M65
  refine own_by (T' := T65) (g' := (mkF m 18 #[.val (.long q0_0), .second, .val (.long q0_1), .second, .val (.int p0_2), .val (.ref b58), .unset] [(.int (own_F2 (own_F1 q0_0 (58 : Int32)))), (.int (0 : Int32)), (.ref b58)])) st65 ?_
  obtain ⟨cl67, Ar67, q67, S67, N67, H67, G67⟩ := f62
  obtain ⟨T68, h68, X68, e68, W68, st68⟩ := stC X65 hx hZ e65 Ar67 (j := (0 : Int32)) (inb_of S67 ⟨by decide, by decide⟩) (g := (mkF m 18 #[.val (.long q0_0), .second, .val (.long q0_1), .second, .val (.int p0_2), .val (.ref b58), .unset] [(.int (own_F2 (own_F1 q0_0 (58 : Int32)))), (.int (0 : Int32)), (.ref b58)])) rfl rfl (hb hby at_18)
  have f69 : Arv Z h68 b58 k58 .char (22 : Int32) [(.int (nar .char (own_F2 (own_F1 q0_0 (58 : Int32))))), (.int (0 : Int32)), (.int (0 : Int32)), (.int (0 : Int32)), (.int (0 : Int32)), (.int (0 : Int32)), (.int (0 : Int32)), (.int (0 : Int32)), (.int (0 : Int32)), (.int (0 : Int32)), (.int (0 : Int32)), (.int (0 : Int32)), (.int (0 : Int32)), (.int (0 : Int32)), (.int (0 : Int32)), (.int (0 : Int32)), (.int (0 : Int32)), (.int (0 : Int32)), (.int (0 : Int32)), (.int (0 : Int32)), (.int (0 : Int32)), (.int (0 : Int32))] (.int (0 : Int32)) := Arv.set Ar67 q67 S67 N67 H67 G67 (fits_nar_char _) W68 0 rfl (Nat.le_of_ble_eq_true rfl)
  have K71 : Keep h0 h68 [] := K59.wr W68 (Or.inr sz_b58)
  have N72 := Fr.snoc X68 N66 gn_b58
  obtain ⟨Lh68, X68, N72⟩ := own_hide X68 N72
  have O73 := O60.wr W68 gn_b58
  have Z74 := (Nat.le_trans Z61 (Keep.of_wr W68).1)
  refine own_by (T' := T68) (g' := (mkF m 19 #[.val (.long q0_0), .second, .val (.long q0_1), .second, .val (.int p0_2), .val (.ref b58), .unset] [])) st68 ?_
  refine own_by (T' := T68) (g' := (mkF m 25 #[.val (.long q0_0), .second, .val (.long q0_1), .second, .val (.int p0_2), .val (.ref b58), .unset] [(.int (52 : Int32)), (.long q0_0), (.int (1 : Int32)), (.ref b58)])) (fun t k => ?_) ?_
  · show Steps p.tables e below (T68.setTop (mkF m 19 #[.val (.long q0_0), .second, .val (.long q0_1), .second, .val (.int p0_2), .val (.ref b58), .unset] [])) t
    refine XS.aload X68.here hx rfl (hb hby at_19) rfl rfl ?_
    show Steps p.tables e below (T68.setTop (mkF m 21 #[.val (.long q0_0), .second, .val (.long q0_1), .second, .val (.int p0_2), .val (.ref b58), .unset] [(.ref b58)])) t
    refine XS.iconst X68.here hx rfl (hb hby at_21) ?_
    show Steps p.tables e below (T68.setTop (mkF m 22 #[.val (.long q0_0), .second, .val (.long q0_1), .second, .val (.int p0_2), .val (.ref b58), .unset] [(.int (1 : Int32)), (.ref b58)])) t
    refine XS.lloadN X68.here hx rfl (hb hby at_22) rfl ?_
    show Steps p.tables e below (T68.setTop (mkF m 23 #[.val (.long q0_0), .second, .val (.long q0_1), .second, .val (.int p0_2), .val (.ref b58), .unset] [(.long q0_0), (.int (1 : Int32)), (.ref b58)])) t
    refine XS.bipush X68.here hx rfl (hb hby at_23) ?_
    show Steps p.tables e below (T68.setTop (mkF m 25 #[.val (.long q0_0), .second, .val (.long q0_1), .second, .val (.int p0_2), .val (.ref b58), .unset] [(.int (52 : Int32)), (.long q0_0), (.int (1 : Int32)), (.ref b58)])) t
    exact k
  obtain ⟨v75, _, ⟨T75, L75, k75, n75⟩, -, X75, ⟨Lc75, hQ75, l75, y75, z75⟩, st75⟩ := Jvm.LawKit.callS X68 hx (y := (⟨"com/example/vacant_errand/vacanterrand/PackedIdHighPinLaw", "six", "(JI)I"⟩ : MethodName)) hown (mvT hZ (hw _ (List.mem_of_getElem? (i := 1) rfl))) (mvT hZ (hw _ (List.mem_of_getElem? (i := 2) rfl))) (mvT hZ (hw _ (List.mem_of_getElem? (i := 3) rfl))) (mvT hZ (hw _ (List.mem_of_getElem? (i := 4) rfl))) (by decide) (backOf (W := 2) (own_rm1 l Z a0 hw [] q0_0 (52 : Int32) h68 n0 Z74) hZ (hw _ (List.mem_of_getElem? (i := 4) rfl)) (hw _ (List.mem_of_getElem? (i := 3) rfl)) (by decide) (by decide)) (g := (mkF m 25 #[.val (.long q0_0), .second, .val (.long q0_1), .second, .val (.int p0_2), .val (.ref b58), .unset] [(.int (52 : Int32)), (.long q0_0), (.int (1 : Int32)), (.ref b58)])) rfl (by rw [hml]; rfl) (argsL := [(.long q0_0), (.int (52 : Int32))]) (rest := [(.int (1 : Int32)), (.ref b58)]) (lenOf pd__JI_I rfl) rfl (by show 2 * 0 + _ ≤ _; exact Nat.le_of_eq rfl) (hb hby at_25) (fun _ _ => ⟨rfl, e68, (by decide : 1 + 0 ≤ _), (by decide : 22 + 0 ≤ _)⟩)
  dsimp only [Pt.U, Pt.locs, Pt.cells, Pt.slots] at X75 l75 y75 z75 st75 hQ75
  subst y75 z75
  obtain ⟨rfl, M75, e75⟩ := hQ75
  have N76 : Fr n0 L75 := by rw [l75]; exact Fr.app N72 M75
  refine own_by (T' := T75) (g' := (mkF m 28 #[.val (.long q0_0), .second, .val (.long q0_1), .second, .val (.int p0_2), .val (.ref b58), .unset] [(.int (own_F1 q0_0 (52 : Int32))), (.int (1 : Int32)), (.ref b58)])) st75 ?_
  obtain ⟨v77, _, ⟨T77, L77, k77, n77⟩, -, X77, ⟨Lc77, hQ77, l77, y77, z77⟩, st77⟩ := Jvm.LawKit.callS X75 hx (y := (⟨"com/example/vacant_errand/vacanterrand/PackedIdHighPinLaw", "c", "(I)C"⟩ : MethodName)) hown (mvT hZ (hw _ (List.mem_of_getElem? (i := 6) rfl))) (mvT hZ (hw _ (List.mem_of_getElem? (i := 7) rfl))) (mvT hZ (hw _ (List.mem_of_getElem? (i := 3) rfl))) (mvT hZ (hw _ (List.mem_of_getElem? (i := 8) rfl))) (by decide) (backOf (W := 2) (own_rm2 l Z a0 hw [] (own_F1 q0_0 (52 : Int32)) h68 n0 Z74) hZ (hw _ (List.mem_of_getElem? (i := 8) rfl)) (hw _ (List.mem_of_getElem? (i := 3) rfl)) (by decide) (by decide)) (g := (mkF m 28 #[.val (.long q0_0), .second, .val (.long q0_1), .second, .val (.int p0_2), .val (.ref b58), .unset] [(.int (own_F1 q0_0 (52 : Int32))), (.int (1 : Int32)), (.ref b58)])) rfl (by rw [hml]; rfl) (argsL := [(.int (own_F1 q0_0 (52 : Int32)))]) (rest := [(.int (1 : Int32)), (.ref b58)]) (lenOf pd__I_C rfl) rfl (by show 2 * 0 + _ ≤ _; exact Nat.le_of_eq rfl) (hb hby at_28) (fun _ _ => ⟨rfl, e75, (by decide : 1 + 0 ≤ _), (by decide : 22 + 0 ≤ _)⟩)
  dsimp only [Pt.U, Pt.locs, Pt.cells, Pt.slots] at X77 l77 y77 z77 st77 hQ77
  subst y77 z77
  obtain ⟨rfl, M77, e77⟩ := hQ77
  have N78 : Fr n0 L77 := by rw [l77]; exact Fr.app N76 M77
  refine own_by (T' := T77) (g' := (mkF m 31 #[.val (.long q0_0), .second, .val (.long q0_1), .second, .val (.int p0_2), .val (.ref b58), .unset] [(.int (own_F2 (own_F1 q0_0 (52 : Int32)))), (.int (1 : Int32)), (.ref b58)])) st77 ?_
  obtain ⟨cl79, Ar79, q79, S79, N79, H79, G79⟩ := f69
  obtain ⟨T80, h80, X80, e80, W80, st80⟩ := stC X77 hx hZ e77 Ar79 (j := (1 : Int32)) (inb_of S79 ⟨by decide, by decide⟩) (g := (mkF m 31 #[.val (.long q0_0), .second, .val (.long q0_1), .second, .val (.int p0_2), .val (.ref b58), .unset] [(.int (own_F2 (own_F1 q0_0 (52 : Int32)))), (.int (1 : Int32)), (.ref b58)])) rfl rfl (hb hby at_31)
  have f81 : Arv Z h80 b58 k58 .char (22 : Int32) [(.int (nar .char (own_F2 (own_F1 q0_0 (58 : Int32))))), (.int (nar .char (own_F2 (own_F1 q0_0 (52 : Int32))))), (.int (0 : Int32)), (.int (0 : Int32)), (.int (0 : Int32)), (.int (0 : Int32)), (.int (0 : Int32)), (.int (0 : Int32)), (.int (0 : Int32)), (.int (0 : Int32)), (.int (0 : Int32)), (.int (0 : Int32)), (.int (0 : Int32)), (.int (0 : Int32)), (.int (0 : Int32)), (.int (0 : Int32)), (.int (0 : Int32)), (.int (0 : Int32)), (.int (0 : Int32)), (.int (0 : Int32)), (.int (0 : Int32)), (.int (0 : Int32))] (.int (0 : Int32)) := Arv.set Ar79 q79 S79 N79 H79 G79 (fits_nar_char _) W80 1 rfl (Nat.le_of_ble_eq_true rfl)
  have K83 : Keep h0 h80 [] := K71.wr W80 (Or.inr sz_b58)
  have N84 := Fr.snoc X80 N78 gn_b58
  obtain ⟨Lh80, X80, N84⟩ := own_hide X80 N84
  have O85 := O73.wr W80 gn_b58
  have Z86 := (Nat.le_trans Z74 (Keep.of_wr W80).1)
  refine own_by (T' := T80) (g' := (mkF m 32 #[.val (.long q0_0), .second, .val (.long q0_1), .second, .val (.int p0_2), .val (.ref b58), .unset] [])) st80 ?_
  refine own_by (T' := T80) (g' := (mkF m 38 #[.val (.long q0_0), .second, .val (.long q0_1), .second, .val (.int p0_2), .val (.ref b58), .unset] [(.int (46 : Int32)), (.long q0_0), (.int (2 : Int32)), (.ref b58)])) (fun t k => ?_) ?_
  · show Steps p.tables e below (T80.setTop (mkF m 32 #[.val (.long q0_0), .second, .val (.long q0_1), .second, .val (.int p0_2), .val (.ref b58), .unset] [])) t
    refine XS.aload X80.here hx rfl (hb hby at_32) rfl rfl ?_
    show Steps p.tables e below (T80.setTop (mkF m 34 #[.val (.long q0_0), .second, .val (.long q0_1), .second, .val (.int p0_2), .val (.ref b58), .unset] [(.ref b58)])) t
    refine XS.iconst X80.here hx rfl (hb hby at_34) ?_
    show Steps p.tables e below (T80.setTop (mkF m 35 #[.val (.long q0_0), .second, .val (.long q0_1), .second, .val (.int p0_2), .val (.ref b58), .unset] [(.int (2 : Int32)), (.ref b58)])) t
    refine XS.lloadN X80.here hx rfl (hb hby at_35) rfl ?_
    show Steps p.tables e below (T80.setTop (mkF m 36 #[.val (.long q0_0), .second, .val (.long q0_1), .second, .val (.int p0_2), .val (.ref b58), .unset] [(.long q0_0), (.int (2 : Int32)), (.ref b58)])) t
    refine XS.bipush X80.here hx rfl (hb hby at_36) ?_
    show Steps p.tables e below (T80.setTop (mkF m 38 #[.val (.long q0_0), .second, .val (.long q0_1), .second, .val (.int p0_2), .val (.ref b58), .unset] [(.int (46 : Int32)), (.long q0_0), (.int (2 : Int32)), (.ref b58)])) t
    exact k
  obtain ⟨v87, _, ⟨T87, L87, k87, n87⟩, -, X87, ⟨Lc87, hQ87, l87, y87, z87⟩, st87⟩ := Jvm.LawKit.callS X80 hx (y := (⟨"com/example/vacant_errand/vacanterrand/PackedIdHighPinLaw", "six", "(JI)I"⟩ : MethodName)) hown (mvT hZ (hw _ (List.mem_of_getElem? (i := 1) rfl))) (mvT hZ (hw _ (List.mem_of_getElem? (i := 2) rfl))) (mvT hZ (hw _ (List.mem_of_getElem? (i := 3) rfl))) (mvT hZ (hw _ (List.mem_of_getElem? (i := 4) rfl))) (by decide) (backOf (W := 2) (own_rm1 l Z a0 hw [] q0_0 (46 : Int32) h80 n0 Z86) hZ (hw _ (List.mem_of_getElem? (i := 4) rfl)) (hw _ (List.mem_of_getElem? (i := 3) rfl)) (by decide) (by decide)) (g := (mkF m 38 #[.val (.long q0_0), .second, .val (.long q0_1), .second, .val (.int p0_2), .val (.ref b58), .unset] [(.int (46 : Int32)), (.long q0_0), (.int (2 : Int32)), (.ref b58)])) rfl (by rw [hml]; rfl) (argsL := [(.long q0_0), (.int (46 : Int32))]) (rest := [(.int (2 : Int32)), (.ref b58)]) (lenOf pd__JI_I rfl) rfl (by show 2 * 0 + _ ≤ _; exact Nat.le_of_eq rfl) (hb hby at_38) (fun _ _ => ⟨rfl, e80, (by decide : 1 + 0 ≤ _), (by decide : 22 + 0 ≤ _)⟩)
  dsimp only [Pt.U, Pt.locs, Pt.cells, Pt.slots] at X87 l87 y87 z87 st87 hQ87
  subst y87 z87
  obtain ⟨rfl, M87, e87⟩ := hQ87
  have N88 : Fr n0 L87 := by rw [l87]; exact Fr.app N84 M87
  refine own_by (T' := T87) (g' := (mkF m 41 #[.val (.long q0_0), .second, .val (.long q0_1), .second, .val (.int p0_2), .val (.ref b58), .unset] [(.int (own_F1 q0_0 (46 : Int32))), (.int (2 : Int32)), (.ref b58)])) st87 ?_
  obtain ⟨v89, _, ⟨T89, L89, k89, n89⟩, -, X89, ⟨Lc89, hQ89, l89, y89, z89⟩, st89⟩ := Jvm.LawKit.callS X87 hx (y := (⟨"com/example/vacant_errand/vacanterrand/PackedIdHighPinLaw", "c", "(I)C"⟩ : MethodName)) hown (mvT hZ (hw _ (List.mem_of_getElem? (i := 6) rfl))) (mvT hZ (hw _ (List.mem_of_getElem? (i := 7) rfl))) (mvT hZ (hw _ (List.mem_of_getElem? (i := 3) rfl))) (mvT hZ (hw _ (List.mem_of_getElem? (i := 8) rfl))) (by decide) (backOf (W := 2) (own_rm2 l Z a0 hw [] (own_F1 q0_0 (46 : Int32)) h80 n0 Z86) hZ (hw _ (List.mem_of_getElem? (i := 8) rfl)) (hw _ (List.mem_of_getElem? (i := 3) rfl)) (by decide) (by decide)) (g := (mkF m 41 #[.val (.long q0_0), .second, .val (.long q0_1), .second, .val (.int p0_2), .val (.ref b58), .unset] [(.int (own_F1 q0_0 (46 : Int32))), (.int (2 : Int32)), (.ref b58)])) rfl (by rw [hml]; rfl) (argsL := [(.int (own_F1 q0_0 (46 : Int32)))]) (rest := [(.int (2 : Int32)), (.ref b58)]) (lenOf pd__I_C rfl) rfl (by show 2 * 0 + _ ≤ _; exact Nat.le_of_eq rfl) (hb hby at_41) (fun _ _ => ⟨rfl, e87, (by decide : 1 + 0 ≤ _), (by decide : 22 + 0 ≤ _)⟩)
  dsimp only [Pt.U, Pt.locs, Pt.cells, Pt.slots] at X89 l89 y89 z89 st89 hQ89
  subst y89 z89
  obtain ⟨rfl, M89, e89⟩ := hQ89
  have N90 : Fr n0 L89 := by rw [l89]; exact Fr.app N88 M89
  refine own_by (T' := T89) (g' := (mkF m 44 #[.val (.long q0_0), .second, .val (.long q0_1), .second, .val (.int p0_2), .val (.ref b58), .unset] [(.int (own_F2 (own_F1 q0_0 (46 : Int32)))), (.int (2 : Int32)), (.ref b58)])) st89 ?_
  obtain ⟨cl91, Ar91, q91, S91, N91, H91, G91⟩ := f81
  obtain ⟨T92, h92, X92, e92, W92, st92⟩ := stC X89 hx hZ e89 Ar91 (j := (2 : Int32)) (inb_of S91 ⟨by decide, by decide⟩) (g := (mkF m 44 #[.val (.long q0_0), .second, .val (.long q0_1), .second, .val (.int p0_2), .val (.ref b58), .unset] [(.int (own_F2 (own_F1 q0_0 (46 : Int32)))), (.int (2 : Int32)), (.ref b58)])) rfl rfl (hb hby at_44)
  have f93 : Arv Z h92 b58 k58 .char (22 : Int32) [(.int (nar .char (own_F2 (own_F1 q0_0 (58 : Int32))))), (.int (nar .char (own_F2 (own_F1 q0_0 (52 : Int32))))), (.int (nar .char (own_F2 (own_F1 q0_0 (46 : Int32))))), (.int (0 : Int32)), (.int (0 : Int32)), (.int (0 : Int32)), (.int (0 : Int32)), (.int (0 : Int32)), (.int (0 : Int32)), (.int (0 : Int32)), (.int (0 : Int32)), (.int (0 : Int32)), (.int (0 : Int32)), (.int (0 : Int32)), (.int (0 : Int32)), (.int (0 : Int32)), (.int (0 : Int32)), (.int (0 : Int32)), (.int (0 : Int32)), (.int (0 : Int32)), (.int (0 : Int32)), (.int (0 : Int32))] (.int (0 : Int32)) := Arv.set Ar91 q91 S91 N91 H91 G91 (fits_nar_char _) W92 2 rfl (Nat.le_of_ble_eq_true rfl)
  have K95 : Keep h0 h92 [] := K83.wr W92 (Or.inr sz_b58)
  have N96 := Fr.snoc X92 N90 gn_b58
  obtain ⟨Lh92, X92, N96⟩ := own_hide X92 N96
  have O97 := O85.wr W92 gn_b58
  have Z98 := (Nat.le_trans Z86 (Keep.of_wr W92).1)
  refine own_by (T' := T92) (g' := (mkF m 45 #[.val (.long q0_0), .second, .val (.long q0_1), .second, .val (.int p0_2), .val (.ref b58), .unset] [])) st92 ?_
  refine own_by (T' := T92) (g' := (mkF m 51 #[.val (.long q0_0), .second, .val (.long q0_1), .second, .val (.int p0_2), .val (.ref b58), .unset] [(.int (40 : Int32)), (.long q0_0), (.int (3 : Int32)), (.ref b58)])) (fun t k => ?_) ?_
  · show Steps p.tables e below (T92.setTop (mkF m 45 #[.val (.long q0_0), .second, .val (.long q0_1), .second, .val (.int p0_2), .val (.ref b58), .unset] [])) t
    refine XS.aload X92.here hx rfl (hb hby at_45) rfl rfl ?_
    show Steps p.tables e below (T92.setTop (mkF m 47 #[.val (.long q0_0), .second, .val (.long q0_1), .second, .val (.int p0_2), .val (.ref b58), .unset] [(.ref b58)])) t
    refine XS.iconst X92.here hx rfl (hb hby at_47) ?_
    show Steps p.tables e below (T92.setTop (mkF m 48 #[.val (.long q0_0), .second, .val (.long q0_1), .second, .val (.int p0_2), .val (.ref b58), .unset] [(.int (3 : Int32)), (.ref b58)])) t
    refine XS.lloadN X92.here hx rfl (hb hby at_48) rfl ?_
    show Steps p.tables e below (T92.setTop (mkF m 49 #[.val (.long q0_0), .second, .val (.long q0_1), .second, .val (.int p0_2), .val (.ref b58), .unset] [(.long q0_0), (.int (3 : Int32)), (.ref b58)])) t
    refine XS.bipush X92.here hx rfl (hb hby at_49) ?_
    show Steps p.tables e below (T92.setTop (mkF m 51 #[.val (.long q0_0), .second, .val (.long q0_1), .second, .val (.int p0_2), .val (.ref b58), .unset] [(.int (40 : Int32)), (.long q0_0), (.int (3 : Int32)), (.ref b58)])) t
    exact k
  obtain ⟨v99, _, ⟨T99, L99, k99, n99⟩, -, X99, ⟨Lc99, hQ99, l99, y99, z99⟩, st99⟩ := Jvm.LawKit.callS X92 hx (y := (⟨"com/example/vacant_errand/vacanterrand/PackedIdHighPinLaw", "six", "(JI)I"⟩ : MethodName)) hown (mvT hZ (hw _ (List.mem_of_getElem? (i := 1) rfl))) (mvT hZ (hw _ (List.mem_of_getElem? (i := 2) rfl))) (mvT hZ (hw _ (List.mem_of_getElem? (i := 3) rfl))) (mvT hZ (hw _ (List.mem_of_getElem? (i := 4) rfl))) (by decide) (backOf (W := 2) (own_rm1 l Z a0 hw [] q0_0 (40 : Int32) h92 n0 Z98) hZ (hw _ (List.mem_of_getElem? (i := 4) rfl)) (hw _ (List.mem_of_getElem? (i := 3) rfl)) (by decide) (by decide)) (g := (mkF m 51 #[.val (.long q0_0), .second, .val (.long q0_1), .second, .val (.int p0_2), .val (.ref b58), .unset] [(.int (40 : Int32)), (.long q0_0), (.int (3 : Int32)), (.ref b58)])) rfl (by rw [hml]; rfl) (argsL := [(.long q0_0), (.int (40 : Int32))]) (rest := [(.int (3 : Int32)), (.ref b58)]) (lenOf pd__JI_I rfl) rfl (by show 2 * 0 + _ ≤ _; exact Nat.le_of_eq rfl) (hb hby at_51) (fun _ _ => ⟨rfl, e92, (by decide : 1 + 0 ≤ _), (by decide : 22 + 0 ≤ _)⟩)
  dsimp only [Pt.U, Pt.locs, Pt.cells, Pt.slots] at X99 l99 y99 z99 st99 hQ99
  subst y99 z99
  obtain ⟨rfl, M99, e99⟩ := hQ99
  have N100 : Fr n0 L99 := by rw [l99]; exact Fr.app N96 M99
  refine own_by (T' := T99) (g' := (mkF m 54 #[.val (.long q0_0), .second, .val (.long q0_1), .second, .val (.int p0_2), .val (.ref b58), .unset] [(.int (own_F1 q0_0 (40 : Int32))), (.int (3 : Int32)), (.ref b58)])) st99 ?_
  obtain ⟨v101, _, ⟨T101, L101, k101, n101⟩, -, X101, ⟨Lc101, hQ101, l101, y101, z101⟩, st101⟩ := Jvm.LawKit.callS X99 hx (y := (⟨"com/example/vacant_errand/vacanterrand/PackedIdHighPinLaw", "c", "(I)C"⟩ : MethodName)) hown (mvT hZ (hw _ (List.mem_of_getElem? (i := 6) rfl))) (mvT hZ (hw _ (List.mem_of_getElem? (i := 7) rfl))) (mvT hZ (hw _ (List.mem_of_getElem? (i := 3) rfl))) (mvT hZ (hw _ (List.mem_of_getElem? (i := 8) rfl))) (by decide) (backOf (W := 2) (own_rm2 l Z a0 hw [] (own_F1 q0_0 (40 : Int32)) h92 n0 Z98) hZ (hw _ (List.mem_of_getElem? (i := 8) rfl)) (hw _ (List.mem_of_getElem? (i := 3) rfl)) (by decide) (by decide)) (g := (mkF m 54 #[.val (.long q0_0), .second, .val (.long q0_1), .second, .val (.int p0_2), .val (.ref b58), .unset] [(.int (own_F1 q0_0 (40 : Int32))), (.int (3 : Int32)), (.ref b58)])) rfl (by rw [hml]; rfl) (argsL := [(.int (own_F1 q0_0 (40 : Int32)))]) (rest := [(.int (3 : Int32)), (.ref b58)]) (lenOf pd__I_C rfl) rfl (by show 2 * 0 + _ ≤ _; exact Nat.le_of_eq rfl) (hb hby at_54) (fun _ _ => ⟨rfl, e99, (by decide : 1 + 0 ≤ _), (by decide : 22 + 0 ≤ _)⟩)
  dsimp only [Pt.U, Pt.locs, Pt.cells, Pt.slots] at X101 l101 y101 z101 st101 hQ101
  subst y101 z101
  obtain ⟨rfl, M101, e101⟩ := hQ101
  have N102 : Fr n0 L101 := by rw [l101]; exact Fr.app N100 M101
  refine own_by (T' := T101) (g' := (mkF m 57 #[.val (.long q0_0), .second, .val (.long q0_1), .second, .val (.int p0_2), .val (.ref b58), .unset] [(.int (own_F2 (own_F1 q0_0 (40 : Int32)))), (.int (3 : Int32)), (.ref b58)])) st101 ?_
  obtain ⟨cl103, Ar103, q103, S103, N103, H103, G103⟩ := f93
  obtain ⟨T104, h104, X104, e104, W104, st104⟩ := stC X101 hx hZ e101 Ar103 (j := (3 : Int32)) (inb_of S103 ⟨by decide, by decide⟩) (g := (mkF m 57 #[.val (.long q0_0), .second, .val (.long q0_1), .second, .val (.int p0_2), .val (.ref b58), .unset] [(.int (own_F2 (own_F1 q0_0 (40 : Int32)))), (.int (3 : Int32)), (.ref b58)])) rfl rfl (hb hby at_57)
  have f105 : Arv Z h104 b58 k58 .char (22 : Int32) [(.int (nar .char (own_F2 (own_F1 q0_0 (58 : Int32))))), (.int (nar .char (own_F2 (own_F1 q0_0 (52 : Int32))))), (.int (nar .char (own_F2 (own_F1 q0_0 (46 : Int32))))), (.int (nar .char (own_F2 (own_F1 q0_0 (40 : Int32))))), (.int (0 : Int32)), (.int (0 : Int32)), (.int (0 : Int32)), (.int (0 : Int32)), (.int (0 : Int32)), (.int (0 : Int32)), (.int (0 : Int32)), (.int (0 : Int32)), (.int (0 : Int32)), (.int (0 : Int32)), (.int (0 : Int32)), (.int (0 : Int32)), (.int (0 : Int32)), (.int (0 : Int32)), (.int (0 : Int32)), (.int (0 : Int32)), (.int (0 : Int32)), (.int (0 : Int32))] (.int (0 : Int32)) := Arv.set Ar103 q103 S103 N103 H103 G103 (fits_nar_char _) W104 3 rfl (Nat.le_of_ble_eq_true rfl)
  have K107 : Keep h0 h104 [] := K95.wr W104 (Or.inr sz_b58)
  have N108 := Fr.snoc X104 N102 gn_b58
  obtain ⟨Lh104, X104, N108⟩ := own_hide X104 N108
  have O109 := O97.wr W104 gn_b58
  have Z110 := (Nat.le_trans Z98 (Keep.of_wr W104).1)
  refine own_by (T' := T104) (g' := (mkF m 58 #[.val (.long q0_0), .second, .val (.long q0_1), .second, .val (.int p0_2), .val (.ref b58), .unset] [])) st104 ?_
  refine own_by (T' := T104) (g' := (mkF m 64 #[.val (.long q0_0), .second, .val (.long q0_1), .second, .val (.int p0_2), .val (.ref b58), .unset] [(.int (34 : Int32)), (.long q0_0), (.int (4 : Int32)), (.ref b58)])) (fun t k => ?_) ?_
  · show Steps p.tables e below (T104.setTop (mkF m 58 #[.val (.long q0_0), .second, .val (.long q0_1), .second, .val (.int p0_2), .val (.ref b58), .unset] [])) t
    refine XS.aload X104.here hx rfl (hb hby at_58) rfl rfl ?_
    show Steps p.tables e below (T104.setTop (mkF m 60 #[.val (.long q0_0), .second, .val (.long q0_1), .second, .val (.int p0_2), .val (.ref b58), .unset] [(.ref b58)])) t
    refine XS.iconst X104.here hx rfl (hb hby at_60) ?_
    show Steps p.tables e below (T104.setTop (mkF m 61 #[.val (.long q0_0), .second, .val (.long q0_1), .second, .val (.int p0_2), .val (.ref b58), .unset] [(.int (4 : Int32)), (.ref b58)])) t
    refine XS.lloadN X104.here hx rfl (hb hby at_61) rfl ?_
    show Steps p.tables e below (T104.setTop (mkF m 62 #[.val (.long q0_0), .second, .val (.long q0_1), .second, .val (.int p0_2), .val (.ref b58), .unset] [(.long q0_0), (.int (4 : Int32)), (.ref b58)])) t
    refine XS.bipush X104.here hx rfl (hb hby at_62) ?_
    show Steps p.tables e below (T104.setTop (mkF m 64 #[.val (.long q0_0), .second, .val (.long q0_1), .second, .val (.int p0_2), .val (.ref b58), .unset] [(.int (34 : Int32)), (.long q0_0), (.int (4 : Int32)), (.ref b58)])) t
    exact k
  obtain ⟨v111, _, ⟨T111, L111, k111, n111⟩, -, X111, ⟨Lc111, hQ111, l111, y111, z111⟩, st111⟩ := Jvm.LawKit.callS X104 hx (y := (⟨"com/example/vacant_errand/vacanterrand/PackedIdHighPinLaw", "six", "(JI)I"⟩ : MethodName)) hown (mvT hZ (hw _ (List.mem_of_getElem? (i := 1) rfl))) (mvT hZ (hw _ (List.mem_of_getElem? (i := 2) rfl))) (mvT hZ (hw _ (List.mem_of_getElem? (i := 3) rfl))) (mvT hZ (hw _ (List.mem_of_getElem? (i := 4) rfl))) (by decide) (backOf (W := 2) (own_rm1 l Z a0 hw [] q0_0 (34 : Int32) h104 n0 Z110) hZ (hw _ (List.mem_of_getElem? (i := 4) rfl)) (hw _ (List.mem_of_getElem? (i := 3) rfl)) (by decide) (by decide)) (g := (mkF m 64 #[.val (.long q0_0), .second, .val (.long q0_1), .second, .val (.int p0_2), .val (.ref b58), .unset] [(.int (34 : Int32)), (.long q0_0), (.int (4 : Int32)), (.ref b58)])) rfl (by rw [hml]; rfl) (argsL := [(.long q0_0), (.int (34 : Int32))]) (rest := [(.int (4 : Int32)), (.ref b58)]) (lenOf pd__JI_I rfl) rfl (by show 2 * 0 + _ ≤ _; exact Nat.le_of_eq rfl) (hb hby at_64) (fun _ _ => ⟨rfl, e104, (by decide : 1 + 0 ≤ _), (by decide : 22 + 0 ≤ _)⟩)
  dsimp only [Pt.U, Pt.locs, Pt.cells, Pt.slots] at X111 l111 y111 z111 st111 hQ111
  subst y111 z111
  obtain ⟨rfl, M111, e111⟩ := hQ111
  have N112 : Fr n0 L111 := by rw [l111]; exact Fr.app N108 M111
  refine own_by (T' := T111) (g' := (mkF m 67 #[.val (.long q0_0), .second, .val (.long q0_1), .second, .val (.int p0_2), .val (.ref b58), .unset] [(.int (own_F1 q0_0 (34 : Int32))), (.int (4 : Int32)), (.ref b58)])) st111 ?_
  obtain ⟨v113, _, ⟨T113, L113, k113, n113⟩, -, X113, ⟨Lc113, hQ113, l113, y113, z113⟩, st113⟩ := Jvm.LawKit.callS X111 hx (y := (⟨"com/example/vacant_errand/vacanterrand/PackedIdHighPinLaw", "c", "(I)C"⟩ : MethodName)) hown (mvT hZ (hw _ (List.mem_of_getElem? (i := 6) rfl))) (mvT hZ (hw _ (List.mem_of_getElem? (i := 7) rfl))) (mvT hZ (hw _ (List.mem_of_getElem? (i := 3) rfl))) (mvT hZ (hw _ (List.mem_of_getElem? (i := 8) rfl))) (by decide) (backOf (W := 2) (own_rm2 l Z a0 hw [] (own_F1 q0_0 (34 : Int32)) h104 n0 Z110) hZ (hw _ (List.mem_of_getElem? (i := 8) rfl)) (hw _ (List.mem_of_getElem? (i := 3) rfl)) (by decide) (by decide)) (g := (mkF m 67 #[.val (.long q0_0), .second, .val (.long q0_1), .second, .val (.int p0_2), .val (.ref b58), .unset] [(.int (own_F1 q0_0 (34 : Int32))), (.int (4 : Int32)), (.ref b58)])) rfl (by rw [hml]; rfl) (argsL := [(.int (own_F1 q0_0 (34 : Int32)))]) (rest := [(.int (4 : Int32)), (.ref b58)]) (lenOf pd__I_C rfl) rfl (by show 2 * 0 + _ ≤ _; exact Nat.le_of_eq rfl) (hb hby at_67) (fun _ _ => ⟨rfl, e111, (by decide : 1 + 0 ≤ _), (by decide : 22 + 0 ≤ _)⟩)
  dsimp only [Pt.U, Pt.locs, Pt.cells, Pt.slots] at X113 l113 y113 z113 st113 hQ113
  subst y113 z113
  obtain ⟨rfl, M113, e113⟩ := hQ113
  have N114 : Fr n0 L113 := by rw [l113]; exact Fr.app N112 M113
  refine own_by (T' := T113) (g' := (mkF m 70 #[.val (.long q0_0), .second, .val (.long q0_1), .second, .val (.int p0_2), .val (.ref b58), .unset] [(.int (own_F2 (own_F1 q0_0 (34 : Int32)))), (.int (4 : Int32)), (.ref b58)])) st113 ?_
  obtain ⟨cl115, Ar115, q115, S115, N115, H115, G115⟩ := f105
  obtain ⟨T116, h116, X116, e116, W116, st116⟩ := stC X113 hx hZ e113 Ar115 (j := (4 : Int32)) (inb_of S115 ⟨by decide, by decide⟩) (g := (mkF m 70 #[.val (.long q0_0), .second, .val (.long q0_1), .second, .val (.int p0_2), .val (.ref b58), .unset] [(.int (own_F2 (own_F1 q0_0 (34 : Int32)))), (.int (4 : Int32)), (.ref b58)])) rfl rfl (hb hby at_70)
  have f117 : Arv Z h116 b58 k58 .char (22 : Int32) [(.int (nar .char (own_F2 (own_F1 q0_0 (58 : Int32))))), (.int (nar .char (own_F2 (own_F1 q0_0 (52 : Int32))))), (.int (nar .char (own_F2 (own_F1 q0_0 (46 : Int32))))), (.int (nar .char (own_F2 (own_F1 q0_0 (40 : Int32))))), (.int (nar .char (own_F2 (own_F1 q0_0 (34 : Int32))))), (.int (0 : Int32)), (.int (0 : Int32)), (.int (0 : Int32)), (.int (0 : Int32)), (.int (0 : Int32)), (.int (0 : Int32)), (.int (0 : Int32)), (.int (0 : Int32)), (.int (0 : Int32)), (.int (0 : Int32)), (.int (0 : Int32)), (.int (0 : Int32)), (.int (0 : Int32)), (.int (0 : Int32)), (.int (0 : Int32)), (.int (0 : Int32)), (.int (0 : Int32))] (.int (0 : Int32)) := Arv.set Ar115 q115 S115 N115 H115 G115 (fits_nar_char _) W116 4 rfl (Nat.le_of_ble_eq_true rfl)
  have K119 : Keep h0 h116 [] := K107.wr W116 (Or.inr sz_b58)
  have N120 := Fr.snoc X116 N114 gn_b58
  obtain ⟨Lh116, X116, N120⟩ := own_hide X116 N120
  have O121 := O109.wr W116 gn_b58
  have Z122 := (Nat.le_trans Z110 (Keep.of_wr W116).1)
  refine own_by (T' := T116) (g' := (mkF m 71 #[.val (.long q0_0), .second, .val (.long q0_1), .second, .val (.int p0_2), .val (.ref b58), .unset] [])) st116 ?_
  refine own_by (T' := T116) (g' := (mkF m 77 #[.val (.long q0_0), .second, .val (.long q0_1), .second, .val (.int p0_2), .val (.ref b58), .unset] [(.int (28 : Int32)), (.long q0_0), (.int (5 : Int32)), (.ref b58)])) (fun t k => ?_) ?_
  · show Steps p.tables e below (T116.setTop (mkF m 71 #[.val (.long q0_0), .second, .val (.long q0_1), .second, .val (.int p0_2), .val (.ref b58), .unset] [])) t
    refine XS.aload X116.here hx rfl (hb hby at_71) rfl rfl ?_
    show Steps p.tables e below (T116.setTop (mkF m 73 #[.val (.long q0_0), .second, .val (.long q0_1), .second, .val (.int p0_2), .val (.ref b58), .unset] [(.ref b58)])) t
    refine XS.iconst X116.here hx rfl (hb hby at_73) ?_
    show Steps p.tables e below (T116.setTop (mkF m 74 #[.val (.long q0_0), .second, .val (.long q0_1), .second, .val (.int p0_2), .val (.ref b58), .unset] [(.int (5 : Int32)), (.ref b58)])) t
    refine XS.lloadN X116.here hx rfl (hb hby at_74) rfl ?_
    show Steps p.tables e below (T116.setTop (mkF m 75 #[.val (.long q0_0), .second, .val (.long q0_1), .second, .val (.int p0_2), .val (.ref b58), .unset] [(.long q0_0), (.int (5 : Int32)), (.ref b58)])) t
    refine XS.bipush X116.here hx rfl (hb hby at_75) ?_
    show Steps p.tables e below (T116.setTop (mkF m 77 #[.val (.long q0_0), .second, .val (.long q0_1), .second, .val (.int p0_2), .val (.ref b58), .unset] [(.int (28 : Int32)), (.long q0_0), (.int (5 : Int32)), (.ref b58)])) t
    exact k
  obtain ⟨v123, _, ⟨T123, L123, k123, n123⟩, -, X123, ⟨Lc123, hQ123, l123, y123, z123⟩, st123⟩ := Jvm.LawKit.callS X116 hx (y := (⟨"com/example/vacant_errand/vacanterrand/PackedIdHighPinLaw", "six", "(JI)I"⟩ : MethodName)) hown (mvT hZ (hw _ (List.mem_of_getElem? (i := 1) rfl))) (mvT hZ (hw _ (List.mem_of_getElem? (i := 2) rfl))) (mvT hZ (hw _ (List.mem_of_getElem? (i := 3) rfl))) (mvT hZ (hw _ (List.mem_of_getElem? (i := 4) rfl))) (by decide) (backOf (W := 2) (own_rm1 l Z a0 hw [] q0_0 (28 : Int32) h116 n0 Z122) hZ (hw _ (List.mem_of_getElem? (i := 4) rfl)) (hw _ (List.mem_of_getElem? (i := 3) rfl)) (by decide) (by decide)) (g := (mkF m 77 #[.val (.long q0_0), .second, .val (.long q0_1), .second, .val (.int p0_2), .val (.ref b58), .unset] [(.int (28 : Int32)), (.long q0_0), (.int (5 : Int32)), (.ref b58)])) rfl (by rw [hml]; rfl) (argsL := [(.long q0_0), (.int (28 : Int32))]) (rest := [(.int (5 : Int32)), (.ref b58)]) (lenOf pd__JI_I rfl) rfl (by show 2 * 0 + _ ≤ _; exact Nat.le_of_eq rfl) (hb hby at_77) (fun _ _ => ⟨rfl, e116, (by decide : 1 + 0 ≤ _), (by decide : 22 + 0 ≤ _)⟩)
  dsimp only [Pt.U, Pt.locs, Pt.cells, Pt.slots] at X123 l123 y123 z123 st123 hQ123
  subst y123 z123
  obtain ⟨rfl, M123, e123⟩ := hQ123
  have N124 : Fr n0 L123 := by rw [l123]; exact Fr.app N120 M123
  refine own_by (T' := T123) (g' := (mkF m 80 #[.val (.long q0_0), .second, .val (.long q0_1), .second, .val (.int p0_2), .val (.ref b58), .unset] [(.int (own_F1 q0_0 (28 : Int32))), (.int (5 : Int32)), (.ref b58)])) st123 ?_
  obtain ⟨v125, _, ⟨T125, L125, k125, n125⟩, -, X125, ⟨Lc125, hQ125, l125, y125, z125⟩, st125⟩ := Jvm.LawKit.callS X123 hx (y := (⟨"com/example/vacant_errand/vacanterrand/PackedIdHighPinLaw", "c", "(I)C"⟩ : MethodName)) hown (mvT hZ (hw _ (List.mem_of_getElem? (i := 6) rfl))) (mvT hZ (hw _ (List.mem_of_getElem? (i := 7) rfl))) (mvT hZ (hw _ (List.mem_of_getElem? (i := 3) rfl))) (mvT hZ (hw _ (List.mem_of_getElem? (i := 8) rfl))) (by decide) (backOf (W := 2) (own_rm2 l Z a0 hw [] (own_F1 q0_0 (28 : Int32)) h116 n0 Z122) hZ (hw _ (List.mem_of_getElem? (i := 8) rfl)) (hw _ (List.mem_of_getElem? (i := 3) rfl)) (by decide) (by decide)) (g := (mkF m 80 #[.val (.long q0_0), .second, .val (.long q0_1), .second, .val (.int p0_2), .val (.ref b58), .unset] [(.int (own_F1 q0_0 (28 : Int32))), (.int (5 : Int32)), (.ref b58)])) rfl (by rw [hml]; rfl) (argsL := [(.int (own_F1 q0_0 (28 : Int32)))]) (rest := [(.int (5 : Int32)), (.ref b58)]) (lenOf pd__I_C rfl) rfl (by show 2 * 0 + _ ≤ _; exact Nat.le_of_eq rfl) (hb hby at_80) (fun _ _ => ⟨rfl, e123, (by decide : 1 + 0 ≤ _), (by decide : 22 + 0 ≤ _)⟩)
  dsimp only [Pt.U, Pt.locs, Pt.cells, Pt.slots] at X125 l125 y125 z125 st125 hQ125
  subst y125 z125
  obtain ⟨rfl, M125, e125⟩ := hQ125
  have N126 : Fr n0 L125 := by rw [l125]; exact Fr.app N124 M125
  refine own_by (T' := T125) (g' := (mkF m 83 #[.val (.long q0_0), .second, .val (.long q0_1), .second, .val (.int p0_2), .val (.ref b58), .unset] [(.int (own_F2 (own_F1 q0_0 (28 : Int32)))), (.int (5 : Int32)), (.ref b58)])) st125 ?_
  obtain ⟨cl127, Ar127, q127, S127, N127, H127, G127⟩ := f117
  obtain ⟨T128, h128, X128, e128, W128, st128⟩ := stC X125 hx hZ e125 Ar127 (j := (5 : Int32)) (inb_of S127 ⟨by decide, by decide⟩) (g := (mkF m 83 #[.val (.long q0_0), .second, .val (.long q0_1), .second, .val (.int p0_2), .val (.ref b58), .unset] [(.int (own_F2 (own_F1 q0_0 (28 : Int32)))), (.int (5 : Int32)), (.ref b58)])) rfl rfl (hb hby at_83)
  have f129 : Arv Z h128 b58 k58 .char (22 : Int32) [(.int (nar .char (own_F2 (own_F1 q0_0 (58 : Int32))))), (.int (nar .char (own_F2 (own_F1 q0_0 (52 : Int32))))), (.int (nar .char (own_F2 (own_F1 q0_0 (46 : Int32))))), (.int (nar .char (own_F2 (own_F1 q0_0 (40 : Int32))))), (.int (nar .char (own_F2 (own_F1 q0_0 (34 : Int32))))), (.int (nar .char (own_F2 (own_F1 q0_0 (28 : Int32))))), (.int (0 : Int32)), (.int (0 : Int32)), (.int (0 : Int32)), (.int (0 : Int32)), (.int (0 : Int32)), (.int (0 : Int32)), (.int (0 : Int32)), (.int (0 : Int32)), (.int (0 : Int32)), (.int (0 : Int32)), (.int (0 : Int32)), (.int (0 : Int32)), (.int (0 : Int32)), (.int (0 : Int32)), (.int (0 : Int32)), (.int (0 : Int32))] (.int (0 : Int32)) := Arv.set Ar127 q127 S127 N127 H127 G127 (fits_nar_char _) W128 5 rfl (Nat.le_of_ble_eq_true rfl)
  have K131 : Keep h0 h128 [] := K119.wr W128 (Or.inr sz_b58)
  have N132 := Fr.snoc X128 N126 gn_b58
  obtain ⟨Lh128, X128, N132⟩ := own_hide X128 N132
  have O133 := O121.wr W128 gn_b58
  have Z134 := (Nat.le_trans Z122 (Keep.of_wr W128).1)
  refine own_by (T' := T128) (g' := (mkF m 84 #[.val (.long q0_0), .second, .val (.long q0_1), .second, .val (.int p0_2), .val (.ref b58), .unset] [])) st128 ?_
  refine own_by (T' := T128) (g' := (mkF m 91 #[.val (.long q0_0), .second, .val (.long q0_1), .second, .val (.int p0_2), .val (.ref b58), .unset] [(.int (22 : Int32)), (.long q0_0), (.int (6 : Int32)), (.ref b58)])) (fun t k => ?_) ?_
  · show Steps p.tables e below (T128.setTop (mkF m 84 #[.val (.long q0_0), .second, .val (.long q0_1), .second, .val (.int p0_2), .val (.ref b58), .unset] [])) t
    refine XS.aload X128.here hx rfl (hb hby at_84) rfl rfl ?_
    show Steps p.tables e below (T128.setTop (mkF m 86 #[.val (.long q0_0), .second, .val (.long q0_1), .second, .val (.int p0_2), .val (.ref b58), .unset] [(.ref b58)])) t
    refine XS.bipush X128.here hx rfl (hb hby at_86) ?_
    show Steps p.tables e below (T128.setTop (mkF m 88 #[.val (.long q0_0), .second, .val (.long q0_1), .second, .val (.int p0_2), .val (.ref b58), .unset] [(.int (6 : Int32)), (.ref b58)])) t
    refine XS.lloadN X128.here hx rfl (hb hby at_88) rfl ?_
    show Steps p.tables e below (T128.setTop (mkF m 89 #[.val (.long q0_0), .second, .val (.long q0_1), .second, .val (.int p0_2), .val (.ref b58), .unset] [(.long q0_0), (.int (6 : Int32)), (.ref b58)])) t
    refine XS.bipush X128.here hx rfl (hb hby at_89) ?_
    show Steps p.tables e below (T128.setTop (mkF m 91 #[.val (.long q0_0), .second, .val (.long q0_1), .second, .val (.int p0_2), .val (.ref b58), .unset] [(.int (22 : Int32)), (.long q0_0), (.int (6 : Int32)), (.ref b58)])) t
    exact k
  obtain ⟨v135, _, ⟨T135, L135, k135, n135⟩, -, X135, ⟨Lc135, hQ135, l135, y135, z135⟩, st135⟩ := Jvm.LawKit.callS X128 hx (y := (⟨"com/example/vacant_errand/vacanterrand/PackedIdHighPinLaw", "six", "(JI)I"⟩ : MethodName)) hown (mvT hZ (hw _ (List.mem_of_getElem? (i := 1) rfl))) (mvT hZ (hw _ (List.mem_of_getElem? (i := 2) rfl))) (mvT hZ (hw _ (List.mem_of_getElem? (i := 3) rfl))) (mvT hZ (hw _ (List.mem_of_getElem? (i := 4) rfl))) (by decide) (backOf (W := 2) (own_rm1 l Z a0 hw [] q0_0 (22 : Int32) h128 n0 Z134) hZ (hw _ (List.mem_of_getElem? (i := 4) rfl)) (hw _ (List.mem_of_getElem? (i := 3) rfl)) (by decide) (by decide)) (g := (mkF m 91 #[.val (.long q0_0), .second, .val (.long q0_1), .second, .val (.int p0_2), .val (.ref b58), .unset] [(.int (22 : Int32)), (.long q0_0), (.int (6 : Int32)), (.ref b58)])) rfl (by rw [hml]; rfl) (argsL := [(.long q0_0), (.int (22 : Int32))]) (rest := [(.int (6 : Int32)), (.ref b58)]) (lenOf pd__JI_I rfl) rfl (by show 2 * 0 + _ ≤ _; exact Nat.le_of_eq rfl) (hb hby at_91) (fun _ _ => ⟨rfl, e128, (by decide : 1 + 0 ≤ _), (by decide : 22 + 0 ≤ _)⟩)
  dsimp only [Pt.U, Pt.locs, Pt.cells, Pt.slots] at X135 l135 y135 z135 st135 hQ135
  subst y135 z135
  obtain ⟨rfl, M135, e135⟩ := hQ135
  have N136 : Fr n0 L135 := by rw [l135]; exact Fr.app N132 M135
  refine own_by (T' := T135) (g' := (mkF m 94 #[.val (.long q0_0), .second, .val (.long q0_1), .second, .val (.int p0_2), .val (.ref b58), .unset] [(.int (own_F1 q0_0 (22 : Int32))), (.int (6 : Int32)), (.ref b58)])) st135 ?_
  obtain ⟨v137, _, ⟨T137, L137, k137, n137⟩, -, X137, ⟨Lc137, hQ137, l137, y137, z137⟩, st137⟩ := Jvm.LawKit.callS X135 hx (y := (⟨"com/example/vacant_errand/vacanterrand/PackedIdHighPinLaw", "c", "(I)C"⟩ : MethodName)) hown (mvT hZ (hw _ (List.mem_of_getElem? (i := 6) rfl))) (mvT hZ (hw _ (List.mem_of_getElem? (i := 7) rfl))) (mvT hZ (hw _ (List.mem_of_getElem? (i := 3) rfl))) (mvT hZ (hw _ (List.mem_of_getElem? (i := 8) rfl))) (by decide) (backOf (W := 2) (own_rm2 l Z a0 hw [] (own_F1 q0_0 (22 : Int32)) h128 n0 Z134) hZ (hw _ (List.mem_of_getElem? (i := 8) rfl)) (hw _ (List.mem_of_getElem? (i := 3) rfl)) (by decide) (by decide)) (g := (mkF m 94 #[.val (.long q0_0), .second, .val (.long q0_1), .second, .val (.int p0_2), .val (.ref b58), .unset] [(.int (own_F1 q0_0 (22 : Int32))), (.int (6 : Int32)), (.ref b58)])) rfl (by rw [hml]; rfl) (argsL := [(.int (own_F1 q0_0 (22 : Int32)))]) (rest := [(.int (6 : Int32)), (.ref b58)]) (lenOf pd__I_C rfl) rfl (by show 2 * 0 + _ ≤ _; exact Nat.le_of_eq rfl) (hb hby at_94) (fun _ _ => ⟨rfl, e135, (by decide : 1 + 0 ≤ _), (by decide : 22 + 0 ≤ _)⟩)
  dsimp only [Pt.U, Pt.locs, Pt.cells, Pt.slots] at X137 l137 y137 z137 st137 hQ137
  subst y137 z137
  obtain ⟨rfl, M137, e137⟩ := hQ137
  have N138 : Fr n0 L137 := by rw [l137]; exact Fr.app N136 M137
  refine own_by (T' := T137) (g' := (mkF m 97 #[.val (.long q0_0), .second, .val (.long q0_1), .second, .val (.int p0_2), .val (.ref b58), .unset] [(.int (own_F2 (own_F1 q0_0 (22 : Int32)))), (.int (6 : Int32)), (.ref b58)])) st137 ?_
  obtain ⟨cl139, Ar139, q139, S139, N139, H139, G139⟩ := f129
  obtain ⟨T140, h140, X140, e140, W140, st140⟩ := stC X137 hx hZ e137 Ar139 (j := (6 : Int32)) (inb_of S139 ⟨by decide, by decide⟩) (g := (mkF m 97 #[.val (.long q0_0), .second, .val (.long q0_1), .second, .val (.int p0_2), .val (.ref b58), .unset] [(.int (own_F2 (own_F1 q0_0 (22 : Int32)))), (.int (6 : Int32)), (.ref b58)])) rfl rfl (hb hby at_97)
  have f141 : Arv Z h140 b58 k58 .char (22 : Int32) [(.int (nar .char (own_F2 (own_F1 q0_0 (58 : Int32))))), (.int (nar .char (own_F2 (own_F1 q0_0 (52 : Int32))))), (.int (nar .char (own_F2 (own_F1 q0_0 (46 : Int32))))), (.int (nar .char (own_F2 (own_F1 q0_0 (40 : Int32))))), (.int (nar .char (own_F2 (own_F1 q0_0 (34 : Int32))))), (.int (nar .char (own_F2 (own_F1 q0_0 (28 : Int32))))), (.int (nar .char (own_F2 (own_F1 q0_0 (22 : Int32))))), (.int (0 : Int32)), (.int (0 : Int32)), (.int (0 : Int32)), (.int (0 : Int32)), (.int (0 : Int32)), (.int (0 : Int32)), (.int (0 : Int32)), (.int (0 : Int32)), (.int (0 : Int32)), (.int (0 : Int32)), (.int (0 : Int32)), (.int (0 : Int32)), (.int (0 : Int32)), (.int (0 : Int32)), (.int (0 : Int32))] (.int (0 : Int32)) := Arv.set Ar139 q139 S139 N139 H139 G139 (fits_nar_char _) W140 6 rfl (Nat.le_of_ble_eq_true rfl)
  have K143 : Keep h0 h140 [] := K131.wr W140 (Or.inr sz_b58)
  have N144 := Fr.snoc X140 N138 gn_b58
  obtain ⟨Lh140, X140, N144⟩ := own_hide X140 N144
  have O145 := O133.wr W140 gn_b58
  have Z146 := (Nat.le_trans Z134 (Keep.of_wr W140).1)
  refine own_by (T' := T140) (g' := (mkF m 98 #[.val (.long q0_0), .second, .val (.long q0_1), .second, .val (.int p0_2), .val (.ref b58), .unset] [])) st140 ?_
  refine own_by (T' := T140) (g' := (mkF m 105 #[.val (.long q0_0), .second, .val (.long q0_1), .second, .val (.int p0_2), .val (.ref b58), .unset] [(.int (16 : Int32)), (.long q0_0), (.int (7 : Int32)), (.ref b58)])) (fun t k => ?_) ?_
  · show Steps p.tables e below (T140.setTop (mkF m 98 #[.val (.long q0_0), .second, .val (.long q0_1), .second, .val (.int p0_2), .val (.ref b58), .unset] [])) t
    refine XS.aload X140.here hx rfl (hb hby at_98) rfl rfl ?_
    show Steps p.tables e below (T140.setTop (mkF m 100 #[.val (.long q0_0), .second, .val (.long q0_1), .second, .val (.int p0_2), .val (.ref b58), .unset] [(.ref b58)])) t
    refine XS.bipush X140.here hx rfl (hb hby at_100) ?_
    show Steps p.tables e below (T140.setTop (mkF m 102 #[.val (.long q0_0), .second, .val (.long q0_1), .second, .val (.int p0_2), .val (.ref b58), .unset] [(.int (7 : Int32)), (.ref b58)])) t
    refine XS.lloadN X140.here hx rfl (hb hby at_102) rfl ?_
    show Steps p.tables e below (T140.setTop (mkF m 103 #[.val (.long q0_0), .second, .val (.long q0_1), .second, .val (.int p0_2), .val (.ref b58), .unset] [(.long q0_0), (.int (7 : Int32)), (.ref b58)])) t
    refine XS.bipush X140.here hx rfl (hb hby at_103) ?_
    show Steps p.tables e below (T140.setTop (mkF m 105 #[.val (.long q0_0), .second, .val (.long q0_1), .second, .val (.int p0_2), .val (.ref b58), .unset] [(.int (16 : Int32)), (.long q0_0), (.int (7 : Int32)), (.ref b58)])) t
    exact k
  obtain ⟨v147, _, ⟨T147, L147, k147, n147⟩, -, X147, ⟨Lc147, hQ147, l147, y147, z147⟩, st147⟩ := Jvm.LawKit.callS X140 hx (y := (⟨"com/example/vacant_errand/vacanterrand/PackedIdHighPinLaw", "six", "(JI)I"⟩ : MethodName)) hown (mvT hZ (hw _ (List.mem_of_getElem? (i := 1) rfl))) (mvT hZ (hw _ (List.mem_of_getElem? (i := 2) rfl))) (mvT hZ (hw _ (List.mem_of_getElem? (i := 3) rfl))) (mvT hZ (hw _ (List.mem_of_getElem? (i := 4) rfl))) (by decide) (backOf (W := 2) (own_rm1 l Z a0 hw [] q0_0 (16 : Int32) h140 n0 Z146) hZ (hw _ (List.mem_of_getElem? (i := 4) rfl)) (hw _ (List.mem_of_getElem? (i := 3) rfl)) (by decide) (by decide)) (g := (mkF m 105 #[.val (.long q0_0), .second, .val (.long q0_1), .second, .val (.int p0_2), .val (.ref b58), .unset] [(.int (16 : Int32)), (.long q0_0), (.int (7 : Int32)), (.ref b58)])) rfl (by rw [hml]; rfl) (argsL := [(.long q0_0), (.int (16 : Int32))]) (rest := [(.int (7 : Int32)), (.ref b58)]) (lenOf pd__JI_I rfl) rfl (by show 2 * 0 + _ ≤ _; exact Nat.le_of_eq rfl) (hb hby at_105) (fun _ _ => ⟨rfl, e140, (by decide : 1 + 0 ≤ _), (by decide : 22 + 0 ≤ _)⟩)
  dsimp only [Pt.U, Pt.locs, Pt.cells, Pt.slots] at X147 l147 y147 z147 st147 hQ147
  subst y147 z147
  obtain ⟨rfl, M147, e147⟩ := hQ147
  have N148 : Fr n0 L147 := by rw [l147]; exact Fr.app N144 M147
  refine own_by (T' := T147) (g' := (mkF m 108 #[.val (.long q0_0), .second, .val (.long q0_1), .second, .val (.int p0_2), .val (.ref b58), .unset] [(.int (own_F1 q0_0 (16 : Int32))), (.int (7 : Int32)), (.ref b58)])) st147 ?_
  obtain ⟨v149, _, ⟨T149, L149, k149, n149⟩, -, X149, ⟨Lc149, hQ149, l149, y149, z149⟩, st149⟩ := Jvm.LawKit.callS X147 hx (y := (⟨"com/example/vacant_errand/vacanterrand/PackedIdHighPinLaw", "c", "(I)C"⟩ : MethodName)) hown (mvT hZ (hw _ (List.mem_of_getElem? (i := 6) rfl))) (mvT hZ (hw _ (List.mem_of_getElem? (i := 7) rfl))) (mvT hZ (hw _ (List.mem_of_getElem? (i := 3) rfl))) (mvT hZ (hw _ (List.mem_of_getElem? (i := 8) rfl))) (by decide) (backOf (W := 2) (own_rm2 l Z a0 hw [] (own_F1 q0_0 (16 : Int32)) h140 n0 Z146) hZ (hw _ (List.mem_of_getElem? (i := 8) rfl)) (hw _ (List.mem_of_getElem? (i := 3) rfl)) (by decide) (by decide)) (g := (mkF m 108 #[.val (.long q0_0), .second, .val (.long q0_1), .second, .val (.int p0_2), .val (.ref b58), .unset] [(.int (own_F1 q0_0 (16 : Int32))), (.int (7 : Int32)), (.ref b58)])) rfl (by rw [hml]; rfl) (argsL := [(.int (own_F1 q0_0 (16 : Int32)))]) (rest := [(.int (7 : Int32)), (.ref b58)]) (lenOf pd__I_C rfl) rfl (by show 2 * 0 + _ ≤ _; exact Nat.le_of_eq rfl) (hb hby at_108) (fun _ _ => ⟨rfl, e147, (by decide : 1 + 0 ≤ _), (by decide : 22 + 0 ≤ _)⟩)
  dsimp only [Pt.U, Pt.locs, Pt.cells, Pt.slots] at X149 l149 y149 z149 st149 hQ149
  subst y149 z149
  obtain ⟨rfl, M149, e149⟩ := hQ149
  have N150 : Fr n0 L149 := by rw [l149]; exact Fr.app N148 M149
  refine own_by (T' := T149) (g' := (mkF m 111 #[.val (.long q0_0), .second, .val (.long q0_1), .second, .val (.int p0_2), .val (.ref b58), .unset] [(.int (own_F2 (own_F1 q0_0 (16 : Int32)))), (.int (7 : Int32)), (.ref b58)])) st149 ?_
  obtain ⟨cl151, Ar151, q151, S151, N151, H151, G151⟩ := f141
  obtain ⟨T152, h152, X152, e152, W152, st152⟩ := stC X149 hx hZ e149 Ar151 (j := (7 : Int32)) (inb_of S151 ⟨by decide, by decide⟩) (g := (mkF m 111 #[.val (.long q0_0), .second, .val (.long q0_1), .second, .val (.int p0_2), .val (.ref b58), .unset] [(.int (own_F2 (own_F1 q0_0 (16 : Int32)))), (.int (7 : Int32)), (.ref b58)])) rfl rfl (hb hby at_111)
  have f153 : Arv Z h152 b58 k58 .char (22 : Int32) [(.int (nar .char (own_F2 (own_F1 q0_0 (58 : Int32))))), (.int (nar .char (own_F2 (own_F1 q0_0 (52 : Int32))))), (.int (nar .char (own_F2 (own_F1 q0_0 (46 : Int32))))), (.int (nar .char (own_F2 (own_F1 q0_0 (40 : Int32))))), (.int (nar .char (own_F2 (own_F1 q0_0 (34 : Int32))))), (.int (nar .char (own_F2 (own_F1 q0_0 (28 : Int32))))), (.int (nar .char (own_F2 (own_F1 q0_0 (22 : Int32))))), (.int (nar .char (own_F2 (own_F1 q0_0 (16 : Int32))))), (.int (0 : Int32)), (.int (0 : Int32)), (.int (0 : Int32)), (.int (0 : Int32)), (.int (0 : Int32)), (.int (0 : Int32)), (.int (0 : Int32)), (.int (0 : Int32)), (.int (0 : Int32)), (.int (0 : Int32)), (.int (0 : Int32)), (.int (0 : Int32)), (.int (0 : Int32)), (.int (0 : Int32))] (.int (0 : Int32)) := Arv.set Ar151 q151 S151 N151 H151 G151 (fits_nar_char _) W152 7 rfl (Nat.le_of_ble_eq_true rfl)
  have K155 : Keep h0 h152 [] := K143.wr W152 (Or.inr sz_b58)
  have N156 := Fr.snoc X152 N150 gn_b58
  obtain ⟨Lh152, X152, N156⟩ := own_hide X152 N156
  have O157 := O145.wr W152 gn_b58
  have Z158 := (Nat.le_trans Z146 (Keep.of_wr W152).1)
  refine own_by (T' := T152) (g' := (mkF m 112 #[.val (.long q0_0), .second, .val (.long q0_1), .second, .val (.int p0_2), .val (.ref b58), .unset] [])) st152 ?_
  refine own_by (T' := T152) (g' := (mkF m 119 #[.val (.long q0_0), .second, .val (.long q0_1), .second, .val (.int p0_2), .val (.ref b58), .unset] [(.int (10 : Int32)), (.long q0_0), (.int (8 : Int32)), (.ref b58)])) (fun t k => ?_) ?_
  · show Steps p.tables e below (T152.setTop (mkF m 112 #[.val (.long q0_0), .second, .val (.long q0_1), .second, .val (.int p0_2), .val (.ref b58), .unset] [])) t
    refine XS.aload X152.here hx rfl (hb hby at_112) rfl rfl ?_
    show Steps p.tables e below (T152.setTop (mkF m 114 #[.val (.long q0_0), .second, .val (.long q0_1), .second, .val (.int p0_2), .val (.ref b58), .unset] [(.ref b58)])) t
    refine XS.bipush X152.here hx rfl (hb hby at_114) ?_
    show Steps p.tables e below (T152.setTop (mkF m 116 #[.val (.long q0_0), .second, .val (.long q0_1), .second, .val (.int p0_2), .val (.ref b58), .unset] [(.int (8 : Int32)), (.ref b58)])) t
    refine XS.lloadN X152.here hx rfl (hb hby at_116) rfl ?_
    show Steps p.tables e below (T152.setTop (mkF m 117 #[.val (.long q0_0), .second, .val (.long q0_1), .second, .val (.int p0_2), .val (.ref b58), .unset] [(.long q0_0), (.int (8 : Int32)), (.ref b58)])) t
    refine XS.bipush X152.here hx rfl (hb hby at_117) ?_
    show Steps p.tables e below (T152.setTop (mkF m 119 #[.val (.long q0_0), .second, .val (.long q0_1), .second, .val (.int p0_2), .val (.ref b58), .unset] [(.int (10 : Int32)), (.long q0_0), (.int (8 : Int32)), (.ref b58)])) t
    exact k
  obtain ⟨v159, _, ⟨T159, L159, k159, n159⟩, -, X159, ⟨Lc159, hQ159, l159, y159, z159⟩, st159⟩ := Jvm.LawKit.callS X152 hx (y := (⟨"com/example/vacant_errand/vacanterrand/PackedIdHighPinLaw", "six", "(JI)I"⟩ : MethodName)) hown (mvT hZ (hw _ (List.mem_of_getElem? (i := 1) rfl))) (mvT hZ (hw _ (List.mem_of_getElem? (i := 2) rfl))) (mvT hZ (hw _ (List.mem_of_getElem? (i := 3) rfl))) (mvT hZ (hw _ (List.mem_of_getElem? (i := 4) rfl))) (by decide) (backOf (W := 2) (own_rm1 l Z a0 hw [] q0_0 (10 : Int32) h152 n0 Z158) hZ (hw _ (List.mem_of_getElem? (i := 4) rfl)) (hw _ (List.mem_of_getElem? (i := 3) rfl)) (by decide) (by decide)) (g := (mkF m 119 #[.val (.long q0_0), .second, .val (.long q0_1), .second, .val (.int p0_2), .val (.ref b58), .unset] [(.int (10 : Int32)), (.long q0_0), (.int (8 : Int32)), (.ref b58)])) rfl (by rw [hml]; rfl) (argsL := [(.long q0_0), (.int (10 : Int32))]) (rest := [(.int (8 : Int32)), (.ref b58)]) (lenOf pd__JI_I rfl) rfl (by show 2 * 0 + _ ≤ _; exact Nat.le_of_eq rfl) (hb hby at_119) (fun _ _ => ⟨rfl, e152, (by decide : 1 + 0 ≤ _), (by decide : 22 + 0 ≤ _)⟩)
  dsimp only [Pt.U, Pt.locs, Pt.cells, Pt.slots] at X159 l159 y159 z159 st159 hQ159
  subst y159 z159
  obtain ⟨rfl, M159, e159⟩ := hQ159
  have N160 : Fr n0 L159 := by rw [l159]; exact Fr.app N156 M159
  refine own_by (T' := T159) (g' := (mkF m 122 #[.val (.long q0_0), .second, .val (.long q0_1), .second, .val (.int p0_2), .val (.ref b58), .unset] [(.int (own_F1 q0_0 (10 : Int32))), (.int (8 : Int32)), (.ref b58)])) st159 ?_
  obtain ⟨v161, _, ⟨T161, L161, k161, n161⟩, -, X161, ⟨Lc161, hQ161, l161, y161, z161⟩, st161⟩ := Jvm.LawKit.callS X159 hx (y := (⟨"com/example/vacant_errand/vacanterrand/PackedIdHighPinLaw", "c", "(I)C"⟩ : MethodName)) hown (mvT hZ (hw _ (List.mem_of_getElem? (i := 6) rfl))) (mvT hZ (hw _ (List.mem_of_getElem? (i := 7) rfl))) (mvT hZ (hw _ (List.mem_of_getElem? (i := 3) rfl))) (mvT hZ (hw _ (List.mem_of_getElem? (i := 8) rfl))) (by decide) (backOf (W := 2) (own_rm2 l Z a0 hw [] (own_F1 q0_0 (10 : Int32)) h152 n0 Z158) hZ (hw _ (List.mem_of_getElem? (i := 8) rfl)) (hw _ (List.mem_of_getElem? (i := 3) rfl)) (by decide) (by decide)) (g := (mkF m 122 #[.val (.long q0_0), .second, .val (.long q0_1), .second, .val (.int p0_2), .val (.ref b58), .unset] [(.int (own_F1 q0_0 (10 : Int32))), (.int (8 : Int32)), (.ref b58)])) rfl (by rw [hml]; rfl) (argsL := [(.int (own_F1 q0_0 (10 : Int32)))]) (rest := [(.int (8 : Int32)), (.ref b58)]) (lenOf pd__I_C rfl) rfl (by show 2 * 0 + _ ≤ _; exact Nat.le_of_eq rfl) (hb hby at_122) (fun _ _ => ⟨rfl, e159, (by decide : 1 + 0 ≤ _), (by decide : 22 + 0 ≤ _)⟩)
  dsimp only [Pt.U, Pt.locs, Pt.cells, Pt.slots] at X161 l161 y161 z161 st161 hQ161
  subst y161 z161
  obtain ⟨rfl, M161, e161⟩ := hQ161
  have N162 : Fr n0 L161 := by rw [l161]; exact Fr.app N160 M161
  refine own_by (T' := T161) (g' := (mkF m 125 #[.val (.long q0_0), .second, .val (.long q0_1), .second, .val (.int p0_2), .val (.ref b58), .unset] [(.int (own_F2 (own_F1 q0_0 (10 : Int32)))), (.int (8 : Int32)), (.ref b58)])) st161 ?_
  obtain ⟨cl163, Ar163, q163, S163, N163, H163, G163⟩ := f153
  obtain ⟨T164, h164, X164, e164, W164, st164⟩ := stC X161 hx hZ e161 Ar163 (j := (8 : Int32)) (inb_of S163 ⟨by decide, by decide⟩) (g := (mkF m 125 #[.val (.long q0_0), .second, .val (.long q0_1), .second, .val (.int p0_2), .val (.ref b58), .unset] [(.int (own_F2 (own_F1 q0_0 (10 : Int32)))), (.int (8 : Int32)), (.ref b58)])) rfl rfl (hb hby at_125)
  have f165 : Arv Z h164 b58 k58 .char (22 : Int32) [(.int (nar .char (own_F2 (own_F1 q0_0 (58 : Int32))))), (.int (nar .char (own_F2 (own_F1 q0_0 (52 : Int32))))), (.int (nar .char (own_F2 (own_F1 q0_0 (46 : Int32))))), (.int (nar .char (own_F2 (own_F1 q0_0 (40 : Int32))))), (.int (nar .char (own_F2 (own_F1 q0_0 (34 : Int32))))), (.int (nar .char (own_F2 (own_F1 q0_0 (28 : Int32))))), (.int (nar .char (own_F2 (own_F1 q0_0 (22 : Int32))))), (.int (nar .char (own_F2 (own_F1 q0_0 (16 : Int32))))), (.int (nar .char (own_F2 (own_F1 q0_0 (10 : Int32))))), (.int (0 : Int32)), (.int (0 : Int32)), (.int (0 : Int32)), (.int (0 : Int32)), (.int (0 : Int32)), (.int (0 : Int32)), (.int (0 : Int32)), (.int (0 : Int32)), (.int (0 : Int32)), (.int (0 : Int32)), (.int (0 : Int32)), (.int (0 : Int32)), (.int (0 : Int32))] (.int (0 : Int32)) := Arv.set Ar163 q163 S163 N163 H163 G163 (fits_nar_char _) W164 8 rfl (Nat.le_of_ble_eq_true rfl)
  have K167 : Keep h0 h164 [] := K155.wr W164 (Or.inr sz_b58)
  have N168 := Fr.snoc X164 N162 gn_b58
  obtain ⟨Lh164, X164, N168⟩ := own_hide X164 N168
  have O169 := O157.wr W164 gn_b58
  have Z170 := (Nat.le_trans Z158 (Keep.of_wr W164).1)
  refine own_by (T' := T164) (g' := (mkF m 126 #[.val (.long q0_0), .second, .val (.long q0_1), .second, .val (.int p0_2), .val (.ref b58), .unset] [])) st164 ?_
  refine own_by (T' := T164) (g' := (mkF m 132 #[.val (.long q0_0), .second, .val (.long q0_1), .second, .val (.int p0_2), .val (.ref b58), .unset] [(.int (4 : Int32)), (.long q0_0), (.int (9 : Int32)), (.ref b58)])) (fun t k => ?_) ?_
  · show Steps p.tables e below (T164.setTop (mkF m 126 #[.val (.long q0_0), .second, .val (.long q0_1), .second, .val (.int p0_2), .val (.ref b58), .unset] [])) t
    refine XS.aload X164.here hx rfl (hb hby at_126) rfl rfl ?_
    show Steps p.tables e below (T164.setTop (mkF m 128 #[.val (.long q0_0), .second, .val (.long q0_1), .second, .val (.int p0_2), .val (.ref b58), .unset] [(.ref b58)])) t
    refine XS.bipush X164.here hx rfl (hb hby at_128) ?_
    show Steps p.tables e below (T164.setTop (mkF m 130 #[.val (.long q0_0), .second, .val (.long q0_1), .second, .val (.int p0_2), .val (.ref b58), .unset] [(.int (9 : Int32)), (.ref b58)])) t
    refine XS.lloadN X164.here hx rfl (hb hby at_130) rfl ?_
    show Steps p.tables e below (T164.setTop (mkF m 131 #[.val (.long q0_0), .second, .val (.long q0_1), .second, .val (.int p0_2), .val (.ref b58), .unset] [(.long q0_0), (.int (9 : Int32)), (.ref b58)])) t
    refine XS.iconst X164.here hx rfl (hb hby at_131) ?_
    show Steps p.tables e below (T164.setTop (mkF m 132 #[.val (.long q0_0), .second, .val (.long q0_1), .second, .val (.int p0_2), .val (.ref b58), .unset] [(.int (4 : Int32)), (.long q0_0), (.int (9 : Int32)), (.ref b58)])) t
    exact k
  obtain ⟨v171, _, ⟨T171, L171, k171, n171⟩, -, X171, ⟨Lc171, hQ171, l171, y171, z171⟩, st171⟩ := Jvm.LawKit.callS X164 hx (y := (⟨"com/example/vacant_errand/vacanterrand/PackedIdHighPinLaw", "six", "(JI)I"⟩ : MethodName)) hown (mvT hZ (hw _ (List.mem_of_getElem? (i := 1) rfl))) (mvT hZ (hw _ (List.mem_of_getElem? (i := 2) rfl))) (mvT hZ (hw _ (List.mem_of_getElem? (i := 3) rfl))) (mvT hZ (hw _ (List.mem_of_getElem? (i := 4) rfl))) (by decide) (backOf (W := 2) (own_rm1 l Z a0 hw [] q0_0 (4 : Int32) h164 n0 Z170) hZ (hw _ (List.mem_of_getElem? (i := 4) rfl)) (hw _ (List.mem_of_getElem? (i := 3) rfl)) (by decide) (by decide)) (g := (mkF m 132 #[.val (.long q0_0), .second, .val (.long q0_1), .second, .val (.int p0_2), .val (.ref b58), .unset] [(.int (4 : Int32)), (.long q0_0), (.int (9 : Int32)), (.ref b58)])) rfl (by rw [hml]; rfl) (argsL := [(.long q0_0), (.int (4 : Int32))]) (rest := [(.int (9 : Int32)), (.ref b58)]) (lenOf pd__JI_I rfl) rfl (by show 2 * 0 + _ ≤ _; exact Nat.le_of_eq rfl) (hb hby at_132) (fun _ _ => ⟨rfl, e164, (by decide : 1 + 0 ≤ _), (by decide : 22 + 0 ≤ _)⟩)
  dsimp only [Pt.U, Pt.locs, Pt.cells, Pt.slots] at X171 l171 y171 z171 st171 hQ171
  subst y171 z171
  obtain ⟨rfl, M171, e171⟩ := hQ171
  have N172 : Fr n0 L171 := by rw [l171]; exact Fr.app N168 M171
  refine own_by (T' := T171) (g' := (mkF m 135 #[.val (.long q0_0), .second, .val (.long q0_1), .second, .val (.int p0_2), .val (.ref b58), .unset] [(.int (own_F1 q0_0 (4 : Int32))), (.int (9 : Int32)), (.ref b58)])) st171 ?_
  obtain ⟨v173, _, ⟨T173, L173, k173, n173⟩, -, X173, ⟨Lc173, hQ173, l173, y173, z173⟩, st173⟩ := Jvm.LawKit.callS X171 hx (y := (⟨"com/example/vacant_errand/vacanterrand/PackedIdHighPinLaw", "c", "(I)C"⟩ : MethodName)) hown (mvT hZ (hw _ (List.mem_of_getElem? (i := 6) rfl))) (mvT hZ (hw _ (List.mem_of_getElem? (i := 7) rfl))) (mvT hZ (hw _ (List.mem_of_getElem? (i := 3) rfl))) (mvT hZ (hw _ (List.mem_of_getElem? (i := 8) rfl))) (by decide) (backOf (W := 2) (own_rm2 l Z a0 hw [] (own_F1 q0_0 (4 : Int32)) h164 n0 Z170) hZ (hw _ (List.mem_of_getElem? (i := 8) rfl)) (hw _ (List.mem_of_getElem? (i := 3) rfl)) (by decide) (by decide)) (g := (mkF m 135 #[.val (.long q0_0), .second, .val (.long q0_1), .second, .val (.int p0_2), .val (.ref b58), .unset] [(.int (own_F1 q0_0 (4 : Int32))), (.int (9 : Int32)), (.ref b58)])) rfl (by rw [hml]; rfl) (argsL := [(.int (own_F1 q0_0 (4 : Int32)))]) (rest := [(.int (9 : Int32)), (.ref b58)]) (lenOf pd__I_C rfl) rfl (by show 2 * 0 + _ ≤ _; exact Nat.le_of_eq rfl) (hb hby at_135) (fun _ _ => ⟨rfl, e171, (by decide : 1 + 0 ≤ _), (by decide : 22 + 0 ≤ _)⟩)
  dsimp only [Pt.U, Pt.locs, Pt.cells, Pt.slots] at X173 l173 y173 z173 st173 hQ173
  subst y173 z173
  obtain ⟨rfl, M173, e173⟩ := hQ173
  have N174 : Fr n0 L173 := by rw [l173]; exact Fr.app N172 M173
  refine own_by (T' := T173) (g' := (mkF m 138 #[.val (.long q0_0), .second, .val (.long q0_1), .second, .val (.int p0_2), .val (.ref b58), .unset] [(.int (own_F2 (own_F1 q0_0 (4 : Int32)))), (.int (9 : Int32)), (.ref b58)])) st173 ?_
  obtain ⟨cl175, Ar175, q175, S175, N175, H175, G175⟩ := f165
  obtain ⟨T176, h176, X176, e176, W176, st176⟩ := stC X173 hx hZ e173 Ar175 (j := (9 : Int32)) (inb_of S175 ⟨by decide, by decide⟩) (g := (mkF m 138 #[.val (.long q0_0), .second, .val (.long q0_1), .second, .val (.int p0_2), .val (.ref b58), .unset] [(.int (own_F2 (own_F1 q0_0 (4 : Int32)))), (.int (9 : Int32)), (.ref b58)])) rfl rfl (hb hby at_138)
  have f177 : Arv Z h176 b58 k58 .char (22 : Int32) [(.int (nar .char (own_F2 (own_F1 q0_0 (58 : Int32))))), (.int (nar .char (own_F2 (own_F1 q0_0 (52 : Int32))))), (.int (nar .char (own_F2 (own_F1 q0_0 (46 : Int32))))), (.int (nar .char (own_F2 (own_F1 q0_0 (40 : Int32))))), (.int (nar .char (own_F2 (own_F1 q0_0 (34 : Int32))))), (.int (nar .char (own_F2 (own_F1 q0_0 (28 : Int32))))), (.int (nar .char (own_F2 (own_F1 q0_0 (22 : Int32))))), (.int (nar .char (own_F2 (own_F1 q0_0 (16 : Int32))))), (.int (nar .char (own_F2 (own_F1 q0_0 (10 : Int32))))), (.int (nar .char (own_F2 (own_F1 q0_0 (4 : Int32))))), (.int (0 : Int32)), (.int (0 : Int32)), (.int (0 : Int32)), (.int (0 : Int32)), (.int (0 : Int32)), (.int (0 : Int32)), (.int (0 : Int32)), (.int (0 : Int32)), (.int (0 : Int32)), (.int (0 : Int32)), (.int (0 : Int32)), (.int (0 : Int32))] (.int (0 : Int32)) := Arv.set Ar175 q175 S175 N175 H175 G175 (fits_nar_char _) W176 9 rfl (Nat.le_of_ble_eq_true rfl)
  have K179 : Keep h0 h176 [] := K167.wr W176 (Or.inr sz_b58)
  have N180 := Fr.snoc X176 N174 gn_b58
  obtain ⟨Lh176, X176, N180⟩ := own_hide X176 N180
  have O181 := O169.wr W176 gn_b58
  have Z182 := (Nat.le_trans Z170 (Keep.of_wr W176).1)
  refine own_by (T' := T176) (g' := (mkF m 139 #[.val (.long q0_0), .second, .val (.long q0_1), .second, .val (.int p0_2), .val (.ref b58), .unset] [])) st176 ?_
  refine own_by (T' := T176) (g' := (mkF m 156 #[.val (.long q0_0), .second, .val (.long q0_1), .second, .val (.int p0_2), .val (.ref b58), .unset] [(.int ((((q0_0 &&& (15 : Int64)).toInt32) <<< ((2 : Int32) &&& 31)) ||| (p0_2 &&& (3 : Int32)))), (.int (10 : Int32)), (.ref b58)])) (fun t k => ?_) ?_
  · show Steps p.tables e below (T176.setTop (mkF m 139 #[.val (.long q0_0), .second, .val (.long q0_1), .second, .val (.int p0_2), .val (.ref b58), .unset] [])) t
    refine XS.aload X176.here hx rfl (hb hby at_139) rfl rfl ?_
    show Steps p.tables e below (T176.setTop (mkF m 141 #[.val (.long q0_0), .second, .val (.long q0_1), .second, .val (.int p0_2), .val (.ref b58), .unset] [(.ref b58)])) t
    refine XS.bipush X176.here hx rfl (hb hby at_141) ?_
    show Steps p.tables e below (T176.setTop (mkF m 143 #[.val (.long q0_0), .second, .val (.long q0_1), .second, .val (.int p0_2), .val (.ref b58), .unset] [(.int (10 : Int32)), (.ref b58)])) t
    refine XS.lloadN X176.here hx rfl (hb hby at_143) rfl ?_
    show Steps p.tables e below (T176.setTop (mkF m 144 #[.val (.long q0_0), .second, .val (.long q0_1), .second, .val (.int p0_2), .val (.ref b58), .unset] [(.long q0_0), (.int (10 : Int32)), (.ref b58)])) t
    refine X176.ldc2Long hx hown (mvT hZ (hw _ (List.mem_of_getElem? (i := 9) rfl))) (g := (mkF m 144 #[.val (.long q0_0), .second, .val (.long q0_1), .second, .val (.int p0_2), .val (.ref b58), .unset] [(.long q0_0), (.int (10 : Int32)), (.ref b58)])) rfl (hb hby at_144) _ ?_
    show Steps p.tables e below (T176.setTop (mkF m 147 #[.val (.long q0_0), .second, .val (.long q0_1), .second, .val (.int p0_2), .val (.ref b58), .unset] [(.long (15 : Int64)), (.long q0_0), (.int (10 : Int32)), (.ref b58)])) t
    refine XS.land X176.here hx rfl (hb hby at_147) rfl ?_
    show Steps p.tables e below (T176.setTop (mkF m 148 #[.val (.long q0_0), .second, .val (.long q0_1), .second, .val (.int p0_2), .val (.ref b58), .unset] [(.long (q0_0 &&& (15 : Int64))), (.int (10 : Int32)), (.ref b58)])) t
    refine XS.l2i X176.here hx rfl (hb hby at_148) rfl ?_
    show Steps p.tables e below (T176.setTop (mkF m 149 #[.val (.long q0_0), .second, .val (.long q0_1), .second, .val (.int p0_2), .val (.ref b58), .unset] [(.int ((q0_0 &&& (15 : Int64)).toInt32)), (.int (10 : Int32)), (.ref b58)])) t
    refine XS.iconst X176.here hx rfl (hb hby at_149) ?_
    show Steps p.tables e below (T176.setTop (mkF m 150 #[.val (.long q0_0), .second, .val (.long q0_1), .second, .val (.int p0_2), .val (.ref b58), .unset] [(.int (2 : Int32)), (.int ((q0_0 &&& (15 : Int64)).toInt32)), (.int (10 : Int32)), (.ref b58)])) t
    refine XS.ishl X176.here hx rfl (hb hby at_150) rfl ?_
    show Steps p.tables e below (T176.setTop (mkF m 151 #[.val (.long q0_0), .second, .val (.long q0_1), .second, .val (.int p0_2), .val (.ref b58), .unset] [(.int (((q0_0 &&& (15 : Int64)).toInt32) <<< ((2 : Int32) &&& 31))), (.int (10 : Int32)), (.ref b58)])) t
    refine XS.iload X176.here hx rfl (hb hby at_151) rfl ?_
    show Steps p.tables e below (T176.setTop (mkF m 153 #[.val (.long q0_0), .second, .val (.long q0_1), .second, .val (.int p0_2), .val (.ref b58), .unset] [(.int p0_2), (.int (((q0_0 &&& (15 : Int64)).toInt32) <<< ((2 : Int32) &&& 31))), (.int (10 : Int32)), (.ref b58)])) t
    refine XS.iconst X176.here hx rfl (hb hby at_153) ?_
    show Steps p.tables e below (T176.setTop (mkF m 154 #[.val (.long q0_0), .second, .val (.long q0_1), .second, .val (.int p0_2), .val (.ref b58), .unset] [(.int (3 : Int32)), (.int p0_2), (.int (((q0_0 &&& (15 : Int64)).toInt32) <<< ((2 : Int32) &&& 31))), (.int (10 : Int32)), (.ref b58)])) t
    refine XS.iand X176.here hx rfl (hb hby at_154) rfl ?_
    show Steps p.tables e below (T176.setTop (mkF m 155 #[.val (.long q0_0), .second, .val (.long q0_1), .second, .val (.int p0_2), .val (.ref b58), .unset] [(.int (p0_2 &&& (3 : Int32))), (.int (((q0_0 &&& (15 : Int64)).toInt32) <<< ((2 : Int32) &&& 31))), (.int (10 : Int32)), (.ref b58)])) t
    refine XS.ior X176.here hx rfl (hb hby at_155) rfl ?_
    show Steps p.tables e below (T176.setTop (mkF m 156 #[.val (.long q0_0), .second, .val (.long q0_1), .second, .val (.int p0_2), .val (.ref b58), .unset] [(.int ((((q0_0 &&& (15 : Int64)).toInt32) <<< ((2 : Int32) &&& 31)) ||| (p0_2 &&& (3 : Int32)))), (.int (10 : Int32)), (.ref b58)])) t
    exact k
  obtain ⟨v183, _, ⟨T183, L183, k183, n183⟩, -, X183, ⟨Lc183, hQ183, l183, y183, z183⟩, st183⟩ := Jvm.LawKit.callS X176 hx (y := (⟨"com/example/vacant_errand/vacanterrand/PackedIdHighPinLaw", "c", "(I)C"⟩ : MethodName)) hown (mvT hZ (hw _ (List.mem_of_getElem? (i := 6) rfl))) (mvT hZ (hw _ (List.mem_of_getElem? (i := 7) rfl))) (mvT hZ (hw _ (List.mem_of_getElem? (i := 3) rfl))) (mvT hZ (hw _ (List.mem_of_getElem? (i := 8) rfl))) (by decide) (backOf (W := 2) (own_rm2 l Z a0 hw [] ((((q0_0 &&& (15 : Int64)).toInt32) <<< ((2 : Int32) &&& 31)) ||| (p0_2 &&& (3 : Int32))) h176 n0 Z182) hZ (hw _ (List.mem_of_getElem? (i := 8) rfl)) (hw _ (List.mem_of_getElem? (i := 3) rfl)) (by decide) (by decide)) (g := (mkF m 156 #[.val (.long q0_0), .second, .val (.long q0_1), .second, .val (.int p0_2), .val (.ref b58), .unset] [(.int ((((q0_0 &&& (15 : Int64)).toInt32) <<< ((2 : Int32) &&& 31)) ||| (p0_2 &&& (3 : Int32)))), (.int (10 : Int32)), (.ref b58)])) rfl (by rw [hml]; rfl) (argsL := [(.int ((((q0_0 &&& (15 : Int64)).toInt32) <<< ((2 : Int32) &&& 31)) ||| (p0_2 &&& (3 : Int32))))]) (rest := [(.int (10 : Int32)), (.ref b58)]) (lenOf pd__I_C rfl) rfl (by show 2 * 0 + _ ≤ _; exact Nat.le_of_eq rfl) (hb hby at_156) (fun _ _ => ⟨rfl, e176, (by decide : 1 + 0 ≤ _), (by decide : 22 + 0 ≤ _)⟩)
  dsimp only [Pt.U, Pt.locs, Pt.cells, Pt.slots] at X183 l183 y183 z183 st183 hQ183
  subst y183 z183
  obtain ⟨rfl, M183, e183⟩ := hQ183
  have N184 : Fr n0 L183 := by rw [l183]; exact Fr.app N180 M183
  refine own_by (T' := T183) (g' := (mkF m 159 #[.val (.long q0_0), .second, .val (.long q0_1), .second, .val (.int p0_2), .val (.ref b58), .unset] [(.int (own_F2 ((((q0_0 &&& (15 : Int64)).toInt32) <<< ((2 : Int32) &&& 31)) ||| (p0_2 &&& (3 : Int32))))), (.int (10 : Int32)), (.ref b58)])) st183 ?_
  obtain ⟨cl185, Ar185, q185, S185, N185, H185, G185⟩ := f177
  obtain ⟨T186, h186, X186, e186, W186, st186⟩ := stC X183 hx hZ e183 Ar185 (j := (10 : Int32)) (inb_of S185 ⟨by decide, by decide⟩) (g := (mkF m 159 #[.val (.long q0_0), .second, .val (.long q0_1), .second, .val (.int p0_2), .val (.ref b58), .unset] [(.int (own_F2 ((((q0_0 &&& (15 : Int64)).toInt32) <<< ((2 : Int32) &&& 31)) ||| (p0_2 &&& (3 : Int32))))), (.int (10 : Int32)), (.ref b58)])) rfl rfl (hb hby at_159)
  have f187 : Arv Z h186 b58 k58 .char (22 : Int32) [(.int (nar .char (own_F2 (own_F1 q0_0 (58 : Int32))))), (.int (nar .char (own_F2 (own_F1 q0_0 (52 : Int32))))), (.int (nar .char (own_F2 (own_F1 q0_0 (46 : Int32))))), (.int (nar .char (own_F2 (own_F1 q0_0 (40 : Int32))))), (.int (nar .char (own_F2 (own_F1 q0_0 (34 : Int32))))), (.int (nar .char (own_F2 (own_F1 q0_0 (28 : Int32))))), (.int (nar .char (own_F2 (own_F1 q0_0 (22 : Int32))))), (.int (nar .char (own_F2 (own_F1 q0_0 (16 : Int32))))), (.int (nar .char (own_F2 (own_F1 q0_0 (10 : Int32))))), (.int (nar .char (own_F2 (own_F1 q0_0 (4 : Int32))))), (.int (nar .char (own_F2 ((((q0_0 &&& (15 : Int64)).toInt32) <<< ((2 : Int32) &&& 31)) ||| (p0_2 &&& (3 : Int32)))))), (.int (0 : Int32)), (.int (0 : Int32)), (.int (0 : Int32)), (.int (0 : Int32)), (.int (0 : Int32)), (.int (0 : Int32)), (.int (0 : Int32)), (.int (0 : Int32)), (.int (0 : Int32)), (.int (0 : Int32)), (.int (0 : Int32))] (.int (0 : Int32)) := Arv.set Ar185 q185 S185 N185 H185 G185 (fits_nar_char _) W186 10 rfl (Nat.le_of_ble_eq_true rfl)
  have K189 : Keep h0 h186 [] := K179.wr W186 (Or.inr sz_b58)
  have N190 := Fr.snoc X186 N184 gn_b58
  obtain ⟨Lh186, X186, N190⟩ := own_hide X186 N190
  have O191 := O181.wr W186 gn_b58
  have Z192 := (Nat.le_trans Z182 (Keep.of_wr W186).1)
  refine own_by (T' := T186) (g' := (mkF m 160 #[.val (.long q0_0), .second, .val (.long q0_1), .second, .val (.int p0_2), .val (.ref b58), .unset] [])) st186 ?_
  refine own_by (T' := T186) (g' := (mkF m 167 #[.val (.long q0_0), .second, .val (.long q0_1), .second, .val (.int p0_2), .val (.ref b58), .unset] [(.int (54 : Int32)), (.long q0_1), (.int (11 : Int32)), (.ref b58)])) (fun t k => ?_) ?_
  · show Steps p.tables e below (T186.setTop (mkF m 160 #[.val (.long q0_0), .second, .val (.long q0_1), .second, .val (.int p0_2), .val (.ref b58), .unset] [])) t
    refine XS.aload X186.here hx rfl (hb hby at_160) rfl rfl ?_
    show Steps p.tables e below (T186.setTop (mkF m 162 #[.val (.long q0_0), .second, .val (.long q0_1), .second, .val (.int p0_2), .val (.ref b58), .unset] [(.ref b58)])) t
    refine XS.bipush X186.here hx rfl (hb hby at_162) ?_
    show Steps p.tables e below (T186.setTop (mkF m 164 #[.val (.long q0_0), .second, .val (.long q0_1), .second, .val (.int p0_2), .val (.ref b58), .unset] [(.int (11 : Int32)), (.ref b58)])) t
    refine XS.lloadN X186.here hx rfl (hb hby at_164) rfl ?_
    show Steps p.tables e below (T186.setTop (mkF m 165 #[.val (.long q0_0), .second, .val (.long q0_1), .second, .val (.int p0_2), .val (.ref b58), .unset] [(.long q0_1), (.int (11 : Int32)), (.ref b58)])) t
    refine XS.bipush X186.here hx rfl (hb hby at_165) ?_
    show Steps p.tables e below (T186.setTop (mkF m 167 #[.val (.long q0_0), .second, .val (.long q0_1), .second, .val (.int p0_2), .val (.ref b58), .unset] [(.int (54 : Int32)), (.long q0_1), (.int (11 : Int32)), (.ref b58)])) t
    exact k
  obtain ⟨v193, _, ⟨T193, L193, k193, n193⟩, -, X193, ⟨Lc193, hQ193, l193, y193, z193⟩, st193⟩ := Jvm.LawKit.callS X186 hx (y := (⟨"com/example/vacant_errand/vacanterrand/PackedIdHighPinLaw", "six", "(JI)I"⟩ : MethodName)) hown (mvT hZ (hw _ (List.mem_of_getElem? (i := 1) rfl))) (mvT hZ (hw _ (List.mem_of_getElem? (i := 2) rfl))) (mvT hZ (hw _ (List.mem_of_getElem? (i := 3) rfl))) (mvT hZ (hw _ (List.mem_of_getElem? (i := 4) rfl))) (by decide) (backOf (W := 2) (own_rm1 l Z a0 hw [] q0_1 (54 : Int32) h186 n0 Z192) hZ (hw _ (List.mem_of_getElem? (i := 4) rfl)) (hw _ (List.mem_of_getElem? (i := 3) rfl)) (by decide) (by decide)) (g := (mkF m 167 #[.val (.long q0_0), .second, .val (.long q0_1), .second, .val (.int p0_2), .val (.ref b58), .unset] [(.int (54 : Int32)), (.long q0_1), (.int (11 : Int32)), (.ref b58)])) rfl (by rw [hml]; rfl) (argsL := [(.long q0_1), (.int (54 : Int32))]) (rest := [(.int (11 : Int32)), (.ref b58)]) (lenOf pd__JI_I rfl) rfl (by show 2 * 0 + _ ≤ _; exact Nat.le_of_eq rfl) (hb hby at_167) (fun _ _ => ⟨rfl, e186, (by decide : 1 + 0 ≤ _), (by decide : 22 + 0 ≤ _)⟩)
  dsimp only [Pt.U, Pt.locs, Pt.cells, Pt.slots] at X193 l193 y193 z193 st193 hQ193
  subst y193 z193
  obtain ⟨rfl, M193, e193⟩ := hQ193
  have N194 : Fr n0 L193 := by rw [l193]; exact Fr.app N190 M193
  refine own_by (T' := T193) (g' := (mkF m 170 #[.val (.long q0_0), .second, .val (.long q0_1), .second, .val (.int p0_2), .val (.ref b58), .unset] [(.int (own_F1 q0_1 (54 : Int32))), (.int (11 : Int32)), (.ref b58)])) st193 ?_
  obtain ⟨v195, _, ⟨T195, L195, k195, n195⟩, -, X195, ⟨Lc195, hQ195, l195, y195, z195⟩, st195⟩ := Jvm.LawKit.callS X193 hx (y := (⟨"com/example/vacant_errand/vacanterrand/PackedIdHighPinLaw", "c", "(I)C"⟩ : MethodName)) hown (mvT hZ (hw _ (List.mem_of_getElem? (i := 6) rfl))) (mvT hZ (hw _ (List.mem_of_getElem? (i := 7) rfl))) (mvT hZ (hw _ (List.mem_of_getElem? (i := 3) rfl))) (mvT hZ (hw _ (List.mem_of_getElem? (i := 8) rfl))) (by decide) (backOf (W := 2) (own_rm2 l Z a0 hw [] (own_F1 q0_1 (54 : Int32)) h186 n0 Z192) hZ (hw _ (List.mem_of_getElem? (i := 8) rfl)) (hw _ (List.mem_of_getElem? (i := 3) rfl)) (by decide) (by decide)) (g := (mkF m 170 #[.val (.long q0_0), .second, .val (.long q0_1), .second, .val (.int p0_2), .val (.ref b58), .unset] [(.int (own_F1 q0_1 (54 : Int32))), (.int (11 : Int32)), (.ref b58)])) rfl (by rw [hml]; rfl) (argsL := [(.int (own_F1 q0_1 (54 : Int32)))]) (rest := [(.int (11 : Int32)), (.ref b58)]) (lenOf pd__I_C rfl) rfl (by show 2 * 0 + _ ≤ _; exact Nat.le_of_eq rfl) (hb hby at_170) (fun _ _ => ⟨rfl, e193, (by decide : 1 + 0 ≤ _), (by decide : 22 + 0 ≤ _)⟩)
  dsimp only [Pt.U, Pt.locs, Pt.cells, Pt.slots] at X195 l195 y195 z195 st195 hQ195
  subst y195 z195
  obtain ⟨rfl, M195, e195⟩ := hQ195
  have N196 : Fr n0 L195 := by rw [l195]; exact Fr.app N194 M195
  refine own_by (T' := T195) (g' := (mkF m 173 #[.val (.long q0_0), .second, .val (.long q0_1), .second, .val (.int p0_2), .val (.ref b58), .unset] [(.int (own_F2 (own_F1 q0_1 (54 : Int32)))), (.int (11 : Int32)), (.ref b58)])) st195 ?_
  obtain ⟨cl197, Ar197, q197, S197, N197, H197, G197⟩ := f187
  obtain ⟨T198, h198, X198, e198, W198, st198⟩ := stC X195 hx hZ e195 Ar197 (j := (11 : Int32)) (inb_of S197 ⟨by decide, by decide⟩) (g := (mkF m 173 #[.val (.long q0_0), .second, .val (.long q0_1), .second, .val (.int p0_2), .val (.ref b58), .unset] [(.int (own_F2 (own_F1 q0_1 (54 : Int32)))), (.int (11 : Int32)), (.ref b58)])) rfl rfl (hb hby at_173)
  have f199 : Arv Z h198 b58 k58 .char (22 : Int32) [(.int (nar .char (own_F2 (own_F1 q0_0 (58 : Int32))))), (.int (nar .char (own_F2 (own_F1 q0_0 (52 : Int32))))), (.int (nar .char (own_F2 (own_F1 q0_0 (46 : Int32))))), (.int (nar .char (own_F2 (own_F1 q0_0 (40 : Int32))))), (.int (nar .char (own_F2 (own_F1 q0_0 (34 : Int32))))), (.int (nar .char (own_F2 (own_F1 q0_0 (28 : Int32))))), (.int (nar .char (own_F2 (own_F1 q0_0 (22 : Int32))))), (.int (nar .char (own_F2 (own_F1 q0_0 (16 : Int32))))), (.int (nar .char (own_F2 (own_F1 q0_0 (10 : Int32))))), (.int (nar .char (own_F2 (own_F1 q0_0 (4 : Int32))))), (.int (nar .char (own_F2 ((((q0_0 &&& (15 : Int64)).toInt32) <<< ((2 : Int32) &&& 31)) ||| (p0_2 &&& (3 : Int32)))))), (.int (nar .char (own_F2 (own_F1 q0_1 (54 : Int32))))), (.int (0 : Int32)), (.int (0 : Int32)), (.int (0 : Int32)), (.int (0 : Int32)), (.int (0 : Int32)), (.int (0 : Int32)), (.int (0 : Int32)), (.int (0 : Int32)), (.int (0 : Int32)), (.int (0 : Int32))] (.int (0 : Int32)) := Arv.set Ar197 q197 S197 N197 H197 G197 (fits_nar_char _) W198 11 rfl (Nat.le_of_ble_eq_true rfl)
  have K201 : Keep h0 h198 [] := K189.wr W198 (Or.inr sz_b58)
  have N202 := Fr.snoc X198 N196 gn_b58
  obtain ⟨Lh198, X198, N202⟩ := own_hide X198 N202
  have O203 := O191.wr W198 gn_b58
  have Z204 := (Nat.le_trans Z192 (Keep.of_wr W198).1)
  refine own_by (T' := T198) (g' := (mkF m 174 #[.val (.long q0_0), .second, .val (.long q0_1), .second, .val (.int p0_2), .val (.ref b58), .unset] [])) st198 ?_
  refine own_by (T' := T198) (g' := (mkF m 181 #[.val (.long q0_0), .second, .val (.long q0_1), .second, .val (.int p0_2), .val (.ref b58), .unset] [(.int (48 : Int32)), (.long q0_1), (.int (12 : Int32)), (.ref b58)])) (fun t k => ?_) ?_
  · show Steps p.tables e below (T198.setTop (mkF m 174 #[.val (.long q0_0), .second, .val (.long q0_1), .second, .val (.int p0_2), .val (.ref b58), .unset] [])) t
    refine XS.aload X198.here hx rfl (hb hby at_174) rfl rfl ?_
    show Steps p.tables e below (T198.setTop (mkF m 176 #[.val (.long q0_0), .second, .val (.long q0_1), .second, .val (.int p0_2), .val (.ref b58), .unset] [(.ref b58)])) t
    refine XS.bipush X198.here hx rfl (hb hby at_176) ?_
    show Steps p.tables e below (T198.setTop (mkF m 178 #[.val (.long q0_0), .second, .val (.long q0_1), .second, .val (.int p0_2), .val (.ref b58), .unset] [(.int (12 : Int32)), (.ref b58)])) t
    refine XS.lloadN X198.here hx rfl (hb hby at_178) rfl ?_
    show Steps p.tables e below (T198.setTop (mkF m 179 #[.val (.long q0_0), .second, .val (.long q0_1), .second, .val (.int p0_2), .val (.ref b58), .unset] [(.long q0_1), (.int (12 : Int32)), (.ref b58)])) t
    refine XS.bipush X198.here hx rfl (hb hby at_179) ?_
    show Steps p.tables e below (T198.setTop (mkF m 181 #[.val (.long q0_0), .second, .val (.long q0_1), .second, .val (.int p0_2), .val (.ref b58), .unset] [(.int (48 : Int32)), (.long q0_1), (.int (12 : Int32)), (.ref b58)])) t
    exact k
  obtain ⟨v205, _, ⟨T205, L205, k205, n205⟩, -, X205, ⟨Lc205, hQ205, l205, y205, z205⟩, st205⟩ := Jvm.LawKit.callS X198 hx (y := (⟨"com/example/vacant_errand/vacanterrand/PackedIdHighPinLaw", "six", "(JI)I"⟩ : MethodName)) hown (mvT hZ (hw _ (List.mem_of_getElem? (i := 1) rfl))) (mvT hZ (hw _ (List.mem_of_getElem? (i := 2) rfl))) (mvT hZ (hw _ (List.mem_of_getElem? (i := 3) rfl))) (mvT hZ (hw _ (List.mem_of_getElem? (i := 4) rfl))) (by decide) (backOf (W := 2) (own_rm1 l Z a0 hw [] q0_1 (48 : Int32) h198 n0 Z204) hZ (hw _ (List.mem_of_getElem? (i := 4) rfl)) (hw _ (List.mem_of_getElem? (i := 3) rfl)) (by decide) (by decide)) (g := (mkF m 181 #[.val (.long q0_0), .second, .val (.long q0_1), .second, .val (.int p0_2), .val (.ref b58), .unset] [(.int (48 : Int32)), (.long q0_1), (.int (12 : Int32)), (.ref b58)])) rfl (by rw [hml]; rfl) (argsL := [(.long q0_1), (.int (48 : Int32))]) (rest := [(.int (12 : Int32)), (.ref b58)]) (lenOf pd__JI_I rfl) rfl (by show 2 * 0 + _ ≤ _; exact Nat.le_of_eq rfl) (hb hby at_181) (fun _ _ => ⟨rfl, e198, (by decide : 1 + 0 ≤ _), (by decide : 22 + 0 ≤ _)⟩)
  dsimp only [Pt.U, Pt.locs, Pt.cells, Pt.slots] at X205 l205 y205 z205 st205 hQ205
  subst y205 z205
  obtain ⟨rfl, M205, e205⟩ := hQ205
  have N206 : Fr n0 L205 := by rw [l205]; exact Fr.app N202 M205
  refine own_by (T' := T205) (g' := (mkF m 184 #[.val (.long q0_0), .second, .val (.long q0_1), .second, .val (.int p0_2), .val (.ref b58), .unset] [(.int (own_F1 q0_1 (48 : Int32))), (.int (12 : Int32)), (.ref b58)])) st205 ?_
  obtain ⟨v207, _, ⟨T207, L207, k207, n207⟩, -, X207, ⟨Lc207, hQ207, l207, y207, z207⟩, st207⟩ := Jvm.LawKit.callS X205 hx (y := (⟨"com/example/vacant_errand/vacanterrand/PackedIdHighPinLaw", "c", "(I)C"⟩ : MethodName)) hown (mvT hZ (hw _ (List.mem_of_getElem? (i := 6) rfl))) (mvT hZ (hw _ (List.mem_of_getElem? (i := 7) rfl))) (mvT hZ (hw _ (List.mem_of_getElem? (i := 3) rfl))) (mvT hZ (hw _ (List.mem_of_getElem? (i := 8) rfl))) (by decide) (backOf (W := 2) (own_rm2 l Z a0 hw [] (own_F1 q0_1 (48 : Int32)) h198 n0 Z204) hZ (hw _ (List.mem_of_getElem? (i := 8) rfl)) (hw _ (List.mem_of_getElem? (i := 3) rfl)) (by decide) (by decide)) (g := (mkF m 184 #[.val (.long q0_0), .second, .val (.long q0_1), .second, .val (.int p0_2), .val (.ref b58), .unset] [(.int (own_F1 q0_1 (48 : Int32))), (.int (12 : Int32)), (.ref b58)])) rfl (by rw [hml]; rfl) (argsL := [(.int (own_F1 q0_1 (48 : Int32)))]) (rest := [(.int (12 : Int32)), (.ref b58)]) (lenOf pd__I_C rfl) rfl (by show 2 * 0 + _ ≤ _; exact Nat.le_of_eq rfl) (hb hby at_184) (fun _ _ => ⟨rfl, e205, (by decide : 1 + 0 ≤ _), (by decide : 22 + 0 ≤ _)⟩)
  dsimp only [Pt.U, Pt.locs, Pt.cells, Pt.slots] at X207 l207 y207 z207 st207 hQ207
  subst y207 z207
  obtain ⟨rfl, M207, e207⟩ := hQ207
  have N208 : Fr n0 L207 := by rw [l207]; exact Fr.app N206 M207
  refine own_by (T' := T207) (g' := (mkF m 187 #[.val (.long q0_0), .second, .val (.long q0_1), .second, .val (.int p0_2), .val (.ref b58), .unset] [(.int (own_F2 (own_F1 q0_1 (48 : Int32)))), (.int (12 : Int32)), (.ref b58)])) st207 ?_
  obtain ⟨cl209, Ar209, q209, S209, N209, H209, G209⟩ := f199
  obtain ⟨T210, h210, X210, e210, W210, st210⟩ := stC X207 hx hZ e207 Ar209 (j := (12 : Int32)) (inb_of S209 ⟨by decide, by decide⟩) (g := (mkF m 187 #[.val (.long q0_0), .second, .val (.long q0_1), .second, .val (.int p0_2), .val (.ref b58), .unset] [(.int (own_F2 (own_F1 q0_1 (48 : Int32)))), (.int (12 : Int32)), (.ref b58)])) rfl rfl (hb hby at_187)
  have f211 : Arv Z h210 b58 k58 .char (22 : Int32) [(.int (nar .char (own_F2 (own_F1 q0_0 (58 : Int32))))), (.int (nar .char (own_F2 (own_F1 q0_0 (52 : Int32))))), (.int (nar .char (own_F2 (own_F1 q0_0 (46 : Int32))))), (.int (nar .char (own_F2 (own_F1 q0_0 (40 : Int32))))), (.int (nar .char (own_F2 (own_F1 q0_0 (34 : Int32))))), (.int (nar .char (own_F2 (own_F1 q0_0 (28 : Int32))))), (.int (nar .char (own_F2 (own_F1 q0_0 (22 : Int32))))), (.int (nar .char (own_F2 (own_F1 q0_0 (16 : Int32))))), (.int (nar .char (own_F2 (own_F1 q0_0 (10 : Int32))))), (.int (nar .char (own_F2 (own_F1 q0_0 (4 : Int32))))), (.int (nar .char (own_F2 ((((q0_0 &&& (15 : Int64)).toInt32) <<< ((2 : Int32) &&& 31)) ||| (p0_2 &&& (3 : Int32)))))), (.int (nar .char (own_F2 (own_F1 q0_1 (54 : Int32))))), (.int (nar .char (own_F2 (own_F1 q0_1 (48 : Int32))))), (.int (0 : Int32)), (.int (0 : Int32)), (.int (0 : Int32)), (.int (0 : Int32)), (.int (0 : Int32)), (.int (0 : Int32)), (.int (0 : Int32)), (.int (0 : Int32)), (.int (0 : Int32))] (.int (0 : Int32)) := Arv.set Ar209 q209 S209 N209 H209 G209 (fits_nar_char _) W210 12 rfl (Nat.le_of_ble_eq_true rfl)
  have K213 : Keep h0 h210 [] := K201.wr W210 (Or.inr sz_b58)
  have N214 := Fr.snoc X210 N208 gn_b58
  obtain ⟨Lh210, X210, N214⟩ := own_hide X210 N214
  have O215 := O203.wr W210 gn_b58
  have Z216 := (Nat.le_trans Z204 (Keep.of_wr W210).1)
  refine own_by (T' := T210) (g' := (mkF m 188 #[.val (.long q0_0), .second, .val (.long q0_1), .second, .val (.int p0_2), .val (.ref b58), .unset] [])) st210 ?_
  refine own_by (T' := T210) (g' := (mkF m 195 #[.val (.long q0_0), .second, .val (.long q0_1), .second, .val (.int p0_2), .val (.ref b58), .unset] [(.int (42 : Int32)), (.long q0_1), (.int (13 : Int32)), (.ref b58)])) (fun t k => ?_) ?_
  · show Steps p.tables e below (T210.setTop (mkF m 188 #[.val (.long q0_0), .second, .val (.long q0_1), .second, .val (.int p0_2), .val (.ref b58), .unset] [])) t
    refine XS.aload X210.here hx rfl (hb hby at_188) rfl rfl ?_
    show Steps p.tables e below (T210.setTop (mkF m 190 #[.val (.long q0_0), .second, .val (.long q0_1), .second, .val (.int p0_2), .val (.ref b58), .unset] [(.ref b58)])) t
    refine XS.bipush X210.here hx rfl (hb hby at_190) ?_
    show Steps p.tables e below (T210.setTop (mkF m 192 #[.val (.long q0_0), .second, .val (.long q0_1), .second, .val (.int p0_2), .val (.ref b58), .unset] [(.int (13 : Int32)), (.ref b58)])) t
    refine XS.lloadN X210.here hx rfl (hb hby at_192) rfl ?_
    show Steps p.tables e below (T210.setTop (mkF m 193 #[.val (.long q0_0), .second, .val (.long q0_1), .second, .val (.int p0_2), .val (.ref b58), .unset] [(.long q0_1), (.int (13 : Int32)), (.ref b58)])) t
    refine XS.bipush X210.here hx rfl (hb hby at_193) ?_
    show Steps p.tables e below (T210.setTop (mkF m 195 #[.val (.long q0_0), .second, .val (.long q0_1), .second, .val (.int p0_2), .val (.ref b58), .unset] [(.int (42 : Int32)), (.long q0_1), (.int (13 : Int32)), (.ref b58)])) t
    exact k
  obtain ⟨v217, _, ⟨T217, L217, k217, n217⟩, -, X217, ⟨Lc217, hQ217, l217, y217, z217⟩, st217⟩ := Jvm.LawKit.callS X210 hx (y := (⟨"com/example/vacant_errand/vacanterrand/PackedIdHighPinLaw", "six", "(JI)I"⟩ : MethodName)) hown (mvT hZ (hw _ (List.mem_of_getElem? (i := 1) rfl))) (mvT hZ (hw _ (List.mem_of_getElem? (i := 2) rfl))) (mvT hZ (hw _ (List.mem_of_getElem? (i := 3) rfl))) (mvT hZ (hw _ (List.mem_of_getElem? (i := 4) rfl))) (by decide) (backOf (W := 2) (own_rm1 l Z a0 hw [] q0_1 (42 : Int32) h210 n0 Z216) hZ (hw _ (List.mem_of_getElem? (i := 4) rfl)) (hw _ (List.mem_of_getElem? (i := 3) rfl)) (by decide) (by decide)) (g := (mkF m 195 #[.val (.long q0_0), .second, .val (.long q0_1), .second, .val (.int p0_2), .val (.ref b58), .unset] [(.int (42 : Int32)), (.long q0_1), (.int (13 : Int32)), (.ref b58)])) rfl (by rw [hml]; rfl) (argsL := [(.long q0_1), (.int (42 : Int32))]) (rest := [(.int (13 : Int32)), (.ref b58)]) (lenOf pd__JI_I rfl) rfl (by show 2 * 0 + _ ≤ _; exact Nat.le_of_eq rfl) (hb hby at_195) (fun _ _ => ⟨rfl, e210, (by decide : 1 + 0 ≤ _), (by decide : 22 + 0 ≤ _)⟩)
  dsimp only [Pt.U, Pt.locs, Pt.cells, Pt.slots] at X217 l217 y217 z217 st217 hQ217
  subst y217 z217
  obtain ⟨rfl, M217, e217⟩ := hQ217
  have N218 : Fr n0 L217 := by rw [l217]; exact Fr.app N214 M217
  refine own_by (T' := T217) (g' := (mkF m 198 #[.val (.long q0_0), .second, .val (.long q0_1), .second, .val (.int p0_2), .val (.ref b58), .unset] [(.int (own_F1 q0_1 (42 : Int32))), (.int (13 : Int32)), (.ref b58)])) st217 ?_
  obtain ⟨v219, _, ⟨T219, L219, k219, n219⟩, -, X219, ⟨Lc219, hQ219, l219, y219, z219⟩, st219⟩ := Jvm.LawKit.callS X217 hx (y := (⟨"com/example/vacant_errand/vacanterrand/PackedIdHighPinLaw", "c", "(I)C"⟩ : MethodName)) hown (mvT hZ (hw _ (List.mem_of_getElem? (i := 6) rfl))) (mvT hZ (hw _ (List.mem_of_getElem? (i := 7) rfl))) (mvT hZ (hw _ (List.mem_of_getElem? (i := 3) rfl))) (mvT hZ (hw _ (List.mem_of_getElem? (i := 8) rfl))) (by decide) (backOf (W := 2) (own_rm2 l Z a0 hw [] (own_F1 q0_1 (42 : Int32)) h210 n0 Z216) hZ (hw _ (List.mem_of_getElem? (i := 8) rfl)) (hw _ (List.mem_of_getElem? (i := 3) rfl)) (by decide) (by decide)) (g := (mkF m 198 #[.val (.long q0_0), .second, .val (.long q0_1), .second, .val (.int p0_2), .val (.ref b58), .unset] [(.int (own_F1 q0_1 (42 : Int32))), (.int (13 : Int32)), (.ref b58)])) rfl (by rw [hml]; rfl) (argsL := [(.int (own_F1 q0_1 (42 : Int32)))]) (rest := [(.int (13 : Int32)), (.ref b58)]) (lenOf pd__I_C rfl) rfl (by show 2 * 0 + _ ≤ _; exact Nat.le_of_eq rfl) (hb hby at_198) (fun _ _ => ⟨rfl, e217, (by decide : 1 + 0 ≤ _), (by decide : 22 + 0 ≤ _)⟩)
  dsimp only [Pt.U, Pt.locs, Pt.cells, Pt.slots] at X219 l219 y219 z219 st219 hQ219
  subst y219 z219
  obtain ⟨rfl, M219, e219⟩ := hQ219
  have N220 : Fr n0 L219 := by rw [l219]; exact Fr.app N218 M219
  refine own_by (T' := T219) (g' := (mkF m 201 #[.val (.long q0_0), .second, .val (.long q0_1), .second, .val (.int p0_2), .val (.ref b58), .unset] [(.int (own_F2 (own_F1 q0_1 (42 : Int32)))), (.int (13 : Int32)), (.ref b58)])) st219 ?_
  obtain ⟨cl221, Ar221, q221, S221, N221, H221, G221⟩ := f211
  obtain ⟨T222, h222, X222, e222, W222, st222⟩ := stC X219 hx hZ e219 Ar221 (j := (13 : Int32)) (inb_of S221 ⟨by decide, by decide⟩) (g := (mkF m 201 #[.val (.long q0_0), .second, .val (.long q0_1), .second, .val (.int p0_2), .val (.ref b58), .unset] [(.int (own_F2 (own_F1 q0_1 (42 : Int32)))), (.int (13 : Int32)), (.ref b58)])) rfl rfl (hb hby at_201)
  have f223 : Arv Z h222 b58 k58 .char (22 : Int32) [(.int (nar .char (own_F2 (own_F1 q0_0 (58 : Int32))))), (.int (nar .char (own_F2 (own_F1 q0_0 (52 : Int32))))), (.int (nar .char (own_F2 (own_F1 q0_0 (46 : Int32))))), (.int (nar .char (own_F2 (own_F1 q0_0 (40 : Int32))))), (.int (nar .char (own_F2 (own_F1 q0_0 (34 : Int32))))), (.int (nar .char (own_F2 (own_F1 q0_0 (28 : Int32))))), (.int (nar .char (own_F2 (own_F1 q0_0 (22 : Int32))))), (.int (nar .char (own_F2 (own_F1 q0_0 (16 : Int32))))), (.int (nar .char (own_F2 (own_F1 q0_0 (10 : Int32))))), (.int (nar .char (own_F2 (own_F1 q0_0 (4 : Int32))))), (.int (nar .char (own_F2 ((((q0_0 &&& (15 : Int64)).toInt32) <<< ((2 : Int32) &&& 31)) ||| (p0_2 &&& (3 : Int32)))))), (.int (nar .char (own_F2 (own_F1 q0_1 (54 : Int32))))), (.int (nar .char (own_F2 (own_F1 q0_1 (48 : Int32))))), (.int (nar .char (own_F2 (own_F1 q0_1 (42 : Int32))))), (.int (0 : Int32)), (.int (0 : Int32)), (.int (0 : Int32)), (.int (0 : Int32)), (.int (0 : Int32)), (.int (0 : Int32)), (.int (0 : Int32)), (.int (0 : Int32))] (.int (0 : Int32)) := Arv.set Ar221 q221 S221 N221 H221 G221 (fits_nar_char _) W222 13 rfl (Nat.le_of_ble_eq_true rfl)
  have K225 : Keep h0 h222 [] := K213.wr W222 (Or.inr sz_b58)
  have N226 := Fr.snoc X222 N220 gn_b58
  obtain ⟨Lh222, X222, N226⟩ := own_hide X222 N226
  have O227 := O215.wr W222 gn_b58
  have Z228 := (Nat.le_trans Z216 (Keep.of_wr W222).1)
  refine own_by (T' := T222) (g' := (mkF m 202 #[.val (.long q0_0), .second, .val (.long q0_1), .second, .val (.int p0_2), .val (.ref b58), .unset] [])) st222 ?_
  refine own_by (T' := T222) (g' := (mkF m 209 #[.val (.long q0_0), .second, .val (.long q0_1), .second, .val (.int p0_2), .val (.ref b58), .unset] [(.int (36 : Int32)), (.long q0_1), (.int (14 : Int32)), (.ref b58)])) (fun t k => ?_) ?_
  · show Steps p.tables e below (T222.setTop (mkF m 202 #[.val (.long q0_0), .second, .val (.long q0_1), .second, .val (.int p0_2), .val (.ref b58), .unset] [])) t
    refine XS.aload X222.here hx rfl (hb hby at_202) rfl rfl ?_
    show Steps p.tables e below (T222.setTop (mkF m 204 #[.val (.long q0_0), .second, .val (.long q0_1), .second, .val (.int p0_2), .val (.ref b58), .unset] [(.ref b58)])) t
    refine XS.bipush X222.here hx rfl (hb hby at_204) ?_
    show Steps p.tables e below (T222.setTop (mkF m 206 #[.val (.long q0_0), .second, .val (.long q0_1), .second, .val (.int p0_2), .val (.ref b58), .unset] [(.int (14 : Int32)), (.ref b58)])) t
    refine XS.lloadN X222.here hx rfl (hb hby at_206) rfl ?_
    show Steps p.tables e below (T222.setTop (mkF m 207 #[.val (.long q0_0), .second, .val (.long q0_1), .second, .val (.int p0_2), .val (.ref b58), .unset] [(.long q0_1), (.int (14 : Int32)), (.ref b58)])) t
    refine XS.bipush X222.here hx rfl (hb hby at_207) ?_
    show Steps p.tables e below (T222.setTop (mkF m 209 #[.val (.long q0_0), .second, .val (.long q0_1), .second, .val (.int p0_2), .val (.ref b58), .unset] [(.int (36 : Int32)), (.long q0_1), (.int (14 : Int32)), (.ref b58)])) t
    exact k
  obtain ⟨v229, _, ⟨T229, L229, k229, n229⟩, -, X229, ⟨Lc229, hQ229, l229, y229, z229⟩, st229⟩ := Jvm.LawKit.callS X222 hx (y := (⟨"com/example/vacant_errand/vacanterrand/PackedIdHighPinLaw", "six", "(JI)I"⟩ : MethodName)) hown (mvT hZ (hw _ (List.mem_of_getElem? (i := 1) rfl))) (mvT hZ (hw _ (List.mem_of_getElem? (i := 2) rfl))) (mvT hZ (hw _ (List.mem_of_getElem? (i := 3) rfl))) (mvT hZ (hw _ (List.mem_of_getElem? (i := 4) rfl))) (by decide) (backOf (W := 2) (own_rm1 l Z a0 hw [] q0_1 (36 : Int32) h222 n0 Z228) hZ (hw _ (List.mem_of_getElem? (i := 4) rfl)) (hw _ (List.mem_of_getElem? (i := 3) rfl)) (by decide) (by decide)) (g := (mkF m 209 #[.val (.long q0_0), .second, .val (.long q0_1), .second, .val (.int p0_2), .val (.ref b58), .unset] [(.int (36 : Int32)), (.long q0_1), (.int (14 : Int32)), (.ref b58)])) rfl (by rw [hml]; rfl) (argsL := [(.long q0_1), (.int (36 : Int32))]) (rest := [(.int (14 : Int32)), (.ref b58)]) (lenOf pd__JI_I rfl) rfl (by show 2 * 0 + _ ≤ _; exact Nat.le_of_eq rfl) (hb hby at_209) (fun _ _ => ⟨rfl, e222, (by decide : 1 + 0 ≤ _), (by decide : 22 + 0 ≤ _)⟩)
  dsimp only [Pt.U, Pt.locs, Pt.cells, Pt.slots] at X229 l229 y229 z229 st229 hQ229
  subst y229 z229
  obtain ⟨rfl, M229, e229⟩ := hQ229
  have N230 : Fr n0 L229 := by rw [l229]; exact Fr.app N226 M229
  refine own_by (T' := T229) (g' := (mkF m 212 #[.val (.long q0_0), .second, .val (.long q0_1), .second, .val (.int p0_2), .val (.ref b58), .unset] [(.int (own_F1 q0_1 (36 : Int32))), (.int (14 : Int32)), (.ref b58)])) st229 ?_
  obtain ⟨v231, _, ⟨T231, L231, k231, n231⟩, -, X231, ⟨Lc231, hQ231, l231, y231, z231⟩, st231⟩ := Jvm.LawKit.callS X229 hx (y := (⟨"com/example/vacant_errand/vacanterrand/PackedIdHighPinLaw", "c", "(I)C"⟩ : MethodName)) hown (mvT hZ (hw _ (List.mem_of_getElem? (i := 6) rfl))) (mvT hZ (hw _ (List.mem_of_getElem? (i := 7) rfl))) (mvT hZ (hw _ (List.mem_of_getElem? (i := 3) rfl))) (mvT hZ (hw _ (List.mem_of_getElem? (i := 8) rfl))) (by decide) (backOf (W := 2) (own_rm2 l Z a0 hw [] (own_F1 q0_1 (36 : Int32)) h222 n0 Z228) hZ (hw _ (List.mem_of_getElem? (i := 8) rfl)) (hw _ (List.mem_of_getElem? (i := 3) rfl)) (by decide) (by decide)) (g := (mkF m 212 #[.val (.long q0_0), .second, .val (.long q0_1), .second, .val (.int p0_2), .val (.ref b58), .unset] [(.int (own_F1 q0_1 (36 : Int32))), (.int (14 : Int32)), (.ref b58)])) rfl (by rw [hml]; rfl) (argsL := [(.int (own_F1 q0_1 (36 : Int32)))]) (rest := [(.int (14 : Int32)), (.ref b58)]) (lenOf pd__I_C rfl) rfl (by show 2 * 0 + _ ≤ _; exact Nat.le_of_eq rfl) (hb hby at_212) (fun _ _ => ⟨rfl, e229, (by decide : 1 + 0 ≤ _), (by decide : 22 + 0 ≤ _)⟩)
  dsimp only [Pt.U, Pt.locs, Pt.cells, Pt.slots] at X231 l231 y231 z231 st231 hQ231
  subst y231 z231
  obtain ⟨rfl, M231, e231⟩ := hQ231
  have N232 : Fr n0 L231 := by rw [l231]; exact Fr.app N230 M231
  refine own_by (T' := T231) (g' := (mkF m 215 #[.val (.long q0_0), .second, .val (.long q0_1), .second, .val (.int p0_2), .val (.ref b58), .unset] [(.int (own_F2 (own_F1 q0_1 (36 : Int32)))), (.int (14 : Int32)), (.ref b58)])) st231 ?_
  obtain ⟨cl233, Ar233, q233, S233, N233, H233, G233⟩ := f223
  obtain ⟨T234, h234, X234, e234, W234, st234⟩ := stC X231 hx hZ e231 Ar233 (j := (14 : Int32)) (inb_of S233 ⟨by decide, by decide⟩) (g := (mkF m 215 #[.val (.long q0_0), .second, .val (.long q0_1), .second, .val (.int p0_2), .val (.ref b58), .unset] [(.int (own_F2 (own_F1 q0_1 (36 : Int32)))), (.int (14 : Int32)), (.ref b58)])) rfl rfl (hb hby at_215)
  have f235 : Arv Z h234 b58 k58 .char (22 : Int32) [(.int (nar .char (own_F2 (own_F1 q0_0 (58 : Int32))))), (.int (nar .char (own_F2 (own_F1 q0_0 (52 : Int32))))), (.int (nar .char (own_F2 (own_F1 q0_0 (46 : Int32))))), (.int (nar .char (own_F2 (own_F1 q0_0 (40 : Int32))))), (.int (nar .char (own_F2 (own_F1 q0_0 (34 : Int32))))), (.int (nar .char (own_F2 (own_F1 q0_0 (28 : Int32))))), (.int (nar .char (own_F2 (own_F1 q0_0 (22 : Int32))))), (.int (nar .char (own_F2 (own_F1 q0_0 (16 : Int32))))), (.int (nar .char (own_F2 (own_F1 q0_0 (10 : Int32))))), (.int (nar .char (own_F2 (own_F1 q0_0 (4 : Int32))))), (.int (nar .char (own_F2 ((((q0_0 &&& (15 : Int64)).toInt32) <<< ((2 : Int32) &&& 31)) ||| (p0_2 &&& (3 : Int32)))))), (.int (nar .char (own_F2 (own_F1 q0_1 (54 : Int32))))), (.int (nar .char (own_F2 (own_F1 q0_1 (48 : Int32))))), (.int (nar .char (own_F2 (own_F1 q0_1 (42 : Int32))))), (.int (nar .char (own_F2 (own_F1 q0_1 (36 : Int32))))), (.int (0 : Int32)), (.int (0 : Int32)), (.int (0 : Int32)), (.int (0 : Int32)), (.int (0 : Int32)), (.int (0 : Int32)), (.int (0 : Int32))] (.int (0 : Int32)) := Arv.set Ar233 q233 S233 N233 H233 G233 (fits_nar_char _) W234 14 rfl (Nat.le_of_ble_eq_true rfl)
  have K237 : Keep h0 h234 [] := K225.wr W234 (Or.inr sz_b58)
  have N238 := Fr.snoc X234 N232 gn_b58
  obtain ⟨Lh234, X234, N238⟩ := own_hide X234 N238
  have O239 := O227.wr W234 gn_b58
  have Z240 := (Nat.le_trans Z228 (Keep.of_wr W234).1)
  refine own_by (T' := T234) (g' := (mkF m 216 #[.val (.long q0_0), .second, .val (.long q0_1), .second, .val (.int p0_2), .val (.ref b58), .unset] [])) st234 ?_
  refine own_by (T' := T234) (g' := (mkF m 223 #[.val (.long q0_0), .second, .val (.long q0_1), .second, .val (.int p0_2), .val (.ref b58), .unset] [(.int (30 : Int32)), (.long q0_1), (.int (15 : Int32)), (.ref b58)])) (fun t k => ?_) ?_
  · show Steps p.tables e below (T234.setTop (mkF m 216 #[.val (.long q0_0), .second, .val (.long q0_1), .second, .val (.int p0_2), .val (.ref b58), .unset] [])) t
    refine XS.aload X234.here hx rfl (hb hby at_216) rfl rfl ?_
    show Steps p.tables e below (T234.setTop (mkF m 218 #[.val (.long q0_0), .second, .val (.long q0_1), .second, .val (.int p0_2), .val (.ref b58), .unset] [(.ref b58)])) t
    refine XS.bipush X234.here hx rfl (hb hby at_218) ?_
    show Steps p.tables e below (T234.setTop (mkF m 220 #[.val (.long q0_0), .second, .val (.long q0_1), .second, .val (.int p0_2), .val (.ref b58), .unset] [(.int (15 : Int32)), (.ref b58)])) t
    refine XS.lloadN X234.here hx rfl (hb hby at_220) rfl ?_
    show Steps p.tables e below (T234.setTop (mkF m 221 #[.val (.long q0_0), .second, .val (.long q0_1), .second, .val (.int p0_2), .val (.ref b58), .unset] [(.long q0_1), (.int (15 : Int32)), (.ref b58)])) t
    refine XS.bipush X234.here hx rfl (hb hby at_221) ?_
    show Steps p.tables e below (T234.setTop (mkF m 223 #[.val (.long q0_0), .second, .val (.long q0_1), .second, .val (.int p0_2), .val (.ref b58), .unset] [(.int (30 : Int32)), (.long q0_1), (.int (15 : Int32)), (.ref b58)])) t
    exact k
  obtain ⟨v241, _, ⟨T241, L241, k241, n241⟩, -, X241, ⟨Lc241, hQ241, l241, y241, z241⟩, st241⟩ := Jvm.LawKit.callS X234 hx (y := (⟨"com/example/vacant_errand/vacanterrand/PackedIdHighPinLaw", "six", "(JI)I"⟩ : MethodName)) hown (mvT hZ (hw _ (List.mem_of_getElem? (i := 1) rfl))) (mvT hZ (hw _ (List.mem_of_getElem? (i := 2) rfl))) (mvT hZ (hw _ (List.mem_of_getElem? (i := 3) rfl))) (mvT hZ (hw _ (List.mem_of_getElem? (i := 4) rfl))) (by decide) (backOf (W := 2) (own_rm1 l Z a0 hw [] q0_1 (30 : Int32) h234 n0 Z240) hZ (hw _ (List.mem_of_getElem? (i := 4) rfl)) (hw _ (List.mem_of_getElem? (i := 3) rfl)) (by decide) (by decide)) (g := (mkF m 223 #[.val (.long q0_0), .second, .val (.long q0_1), .second, .val (.int p0_2), .val (.ref b58), .unset] [(.int (30 : Int32)), (.long q0_1), (.int (15 : Int32)), (.ref b58)])) rfl (by rw [hml]; rfl) (argsL := [(.long q0_1), (.int (30 : Int32))]) (rest := [(.int (15 : Int32)), (.ref b58)]) (lenOf pd__JI_I rfl) rfl (by show 2 * 0 + _ ≤ _; exact Nat.le_of_eq rfl) (hb hby at_223) (fun _ _ => ⟨rfl, e234, (by decide : 1 + 0 ≤ _), (by decide : 22 + 0 ≤ _)⟩)
  dsimp only [Pt.U, Pt.locs, Pt.cells, Pt.slots] at X241 l241 y241 z241 st241 hQ241
  subst y241 z241
  obtain ⟨rfl, M241, e241⟩ := hQ241
  have N242 : Fr n0 L241 := by rw [l241]; exact Fr.app N238 M241
  refine own_by (T' := T241) (g' := (mkF m 226 #[.val (.long q0_0), .second, .val (.long q0_1), .second, .val (.int p0_2), .val (.ref b58), .unset] [(.int (own_F1 q0_1 (30 : Int32))), (.int (15 : Int32)), (.ref b58)])) st241 ?_
  obtain ⟨v243, _, ⟨T243, L243, k243, n243⟩, -, X243, ⟨Lc243, hQ243, l243, y243, z243⟩, st243⟩ := Jvm.LawKit.callS X241 hx (y := (⟨"com/example/vacant_errand/vacanterrand/PackedIdHighPinLaw", "c", "(I)C"⟩ : MethodName)) hown (mvT hZ (hw _ (List.mem_of_getElem? (i := 6) rfl))) (mvT hZ (hw _ (List.mem_of_getElem? (i := 7) rfl))) (mvT hZ (hw _ (List.mem_of_getElem? (i := 3) rfl))) (mvT hZ (hw _ (List.mem_of_getElem? (i := 8) rfl))) (by decide) (backOf (W := 2) (own_rm2 l Z a0 hw [] (own_F1 q0_1 (30 : Int32)) h234 n0 Z240) hZ (hw _ (List.mem_of_getElem? (i := 8) rfl)) (hw _ (List.mem_of_getElem? (i := 3) rfl)) (by decide) (by decide)) (g := (mkF m 226 #[.val (.long q0_0), .second, .val (.long q0_1), .second, .val (.int p0_2), .val (.ref b58), .unset] [(.int (own_F1 q0_1 (30 : Int32))), (.int (15 : Int32)), (.ref b58)])) rfl (by rw [hml]; rfl) (argsL := [(.int (own_F1 q0_1 (30 : Int32)))]) (rest := [(.int (15 : Int32)), (.ref b58)]) (lenOf pd__I_C rfl) rfl (by show 2 * 0 + _ ≤ _; exact Nat.le_of_eq rfl) (hb hby at_226) (fun _ _ => ⟨rfl, e241, (by decide : 1 + 0 ≤ _), (by decide : 22 + 0 ≤ _)⟩)
  dsimp only [Pt.U, Pt.locs, Pt.cells, Pt.slots] at X243 l243 y243 z243 st243 hQ243
  subst y243 z243
  obtain ⟨rfl, M243, e243⟩ := hQ243
  have N244 : Fr n0 L243 := by rw [l243]; exact Fr.app N242 M243
  refine own_by (T' := T243) (g' := (mkF m 229 #[.val (.long q0_0), .second, .val (.long q0_1), .second, .val (.int p0_2), .val (.ref b58), .unset] [(.int (own_F2 (own_F1 q0_1 (30 : Int32)))), (.int (15 : Int32)), (.ref b58)])) st243 ?_
  obtain ⟨cl245, Ar245, q245, S245, N245, H245, G245⟩ := f235
  obtain ⟨T246, h246, X246, e246, W246, st246⟩ := stC X243 hx hZ e243 Ar245 (j := (15 : Int32)) (inb_of S245 ⟨by decide, by decide⟩) (g := (mkF m 229 #[.val (.long q0_0), .second, .val (.long q0_1), .second, .val (.int p0_2), .val (.ref b58), .unset] [(.int (own_F2 (own_F1 q0_1 (30 : Int32)))), (.int (15 : Int32)), (.ref b58)])) rfl rfl (hb hby at_229)
  have f247 : Arv Z h246 b58 k58 .char (22 : Int32) [(.int (nar .char (own_F2 (own_F1 q0_0 (58 : Int32))))), (.int (nar .char (own_F2 (own_F1 q0_0 (52 : Int32))))), (.int (nar .char (own_F2 (own_F1 q0_0 (46 : Int32))))), (.int (nar .char (own_F2 (own_F1 q0_0 (40 : Int32))))), (.int (nar .char (own_F2 (own_F1 q0_0 (34 : Int32))))), (.int (nar .char (own_F2 (own_F1 q0_0 (28 : Int32))))), (.int (nar .char (own_F2 (own_F1 q0_0 (22 : Int32))))), (.int (nar .char (own_F2 (own_F1 q0_0 (16 : Int32))))), (.int (nar .char (own_F2 (own_F1 q0_0 (10 : Int32))))), (.int (nar .char (own_F2 (own_F1 q0_0 (4 : Int32))))), (.int (nar .char (own_F2 ((((q0_0 &&& (15 : Int64)).toInt32) <<< ((2 : Int32) &&& 31)) ||| (p0_2 &&& (3 : Int32)))))), (.int (nar .char (own_F2 (own_F1 q0_1 (54 : Int32))))), (.int (nar .char (own_F2 (own_F1 q0_1 (48 : Int32))))), (.int (nar .char (own_F2 (own_F1 q0_1 (42 : Int32))))), (.int (nar .char (own_F2 (own_F1 q0_1 (36 : Int32))))), (.int (nar .char (own_F2 (own_F1 q0_1 (30 : Int32))))), (.int (0 : Int32)), (.int (0 : Int32)), (.int (0 : Int32)), (.int (0 : Int32)), (.int (0 : Int32)), (.int (0 : Int32))] (.int (0 : Int32)) := Arv.set Ar245 q245 S245 N245 H245 G245 (fits_nar_char _) W246 15 rfl (Nat.le_of_ble_eq_true rfl)
  have K249 : Keep h0 h246 [] := K237.wr W246 (Or.inr sz_b58)
  have N250 := Fr.snoc X246 N244 gn_b58
  obtain ⟨Lh246, X246, N250⟩ := own_hide X246 N250
  have O251 := O239.wr W246 gn_b58
  have Z252 := (Nat.le_trans Z240 (Keep.of_wr W246).1)
  refine own_by (T' := T246) (g' := (mkF m 230 #[.val (.long q0_0), .second, .val (.long q0_1), .second, .val (.int p0_2), .val (.ref b58), .unset] [])) st246 ?_
  refine own_by (T' := T246) (g' := (mkF m 237 #[.val (.long q0_0), .second, .val (.long q0_1), .second, .val (.int p0_2), .val (.ref b58), .unset] [(.int (24 : Int32)), (.long q0_1), (.int (16 : Int32)), (.ref b58)])) (fun t k => ?_) ?_
  · show Steps p.tables e below (T246.setTop (mkF m 230 #[.val (.long q0_0), .second, .val (.long q0_1), .second, .val (.int p0_2), .val (.ref b58), .unset] [])) t
    refine XS.aload X246.here hx rfl (hb hby at_230) rfl rfl ?_
    show Steps p.tables e below (T246.setTop (mkF m 232 #[.val (.long q0_0), .second, .val (.long q0_1), .second, .val (.int p0_2), .val (.ref b58), .unset] [(.ref b58)])) t
    refine XS.bipush X246.here hx rfl (hb hby at_232) ?_
    show Steps p.tables e below (T246.setTop (mkF m 234 #[.val (.long q0_0), .second, .val (.long q0_1), .second, .val (.int p0_2), .val (.ref b58), .unset] [(.int (16 : Int32)), (.ref b58)])) t
    refine XS.lloadN X246.here hx rfl (hb hby at_234) rfl ?_
    show Steps p.tables e below (T246.setTop (mkF m 235 #[.val (.long q0_0), .second, .val (.long q0_1), .second, .val (.int p0_2), .val (.ref b58), .unset] [(.long q0_1), (.int (16 : Int32)), (.ref b58)])) t
    refine XS.bipush X246.here hx rfl (hb hby at_235) ?_
    show Steps p.tables e below (T246.setTop (mkF m 237 #[.val (.long q0_0), .second, .val (.long q0_1), .second, .val (.int p0_2), .val (.ref b58), .unset] [(.int (24 : Int32)), (.long q0_1), (.int (16 : Int32)), (.ref b58)])) t
    exact k
  obtain ⟨v253, _, ⟨T253, L253, k253, n253⟩, -, X253, ⟨Lc253, hQ253, l253, y253, z253⟩, st253⟩ := Jvm.LawKit.callS X246 hx (y := (⟨"com/example/vacant_errand/vacanterrand/PackedIdHighPinLaw", "six", "(JI)I"⟩ : MethodName)) hown (mvT hZ (hw _ (List.mem_of_getElem? (i := 1) rfl))) (mvT hZ (hw _ (List.mem_of_getElem? (i := 2) rfl))) (mvT hZ (hw _ (List.mem_of_getElem? (i := 3) rfl))) (mvT hZ (hw _ (List.mem_of_getElem? (i := 4) rfl))) (by decide) (backOf (W := 2) (own_rm1 l Z a0 hw [] q0_1 (24 : Int32) h246 n0 Z252) hZ (hw _ (List.mem_of_getElem? (i := 4) rfl)) (hw _ (List.mem_of_getElem? (i := 3) rfl)) (by decide) (by decide)) (g := (mkF m 237 #[.val (.long q0_0), .second, .val (.long q0_1), .second, .val (.int p0_2), .val (.ref b58), .unset] [(.int (24 : Int32)), (.long q0_1), (.int (16 : Int32)), (.ref b58)])) rfl (by rw [hml]; rfl) (argsL := [(.long q0_1), (.int (24 : Int32))]) (rest := [(.int (16 : Int32)), (.ref b58)]) (lenOf pd__JI_I rfl) rfl (by show 2 * 0 + _ ≤ _; exact Nat.le_of_eq rfl) (hb hby at_237) (fun _ _ => ⟨rfl, e246, (by decide : 1 + 0 ≤ _), (by decide : 22 + 0 ≤ _)⟩)
  dsimp only [Pt.U, Pt.locs, Pt.cells, Pt.slots] at X253 l253 y253 z253 st253 hQ253
  subst y253 z253
  obtain ⟨rfl, M253, e253⟩ := hQ253
  have N254 : Fr n0 L253 := by rw [l253]; exact Fr.app N250 M253
  refine own_by (T' := T253) (g' := (mkF m 240 #[.val (.long q0_0), .second, .val (.long q0_1), .second, .val (.int p0_2), .val (.ref b58), .unset] [(.int (own_F1 q0_1 (24 : Int32))), (.int (16 : Int32)), (.ref b58)])) st253 ?_
  obtain ⟨v255, _, ⟨T255, L255, k255, n255⟩, -, X255, ⟨Lc255, hQ255, l255, y255, z255⟩, st255⟩ := Jvm.LawKit.callS X253 hx (y := (⟨"com/example/vacant_errand/vacanterrand/PackedIdHighPinLaw", "c", "(I)C"⟩ : MethodName)) hown (mvT hZ (hw _ (List.mem_of_getElem? (i := 6) rfl))) (mvT hZ (hw _ (List.mem_of_getElem? (i := 7) rfl))) (mvT hZ (hw _ (List.mem_of_getElem? (i := 3) rfl))) (mvT hZ (hw _ (List.mem_of_getElem? (i := 8) rfl))) (by decide) (backOf (W := 2) (own_rm2 l Z a0 hw [] (own_F1 q0_1 (24 : Int32)) h246 n0 Z252) hZ (hw _ (List.mem_of_getElem? (i := 8) rfl)) (hw _ (List.mem_of_getElem? (i := 3) rfl)) (by decide) (by decide)) (g := (mkF m 240 #[.val (.long q0_0), .second, .val (.long q0_1), .second, .val (.int p0_2), .val (.ref b58), .unset] [(.int (own_F1 q0_1 (24 : Int32))), (.int (16 : Int32)), (.ref b58)])) rfl (by rw [hml]; rfl) (argsL := [(.int (own_F1 q0_1 (24 : Int32)))]) (rest := [(.int (16 : Int32)), (.ref b58)]) (lenOf pd__I_C rfl) rfl (by show 2 * 0 + _ ≤ _; exact Nat.le_of_eq rfl) (hb hby at_240) (fun _ _ => ⟨rfl, e253, (by decide : 1 + 0 ≤ _), (by decide : 22 + 0 ≤ _)⟩)
  dsimp only [Pt.U, Pt.locs, Pt.cells, Pt.slots] at X255 l255 y255 z255 st255 hQ255
  subst y255 z255
  obtain ⟨rfl, M255, e255⟩ := hQ255
  have N256 : Fr n0 L255 := by rw [l255]; exact Fr.app N254 M255
  refine own_by (T' := T255) (g' := (mkF m 243 #[.val (.long q0_0), .second, .val (.long q0_1), .second, .val (.int p0_2), .val (.ref b58), .unset] [(.int (own_F2 (own_F1 q0_1 (24 : Int32)))), (.int (16 : Int32)), (.ref b58)])) st255 ?_
  obtain ⟨cl257, Ar257, q257, S257, N257, H257, G257⟩ := f247
  obtain ⟨T258, h258, X258, e258, W258, st258⟩ := stC X255 hx hZ e255 Ar257 (j := (16 : Int32)) (inb_of S257 ⟨by decide, by decide⟩) (g := (mkF m 243 #[.val (.long q0_0), .second, .val (.long q0_1), .second, .val (.int p0_2), .val (.ref b58), .unset] [(.int (own_F2 (own_F1 q0_1 (24 : Int32)))), (.int (16 : Int32)), (.ref b58)])) rfl rfl (hb hby at_243)
  have f259 : Arv Z h258 b58 k58 .char (22 : Int32) [(.int (nar .char (own_F2 (own_F1 q0_0 (58 : Int32))))), (.int (nar .char (own_F2 (own_F1 q0_0 (52 : Int32))))), (.int (nar .char (own_F2 (own_F1 q0_0 (46 : Int32))))), (.int (nar .char (own_F2 (own_F1 q0_0 (40 : Int32))))), (.int (nar .char (own_F2 (own_F1 q0_0 (34 : Int32))))), (.int (nar .char (own_F2 (own_F1 q0_0 (28 : Int32))))), (.int (nar .char (own_F2 (own_F1 q0_0 (22 : Int32))))), (.int (nar .char (own_F2 (own_F1 q0_0 (16 : Int32))))), (.int (nar .char (own_F2 (own_F1 q0_0 (10 : Int32))))), (.int (nar .char (own_F2 (own_F1 q0_0 (4 : Int32))))), (.int (nar .char (own_F2 ((((q0_0 &&& (15 : Int64)).toInt32) <<< ((2 : Int32) &&& 31)) ||| (p0_2 &&& (3 : Int32)))))), (.int (nar .char (own_F2 (own_F1 q0_1 (54 : Int32))))), (.int (nar .char (own_F2 (own_F1 q0_1 (48 : Int32))))), (.int (nar .char (own_F2 (own_F1 q0_1 (42 : Int32))))), (.int (nar .char (own_F2 (own_F1 q0_1 (36 : Int32))))), (.int (nar .char (own_F2 (own_F1 q0_1 (30 : Int32))))), (.int (nar .char (own_F2 (own_F1 q0_1 (24 : Int32))))), (.int (0 : Int32)), (.int (0 : Int32)), (.int (0 : Int32)), (.int (0 : Int32)), (.int (0 : Int32))] (.int (0 : Int32)) := Arv.set Ar257 q257 S257 N257 H257 G257 (fits_nar_char _) W258 16 rfl (Nat.le_of_ble_eq_true rfl)
  have K261 : Keep h0 h258 [] := K249.wr W258 (Or.inr sz_b58)
  have N262 := Fr.snoc X258 N256 gn_b58
  obtain ⟨Lh258, X258, N262⟩ := own_hide X258 N262
  have O263 := O251.wr W258 gn_b58
  have Z264 := (Nat.le_trans Z252 (Keep.of_wr W258).1)
  refine own_by (T' := T258) (g' := (mkF m 244 #[.val (.long q0_0), .second, .val (.long q0_1), .second, .val (.int p0_2), .val (.ref b58), .unset] [])) st258 ?_
  refine own_by (T' := T258) (g' := (mkF m 251 #[.val (.long q0_0), .second, .val (.long q0_1), .second, .val (.int p0_2), .val (.ref b58), .unset] [(.int (18 : Int32)), (.long q0_1), (.int (17 : Int32)), (.ref b58)])) (fun t k => ?_) ?_
  · show Steps p.tables e below (T258.setTop (mkF m 244 #[.val (.long q0_0), .second, .val (.long q0_1), .second, .val (.int p0_2), .val (.ref b58), .unset] [])) t
    refine XS.aload X258.here hx rfl (hb hby at_244) rfl rfl ?_
    show Steps p.tables e below (T258.setTop (mkF m 246 #[.val (.long q0_0), .second, .val (.long q0_1), .second, .val (.int p0_2), .val (.ref b58), .unset] [(.ref b58)])) t
    refine XS.bipush X258.here hx rfl (hb hby at_246) ?_
    show Steps p.tables e below (T258.setTop (mkF m 248 #[.val (.long q0_0), .second, .val (.long q0_1), .second, .val (.int p0_2), .val (.ref b58), .unset] [(.int (17 : Int32)), (.ref b58)])) t
    refine XS.lloadN X258.here hx rfl (hb hby at_248) rfl ?_
    show Steps p.tables e below (T258.setTop (mkF m 249 #[.val (.long q0_0), .second, .val (.long q0_1), .second, .val (.int p0_2), .val (.ref b58), .unset] [(.long q0_1), (.int (17 : Int32)), (.ref b58)])) t
    refine XS.bipush X258.here hx rfl (hb hby at_249) ?_
    show Steps p.tables e below (T258.setTop (mkF m 251 #[.val (.long q0_0), .second, .val (.long q0_1), .second, .val (.int p0_2), .val (.ref b58), .unset] [(.int (18 : Int32)), (.long q0_1), (.int (17 : Int32)), (.ref b58)])) t
    exact k
  obtain ⟨v265, _, ⟨T265, L265, k265, n265⟩, -, X265, ⟨Lc265, hQ265, l265, y265, z265⟩, st265⟩ := Jvm.LawKit.callS X258 hx (y := (⟨"com/example/vacant_errand/vacanterrand/PackedIdHighPinLaw", "six", "(JI)I"⟩ : MethodName)) hown (mvT hZ (hw _ (List.mem_of_getElem? (i := 1) rfl))) (mvT hZ (hw _ (List.mem_of_getElem? (i := 2) rfl))) (mvT hZ (hw _ (List.mem_of_getElem? (i := 3) rfl))) (mvT hZ (hw _ (List.mem_of_getElem? (i := 4) rfl))) (by decide) (backOf (W := 2) (own_rm1 l Z a0 hw [] q0_1 (18 : Int32) h258 n0 Z264) hZ (hw _ (List.mem_of_getElem? (i := 4) rfl)) (hw _ (List.mem_of_getElem? (i := 3) rfl)) (by decide) (by decide)) (g := (mkF m 251 #[.val (.long q0_0), .second, .val (.long q0_1), .second, .val (.int p0_2), .val (.ref b58), .unset] [(.int (18 : Int32)), (.long q0_1), (.int (17 : Int32)), (.ref b58)])) rfl (by rw [hml]; rfl) (argsL := [(.long q0_1), (.int (18 : Int32))]) (rest := [(.int (17 : Int32)), (.ref b58)]) (lenOf pd__JI_I rfl) rfl (by show 2 * 0 + _ ≤ _; exact Nat.le_of_eq rfl) (hb hby at_251) (fun _ _ => ⟨rfl, e258, (by decide : 1 + 0 ≤ _), (by decide : 22 + 0 ≤ _)⟩)
  dsimp only [Pt.U, Pt.locs, Pt.cells, Pt.slots] at X265 l265 y265 z265 st265 hQ265
  subst y265 z265
  obtain ⟨rfl, M265, e265⟩ := hQ265
  have N266 : Fr n0 L265 := by rw [l265]; exact Fr.app N262 M265
  refine own_by (T' := T265) (g' := (mkF m 254 #[.val (.long q0_0), .second, .val (.long q0_1), .second, .val (.int p0_2), .val (.ref b58), .unset] [(.int (own_F1 q0_1 (18 : Int32))), (.int (17 : Int32)), (.ref b58)])) st265 ?_
  obtain ⟨v267, _, ⟨T267, L267, k267, n267⟩, -, X267, ⟨Lc267, hQ267, l267, y267, z267⟩, st267⟩ := Jvm.LawKit.callS X265 hx (y := (⟨"com/example/vacant_errand/vacanterrand/PackedIdHighPinLaw", "c", "(I)C"⟩ : MethodName)) hown (mvT hZ (hw _ (List.mem_of_getElem? (i := 6) rfl))) (mvT hZ (hw _ (List.mem_of_getElem? (i := 7) rfl))) (mvT hZ (hw _ (List.mem_of_getElem? (i := 3) rfl))) (mvT hZ (hw _ (List.mem_of_getElem? (i := 8) rfl))) (by decide) (backOf (W := 2) (own_rm2 l Z a0 hw [] (own_F1 q0_1 (18 : Int32)) h258 n0 Z264) hZ (hw _ (List.mem_of_getElem? (i := 8) rfl)) (hw _ (List.mem_of_getElem? (i := 3) rfl)) (by decide) (by decide)) (g := (mkF m 254 #[.val (.long q0_0), .second, .val (.long q0_1), .second, .val (.int p0_2), .val (.ref b58), .unset] [(.int (own_F1 q0_1 (18 : Int32))), (.int (17 : Int32)), (.ref b58)])) rfl (by rw [hml]; rfl) (argsL := [(.int (own_F1 q0_1 (18 : Int32)))]) (rest := [(.int (17 : Int32)), (.ref b58)]) (lenOf pd__I_C rfl) rfl (by show 2 * 0 + _ ≤ _; exact Nat.le_of_eq rfl) (hb hby at_254) (fun _ _ => ⟨rfl, e265, (by decide : 1 + 0 ≤ _), (by decide : 22 + 0 ≤ _)⟩)
  dsimp only [Pt.U, Pt.locs, Pt.cells, Pt.slots] at X267 l267 y267 z267 st267 hQ267
  subst y267 z267
  obtain ⟨rfl, M267, e267⟩ := hQ267
  have N268 : Fr n0 L267 := by rw [l267]; exact Fr.app N266 M267
  refine own_by (T' := T267) (g' := (mkF m 257 #[.val (.long q0_0), .second, .val (.long q0_1), .second, .val (.int p0_2), .val (.ref b58), .unset] [(.int (own_F2 (own_F1 q0_1 (18 : Int32)))), (.int (17 : Int32)), (.ref b58)])) st267 ?_
  obtain ⟨cl269, Ar269, q269, S269, N269, H269, G269⟩ := f259
  obtain ⟨T270, h270, X270, e270, W270, st270⟩ := stC X267 hx hZ e267 Ar269 (j := (17 : Int32)) (inb_of S269 ⟨by decide, by decide⟩) (g := (mkF m 257 #[.val (.long q0_0), .second, .val (.long q0_1), .second, .val (.int p0_2), .val (.ref b58), .unset] [(.int (own_F2 (own_F1 q0_1 (18 : Int32)))), (.int (17 : Int32)), (.ref b58)])) rfl rfl (hb hby at_257)
  have f271 : Arv Z h270 b58 k58 .char (22 : Int32) [(.int (nar .char (own_F2 (own_F1 q0_0 (58 : Int32))))), (.int (nar .char (own_F2 (own_F1 q0_0 (52 : Int32))))), (.int (nar .char (own_F2 (own_F1 q0_0 (46 : Int32))))), (.int (nar .char (own_F2 (own_F1 q0_0 (40 : Int32))))), (.int (nar .char (own_F2 (own_F1 q0_0 (34 : Int32))))), (.int (nar .char (own_F2 (own_F1 q0_0 (28 : Int32))))), (.int (nar .char (own_F2 (own_F1 q0_0 (22 : Int32))))), (.int (nar .char (own_F2 (own_F1 q0_0 (16 : Int32))))), (.int (nar .char (own_F2 (own_F1 q0_0 (10 : Int32))))), (.int (nar .char (own_F2 (own_F1 q0_0 (4 : Int32))))), (.int (nar .char (own_F2 ((((q0_0 &&& (15 : Int64)).toInt32) <<< ((2 : Int32) &&& 31)) ||| (p0_2 &&& (3 : Int32)))))), (.int (nar .char (own_F2 (own_F1 q0_1 (54 : Int32))))), (.int (nar .char (own_F2 (own_F1 q0_1 (48 : Int32))))), (.int (nar .char (own_F2 (own_F1 q0_1 (42 : Int32))))), (.int (nar .char (own_F2 (own_F1 q0_1 (36 : Int32))))), (.int (nar .char (own_F2 (own_F1 q0_1 (30 : Int32))))), (.int (nar .char (own_F2 (own_F1 q0_1 (24 : Int32))))), (.int (nar .char (own_F2 (own_F1 q0_1 (18 : Int32))))), (.int (0 : Int32)), (.int (0 : Int32)), (.int (0 : Int32)), (.int (0 : Int32))] (.int (0 : Int32)) := Arv.set Ar269 q269 S269 N269 H269 G269 (fits_nar_char _) W270 17 rfl (Nat.le_of_ble_eq_true rfl)
  have K273 : Keep h0 h270 [] := K261.wr W270 (Or.inr sz_b58)
  have N274 := Fr.snoc X270 N268 gn_b58
  obtain ⟨Lh270, X270, N274⟩ := own_hide X270 N274
  have O275 := O263.wr W270 gn_b58
  have Z276 := (Nat.le_trans Z264 (Keep.of_wr W270).1)
  refine own_by (T' := T270) (g' := (mkF m 258 #[.val (.long q0_0), .second, .val (.long q0_1), .second, .val (.int p0_2), .val (.ref b58), .unset] [])) st270 ?_
  refine own_by (T' := T270) (g' := (mkF m 265 #[.val (.long q0_0), .second, .val (.long q0_1), .second, .val (.int p0_2), .val (.ref b58), .unset] [(.int (12 : Int32)), (.long q0_1), (.int (18 : Int32)), (.ref b58)])) (fun t k => ?_) ?_
  · show Steps p.tables e below (T270.setTop (mkF m 258 #[.val (.long q0_0), .second, .val (.long q0_1), .second, .val (.int p0_2), .val (.ref b58), .unset] [])) t
    refine XS.aload X270.here hx rfl (hb hby at_258) rfl rfl ?_
    show Steps p.tables e below (T270.setTop (mkF m 260 #[.val (.long q0_0), .second, .val (.long q0_1), .second, .val (.int p0_2), .val (.ref b58), .unset] [(.ref b58)])) t
    refine XS.bipush X270.here hx rfl (hb hby at_260) ?_
    show Steps p.tables e below (T270.setTop (mkF m 262 #[.val (.long q0_0), .second, .val (.long q0_1), .second, .val (.int p0_2), .val (.ref b58), .unset] [(.int (18 : Int32)), (.ref b58)])) t
    refine XS.lloadN X270.here hx rfl (hb hby at_262) rfl ?_
    show Steps p.tables e below (T270.setTop (mkF m 263 #[.val (.long q0_0), .second, .val (.long q0_1), .second, .val (.int p0_2), .val (.ref b58), .unset] [(.long q0_1), (.int (18 : Int32)), (.ref b58)])) t
    refine XS.bipush X270.here hx rfl (hb hby at_263) ?_
    show Steps p.tables e below (T270.setTop (mkF m 265 #[.val (.long q0_0), .second, .val (.long q0_1), .second, .val (.int p0_2), .val (.ref b58), .unset] [(.int (12 : Int32)), (.long q0_1), (.int (18 : Int32)), (.ref b58)])) t
    exact k
  obtain ⟨v277, _, ⟨T277, L277, k277, n277⟩, -, X277, ⟨Lc277, hQ277, l277, y277, z277⟩, st277⟩ := Jvm.LawKit.callS X270 hx (y := (⟨"com/example/vacant_errand/vacanterrand/PackedIdHighPinLaw", "six", "(JI)I"⟩ : MethodName)) hown (mvT hZ (hw _ (List.mem_of_getElem? (i := 1) rfl))) (mvT hZ (hw _ (List.mem_of_getElem? (i := 2) rfl))) (mvT hZ (hw _ (List.mem_of_getElem? (i := 3) rfl))) (mvT hZ (hw _ (List.mem_of_getElem? (i := 4) rfl))) (by decide) (backOf (W := 2) (own_rm1 l Z a0 hw [] q0_1 (12 : Int32) h270 n0 Z276) hZ (hw _ (List.mem_of_getElem? (i := 4) rfl)) (hw _ (List.mem_of_getElem? (i := 3) rfl)) (by decide) (by decide)) (g := (mkF m 265 #[.val (.long q0_0), .second, .val (.long q0_1), .second, .val (.int p0_2), .val (.ref b58), .unset] [(.int (12 : Int32)), (.long q0_1), (.int (18 : Int32)), (.ref b58)])) rfl (by rw [hml]; rfl) (argsL := [(.long q0_1), (.int (12 : Int32))]) (rest := [(.int (18 : Int32)), (.ref b58)]) (lenOf pd__JI_I rfl) rfl (by show 2 * 0 + _ ≤ _; exact Nat.le_of_eq rfl) (hb hby at_265) (fun _ _ => ⟨rfl, e270, (by decide : 1 + 0 ≤ _), (by decide : 22 + 0 ≤ _)⟩)
  dsimp only [Pt.U, Pt.locs, Pt.cells, Pt.slots] at X277 l277 y277 z277 st277 hQ277
  subst y277 z277
  obtain ⟨rfl, M277, e277⟩ := hQ277
  have N278 : Fr n0 L277 := by rw [l277]; exact Fr.app N274 M277
  refine own_by (T' := T277) (g' := (mkF m 268 #[.val (.long q0_0), .second, .val (.long q0_1), .second, .val (.int p0_2), .val (.ref b58), .unset] [(.int (own_F1 q0_1 (12 : Int32))), (.int (18 : Int32)), (.ref b58)])) st277 ?_
  obtain ⟨v279, _, ⟨T279, L279, k279, n279⟩, -, X279, ⟨Lc279, hQ279, l279, y279, z279⟩, st279⟩ := Jvm.LawKit.callS X277 hx (y := (⟨"com/example/vacant_errand/vacanterrand/PackedIdHighPinLaw", "c", "(I)C"⟩ : MethodName)) hown (mvT hZ (hw _ (List.mem_of_getElem? (i := 6) rfl))) (mvT hZ (hw _ (List.mem_of_getElem? (i := 7) rfl))) (mvT hZ (hw _ (List.mem_of_getElem? (i := 3) rfl))) (mvT hZ (hw _ (List.mem_of_getElem? (i := 8) rfl))) (by decide) (backOf (W := 2) (own_rm2 l Z a0 hw [] (own_F1 q0_1 (12 : Int32)) h270 n0 Z276) hZ (hw _ (List.mem_of_getElem? (i := 8) rfl)) (hw _ (List.mem_of_getElem? (i := 3) rfl)) (by decide) (by decide)) (g := (mkF m 268 #[.val (.long q0_0), .second, .val (.long q0_1), .second, .val (.int p0_2), .val (.ref b58), .unset] [(.int (own_F1 q0_1 (12 : Int32))), (.int (18 : Int32)), (.ref b58)])) rfl (by rw [hml]; rfl) (argsL := [(.int (own_F1 q0_1 (12 : Int32)))]) (rest := [(.int (18 : Int32)), (.ref b58)]) (lenOf pd__I_C rfl) rfl (by show 2 * 0 + _ ≤ _; exact Nat.le_of_eq rfl) (hb hby at_268) (fun _ _ => ⟨rfl, e277, (by decide : 1 + 0 ≤ _), (by decide : 22 + 0 ≤ _)⟩)
  dsimp only [Pt.U, Pt.locs, Pt.cells, Pt.slots] at X279 l279 y279 z279 st279 hQ279
  subst y279 z279
  obtain ⟨rfl, M279, e279⟩ := hQ279
  have N280 : Fr n0 L279 := by rw [l279]; exact Fr.app N278 M279
  refine own_by (T' := T279) (g' := (mkF m 271 #[.val (.long q0_0), .second, .val (.long q0_1), .second, .val (.int p0_2), .val (.ref b58), .unset] [(.int (own_F2 (own_F1 q0_1 (12 : Int32)))), (.int (18 : Int32)), (.ref b58)])) st279 ?_
  obtain ⟨cl281, Ar281, q281, S281, N281, H281, G281⟩ := f271
  obtain ⟨T282, h282, X282, e282, W282, st282⟩ := stC X279 hx hZ e279 Ar281 (j := (18 : Int32)) (inb_of S281 ⟨by decide, by decide⟩) (g := (mkF m 271 #[.val (.long q0_0), .second, .val (.long q0_1), .second, .val (.int p0_2), .val (.ref b58), .unset] [(.int (own_F2 (own_F1 q0_1 (12 : Int32)))), (.int (18 : Int32)), (.ref b58)])) rfl rfl (hb hby at_271)
  have f283 : Arv Z h282 b58 k58 .char (22 : Int32) [(.int (nar .char (own_F2 (own_F1 q0_0 (58 : Int32))))), (.int (nar .char (own_F2 (own_F1 q0_0 (52 : Int32))))), (.int (nar .char (own_F2 (own_F1 q0_0 (46 : Int32))))), (.int (nar .char (own_F2 (own_F1 q0_0 (40 : Int32))))), (.int (nar .char (own_F2 (own_F1 q0_0 (34 : Int32))))), (.int (nar .char (own_F2 (own_F1 q0_0 (28 : Int32))))), (.int (nar .char (own_F2 (own_F1 q0_0 (22 : Int32))))), (.int (nar .char (own_F2 (own_F1 q0_0 (16 : Int32))))), (.int (nar .char (own_F2 (own_F1 q0_0 (10 : Int32))))), (.int (nar .char (own_F2 (own_F1 q0_0 (4 : Int32))))), (.int (nar .char (own_F2 ((((q0_0 &&& (15 : Int64)).toInt32) <<< ((2 : Int32) &&& 31)) ||| (p0_2 &&& (3 : Int32)))))), (.int (nar .char (own_F2 (own_F1 q0_1 (54 : Int32))))), (.int (nar .char (own_F2 (own_F1 q0_1 (48 : Int32))))), (.int (nar .char (own_F2 (own_F1 q0_1 (42 : Int32))))), (.int (nar .char (own_F2 (own_F1 q0_1 (36 : Int32))))), (.int (nar .char (own_F2 (own_F1 q0_1 (30 : Int32))))), (.int (nar .char (own_F2 (own_F1 q0_1 (24 : Int32))))), (.int (nar .char (own_F2 (own_F1 q0_1 (18 : Int32))))), (.int (nar .char (own_F2 (own_F1 q0_1 (12 : Int32))))), (.int (0 : Int32)), (.int (0 : Int32)), (.int (0 : Int32))] (.int (0 : Int32)) := Arv.set Ar281 q281 S281 N281 H281 G281 (fits_nar_char _) W282 18 rfl (Nat.le_of_ble_eq_true rfl)
  have K285 : Keep h0 h282 [] := K273.wr W282 (Or.inr sz_b58)
  have N286 := Fr.snoc X282 N280 gn_b58
  obtain ⟨Lh282, X282, N286⟩ := own_hide X282 N286
  have O287 := O275.wr W282 gn_b58
  have Z288 := (Nat.le_trans Z276 (Keep.of_wr W282).1)
  refine own_by (T' := T282) (g' := (mkF m 272 #[.val (.long q0_0), .second, .val (.long q0_1), .second, .val (.int p0_2), .val (.ref b58), .unset] [])) st282 ?_
  refine own_by (T' := T282) (g' := (mkF m 279 #[.val (.long q0_0), .second, .val (.long q0_1), .second, .val (.int p0_2), .val (.ref b58), .unset] [(.int (6 : Int32)), (.long q0_1), (.int (19 : Int32)), (.ref b58)])) (fun t k => ?_) ?_
  · show Steps p.tables e below (T282.setTop (mkF m 272 #[.val (.long q0_0), .second, .val (.long q0_1), .second, .val (.int p0_2), .val (.ref b58), .unset] [])) t
    refine XS.aload X282.here hx rfl (hb hby at_272) rfl rfl ?_
    show Steps p.tables e below (T282.setTop (mkF m 274 #[.val (.long q0_0), .second, .val (.long q0_1), .second, .val (.int p0_2), .val (.ref b58), .unset] [(.ref b58)])) t
    refine XS.bipush X282.here hx rfl (hb hby at_274) ?_
    show Steps p.tables e below (T282.setTop (mkF m 276 #[.val (.long q0_0), .second, .val (.long q0_1), .second, .val (.int p0_2), .val (.ref b58), .unset] [(.int (19 : Int32)), (.ref b58)])) t
    refine XS.lloadN X282.here hx rfl (hb hby at_276) rfl ?_
    show Steps p.tables e below (T282.setTop (mkF m 277 #[.val (.long q0_0), .second, .val (.long q0_1), .second, .val (.int p0_2), .val (.ref b58), .unset] [(.long q0_1), (.int (19 : Int32)), (.ref b58)])) t
    refine XS.bipush X282.here hx rfl (hb hby at_277) ?_
    show Steps p.tables e below (T282.setTop (mkF m 279 #[.val (.long q0_0), .second, .val (.long q0_1), .second, .val (.int p0_2), .val (.ref b58), .unset] [(.int (6 : Int32)), (.long q0_1), (.int (19 : Int32)), (.ref b58)])) t
    exact k
  obtain ⟨v289, _, ⟨T289, L289, k289, n289⟩, -, X289, ⟨Lc289, hQ289, l289, y289, z289⟩, st289⟩ := Jvm.LawKit.callS X282 hx (y := (⟨"com/example/vacant_errand/vacanterrand/PackedIdHighPinLaw", "six", "(JI)I"⟩ : MethodName)) hown (mvT hZ (hw _ (List.mem_of_getElem? (i := 1) rfl))) (mvT hZ (hw _ (List.mem_of_getElem? (i := 2) rfl))) (mvT hZ (hw _ (List.mem_of_getElem? (i := 3) rfl))) (mvT hZ (hw _ (List.mem_of_getElem? (i := 4) rfl))) (by decide) (backOf (W := 2) (own_rm1 l Z a0 hw [] q0_1 (6 : Int32) h282 n0 Z288) hZ (hw _ (List.mem_of_getElem? (i := 4) rfl)) (hw _ (List.mem_of_getElem? (i := 3) rfl)) (by decide) (by decide)) (g := (mkF m 279 #[.val (.long q0_0), .second, .val (.long q0_1), .second, .val (.int p0_2), .val (.ref b58), .unset] [(.int (6 : Int32)), (.long q0_1), (.int (19 : Int32)), (.ref b58)])) rfl (by rw [hml]; rfl) (argsL := [(.long q0_1), (.int (6 : Int32))]) (rest := [(.int (19 : Int32)), (.ref b58)]) (lenOf pd__JI_I rfl) rfl (by show 2 * 0 + _ ≤ _; exact Nat.le_of_eq rfl) (hb hby at_279) (fun _ _ => ⟨rfl, e282, (by decide : 1 + 0 ≤ _), (by decide : 22 + 0 ≤ _)⟩)
  dsimp only [Pt.U, Pt.locs, Pt.cells, Pt.slots] at X289 l289 y289 z289 st289 hQ289
  subst y289 z289
  obtain ⟨rfl, M289, e289⟩ := hQ289
  have N290 : Fr n0 L289 := by rw [l289]; exact Fr.app N286 M289
  refine own_by (T' := T289) (g' := (mkF m 282 #[.val (.long q0_0), .second, .val (.long q0_1), .second, .val (.int p0_2), .val (.ref b58), .unset] [(.int (own_F1 q0_1 (6 : Int32))), (.int (19 : Int32)), (.ref b58)])) st289 ?_
  obtain ⟨v291, _, ⟨T291, L291, k291, n291⟩, -, X291, ⟨Lc291, hQ291, l291, y291, z291⟩, st291⟩ := Jvm.LawKit.callS X289 hx (y := (⟨"com/example/vacant_errand/vacanterrand/PackedIdHighPinLaw", "c", "(I)C"⟩ : MethodName)) hown (mvT hZ (hw _ (List.mem_of_getElem? (i := 6) rfl))) (mvT hZ (hw _ (List.mem_of_getElem? (i := 7) rfl))) (mvT hZ (hw _ (List.mem_of_getElem? (i := 3) rfl))) (mvT hZ (hw _ (List.mem_of_getElem? (i := 8) rfl))) (by decide) (backOf (W := 2) (own_rm2 l Z a0 hw [] (own_F1 q0_1 (6 : Int32)) h282 n0 Z288) hZ (hw _ (List.mem_of_getElem? (i := 8) rfl)) (hw _ (List.mem_of_getElem? (i := 3) rfl)) (by decide) (by decide)) (g := (mkF m 282 #[.val (.long q0_0), .second, .val (.long q0_1), .second, .val (.int p0_2), .val (.ref b58), .unset] [(.int (own_F1 q0_1 (6 : Int32))), (.int (19 : Int32)), (.ref b58)])) rfl (by rw [hml]; rfl) (argsL := [(.int (own_F1 q0_1 (6 : Int32)))]) (rest := [(.int (19 : Int32)), (.ref b58)]) (lenOf pd__I_C rfl) rfl (by show 2 * 0 + _ ≤ _; exact Nat.le_of_eq rfl) (hb hby at_282) (fun _ _ => ⟨rfl, e289, (by decide : 1 + 0 ≤ _), (by decide : 22 + 0 ≤ _)⟩)
  dsimp only [Pt.U, Pt.locs, Pt.cells, Pt.slots] at X291 l291 y291 z291 st291 hQ291
  subst y291 z291
  obtain ⟨rfl, M291, e291⟩ := hQ291
  have N292 : Fr n0 L291 := by rw [l291]; exact Fr.app N290 M291
  refine own_by (T' := T291) (g' := (mkF m 285 #[.val (.long q0_0), .second, .val (.long q0_1), .second, .val (.int p0_2), .val (.ref b58), .unset] [(.int (own_F2 (own_F1 q0_1 (6 : Int32)))), (.int (19 : Int32)), (.ref b58)])) st291 ?_
  obtain ⟨cl293, Ar293, q293, S293, N293, H293, G293⟩ := f283
  obtain ⟨T294, h294, X294, e294, W294, st294⟩ := stC X291 hx hZ e291 Ar293 (j := (19 : Int32)) (inb_of S293 ⟨by decide, by decide⟩) (g := (mkF m 285 #[.val (.long q0_0), .second, .val (.long q0_1), .second, .val (.int p0_2), .val (.ref b58), .unset] [(.int (own_F2 (own_F1 q0_1 (6 : Int32)))), (.int (19 : Int32)), (.ref b58)])) rfl rfl (hb hby at_285)
  have f295 : Arv Z h294 b58 k58 .char (22 : Int32) [(.int (nar .char (own_F2 (own_F1 q0_0 (58 : Int32))))), (.int (nar .char (own_F2 (own_F1 q0_0 (52 : Int32))))), (.int (nar .char (own_F2 (own_F1 q0_0 (46 : Int32))))), (.int (nar .char (own_F2 (own_F1 q0_0 (40 : Int32))))), (.int (nar .char (own_F2 (own_F1 q0_0 (34 : Int32))))), (.int (nar .char (own_F2 (own_F1 q0_0 (28 : Int32))))), (.int (nar .char (own_F2 (own_F1 q0_0 (22 : Int32))))), (.int (nar .char (own_F2 (own_F1 q0_0 (16 : Int32))))), (.int (nar .char (own_F2 (own_F1 q0_0 (10 : Int32))))), (.int (nar .char (own_F2 (own_F1 q0_0 (4 : Int32))))), (.int (nar .char (own_F2 ((((q0_0 &&& (15 : Int64)).toInt32) <<< ((2 : Int32) &&& 31)) ||| (p0_2 &&& (3 : Int32)))))), (.int (nar .char (own_F2 (own_F1 q0_1 (54 : Int32))))), (.int (nar .char (own_F2 (own_F1 q0_1 (48 : Int32))))), (.int (nar .char (own_F2 (own_F1 q0_1 (42 : Int32))))), (.int (nar .char (own_F2 (own_F1 q0_1 (36 : Int32))))), (.int (nar .char (own_F2 (own_F1 q0_1 (30 : Int32))))), (.int (nar .char (own_F2 (own_F1 q0_1 (24 : Int32))))), (.int (nar .char (own_F2 (own_F1 q0_1 (18 : Int32))))), (.int (nar .char (own_F2 (own_F1 q0_1 (12 : Int32))))), (.int (nar .char (own_F2 (own_F1 q0_1 (6 : Int32))))), (.int (0 : Int32)), (.int (0 : Int32))] (.int (0 : Int32)) := Arv.set Ar293 q293 S293 N293 H293 G293 (fits_nar_char _) W294 19 rfl (Nat.le_of_ble_eq_true rfl)
  have K297 : Keep h0 h294 [] := K285.wr W294 (Or.inr sz_b58)
  have N298 := Fr.snoc X294 N292 gn_b58
  obtain ⟨Lh294, X294, N298⟩ := own_hide X294 N298
  have O299 := O287.wr W294 gn_b58
  have Z300 := (Nat.le_trans Z288 (Keep.of_wr W294).1)
  refine own_by (T' := T294) (g' := (mkF m 286 #[.val (.long q0_0), .second, .val (.long q0_1), .second, .val (.int p0_2), .val (.ref b58), .unset] [])) st294 ?_
  refine own_by (T' := T294) (g' := (mkF m 292 #[.val (.long q0_0), .second, .val (.long q0_1), .second, .val (.int p0_2), .val (.ref b58), .unset] [(.int (0 : Int32)), (.long q0_1), (.int (20 : Int32)), (.ref b58)])) (fun t k => ?_) ?_
  · show Steps p.tables e below (T294.setTop (mkF m 286 #[.val (.long q0_0), .second, .val (.long q0_1), .second, .val (.int p0_2), .val (.ref b58), .unset] [])) t
    refine XS.aload X294.here hx rfl (hb hby at_286) rfl rfl ?_
    show Steps p.tables e below (T294.setTop (mkF m 288 #[.val (.long q0_0), .second, .val (.long q0_1), .second, .val (.int p0_2), .val (.ref b58), .unset] [(.ref b58)])) t
    refine XS.bipush X294.here hx rfl (hb hby at_288) ?_
    show Steps p.tables e below (T294.setTop (mkF m 290 #[.val (.long q0_0), .second, .val (.long q0_1), .second, .val (.int p0_2), .val (.ref b58), .unset] [(.int (20 : Int32)), (.ref b58)])) t
    refine XS.lloadN X294.here hx rfl (hb hby at_290) rfl ?_
    show Steps p.tables e below (T294.setTop (mkF m 291 #[.val (.long q0_0), .second, .val (.long q0_1), .second, .val (.int p0_2), .val (.ref b58), .unset] [(.long q0_1), (.int (20 : Int32)), (.ref b58)])) t
    refine XS.iconst X294.here hx rfl (hb hby at_291) ?_
    show Steps p.tables e below (T294.setTop (mkF m 292 #[.val (.long q0_0), .second, .val (.long q0_1), .second, .val (.int p0_2), .val (.ref b58), .unset] [(.int (0 : Int32)), (.long q0_1), (.int (20 : Int32)), (.ref b58)])) t
    exact k
  obtain ⟨v301, _, ⟨T301, L301, k301, n301⟩, -, X301, ⟨Lc301, hQ301, l301, y301, z301⟩, st301⟩ := Jvm.LawKit.callS X294 hx (y := (⟨"com/example/vacant_errand/vacanterrand/PackedIdHighPinLaw", "six", "(JI)I"⟩ : MethodName)) hown (mvT hZ (hw _ (List.mem_of_getElem? (i := 1) rfl))) (mvT hZ (hw _ (List.mem_of_getElem? (i := 2) rfl))) (mvT hZ (hw _ (List.mem_of_getElem? (i := 3) rfl))) (mvT hZ (hw _ (List.mem_of_getElem? (i := 4) rfl))) (by decide) (backOf (W := 2) (own_rm1 l Z a0 hw [] q0_1 (0 : Int32) h294 n0 Z300) hZ (hw _ (List.mem_of_getElem? (i := 4) rfl)) (hw _ (List.mem_of_getElem? (i := 3) rfl)) (by decide) (by decide)) (g := (mkF m 292 #[.val (.long q0_0), .second, .val (.long q0_1), .second, .val (.int p0_2), .val (.ref b58), .unset] [(.int (0 : Int32)), (.long q0_1), (.int (20 : Int32)), (.ref b58)])) rfl (by rw [hml]; rfl) (argsL := [(.long q0_1), (.int (0 : Int32))]) (rest := [(.int (20 : Int32)), (.ref b58)]) (lenOf pd__JI_I rfl) rfl (by show 2 * 0 + _ ≤ _; exact Nat.le_of_eq rfl) (hb hby at_292) (fun _ _ => ⟨rfl, e294, (by decide : 1 + 0 ≤ _), (by decide : 22 + 0 ≤ _)⟩)
  dsimp only [Pt.U, Pt.locs, Pt.cells, Pt.slots] at X301 l301 y301 z301 st301 hQ301
  subst y301 z301
  obtain ⟨rfl, M301, e301⟩ := hQ301
  have N302 : Fr n0 L301 := by rw [l301]; exact Fr.app N298 M301
  refine own_by (T' := T301) (g' := (mkF m 295 #[.val (.long q0_0), .second, .val (.long q0_1), .second, .val (.int p0_2), .val (.ref b58), .unset] [(.int (own_F1 q0_1 (0 : Int32))), (.int (20 : Int32)), (.ref b58)])) st301 ?_
  obtain ⟨v303, _, ⟨T303, L303, k303, n303⟩, -, X303, ⟨Lc303, hQ303, l303, y303, z303⟩, st303⟩ := Jvm.LawKit.callS X301 hx (y := (⟨"com/example/vacant_errand/vacanterrand/PackedIdHighPinLaw", "c", "(I)C"⟩ : MethodName)) hown (mvT hZ (hw _ (List.mem_of_getElem? (i := 6) rfl))) (mvT hZ (hw _ (List.mem_of_getElem? (i := 7) rfl))) (mvT hZ (hw _ (List.mem_of_getElem? (i := 3) rfl))) (mvT hZ (hw _ (List.mem_of_getElem? (i := 8) rfl))) (by decide) (backOf (W := 2) (own_rm2 l Z a0 hw [] (own_F1 q0_1 (0 : Int32)) h294 n0 Z300) hZ (hw _ (List.mem_of_getElem? (i := 8) rfl)) (hw _ (List.mem_of_getElem? (i := 3) rfl)) (by decide) (by decide)) (g := (mkF m 295 #[.val (.long q0_0), .second, .val (.long q0_1), .second, .val (.int p0_2), .val (.ref b58), .unset] [(.int (own_F1 q0_1 (0 : Int32))), (.int (20 : Int32)), (.ref b58)])) rfl (by rw [hml]; rfl) (argsL := [(.int (own_F1 q0_1 (0 : Int32)))]) (rest := [(.int (20 : Int32)), (.ref b58)]) (lenOf pd__I_C rfl) rfl (by show 2 * 0 + _ ≤ _; exact Nat.le_of_eq rfl) (hb hby at_295) (fun _ _ => ⟨rfl, e301, (by decide : 1 + 0 ≤ _), (by decide : 22 + 0 ≤ _)⟩)
  dsimp only [Pt.U, Pt.locs, Pt.cells, Pt.slots] at X303 l303 y303 z303 st303 hQ303
  subst y303 z303
  obtain ⟨rfl, M303, e303⟩ := hQ303
  have N304 : Fr n0 L303 := by rw [l303]; exact Fr.app N302 M303
  refine own_by (T' := T303) (g' := (mkF m 298 #[.val (.long q0_0), .second, .val (.long q0_1), .second, .val (.int p0_2), .val (.ref b58), .unset] [(.int (own_F2 (own_F1 q0_1 (0 : Int32)))), (.int (20 : Int32)), (.ref b58)])) st303 ?_
  obtain ⟨cl305, Ar305, q305, S305, N305, H305, G305⟩ := f295
  obtain ⟨T306, h306, X306, e306, W306, st306⟩ := stC X303 hx hZ e303 Ar305 (j := (20 : Int32)) (inb_of S305 ⟨by decide, by decide⟩) (g := (mkF m 298 #[.val (.long q0_0), .second, .val (.long q0_1), .second, .val (.int p0_2), .val (.ref b58), .unset] [(.int (own_F2 (own_F1 q0_1 (0 : Int32)))), (.int (20 : Int32)), (.ref b58)])) rfl rfl (hb hby at_298)
  have f307 : Arv Z h306 b58 k58 .char (22 : Int32) [(.int (nar .char (own_F2 (own_F1 q0_0 (58 : Int32))))), (.int (nar .char (own_F2 (own_F1 q0_0 (52 : Int32))))), (.int (nar .char (own_F2 (own_F1 q0_0 (46 : Int32))))), (.int (nar .char (own_F2 (own_F1 q0_0 (40 : Int32))))), (.int (nar .char (own_F2 (own_F1 q0_0 (34 : Int32))))), (.int (nar .char (own_F2 (own_F1 q0_0 (28 : Int32))))), (.int (nar .char (own_F2 (own_F1 q0_0 (22 : Int32))))), (.int (nar .char (own_F2 (own_F1 q0_0 (16 : Int32))))), (.int (nar .char (own_F2 (own_F1 q0_0 (10 : Int32))))), (.int (nar .char (own_F2 (own_F1 q0_0 (4 : Int32))))), (.int (nar .char (own_F2 ((((q0_0 &&& (15 : Int64)).toInt32) <<< ((2 : Int32) &&& 31)) ||| (p0_2 &&& (3 : Int32)))))), (.int (nar .char (own_F2 (own_F1 q0_1 (54 : Int32))))), (.int (nar .char (own_F2 (own_F1 q0_1 (48 : Int32))))), (.int (nar .char (own_F2 (own_F1 q0_1 (42 : Int32))))), (.int (nar .char (own_F2 (own_F1 q0_1 (36 : Int32))))), (.int (nar .char (own_F2 (own_F1 q0_1 (30 : Int32))))), (.int (nar .char (own_F2 (own_F1 q0_1 (24 : Int32))))), (.int (nar .char (own_F2 (own_F1 q0_1 (18 : Int32))))), (.int (nar .char (own_F2 (own_F1 q0_1 (12 : Int32))))), (.int (nar .char (own_F2 (own_F1 q0_1 (6 : Int32))))), (.int (nar .char (own_F2 (own_F1 q0_1 (0 : Int32))))), (.int (0 : Int32))] (.int (0 : Int32)) := Arv.set Ar305 q305 S305 N305 H305 G305 (fits_nar_char _) W306 20 rfl (Nat.le_of_ble_eq_true rfl)
  have K309 : Keep h0 h306 [] := K297.wr W306 (Or.inr sz_b58)
  have N310 := Fr.snoc X306 N304 gn_b58
  obtain ⟨Lh306, X306, N310⟩ := own_hide X306 N310
  have O311 := O299.wr W306 gn_b58
  have Z312 := (Nat.le_trans Z300 (Keep.of_wr W306).1)
  refine own_by (T' := T306) (g' := (mkF m 299 #[.val (.long q0_0), .second, .val (.long q0_1), .second, .val (.int p0_2), .val (.ref b58), .unset] [])) st306 ?_
  refine own_by (T' := T306) (g' := (mkF m 309 #[.val (.long q0_0), .second, .val (.long q0_1), .second, .val (.int p0_2), .val (.ref b58), .unset] [(.int (((p0_2.toUInt32 >>> ((2 : Int32) &&& 31).toUInt32).toInt32) &&& (3 : Int32))), (.int (21 : Int32)), (.ref b58)])) (fun t k => ?_) ?_
  · show Steps p.tables e below (T306.setTop (mkF m 299 #[.val (.long q0_0), .second, .val (.long q0_1), .second, .val (.int p0_2), .val (.ref b58), .unset] [])) t
    refine XS.aload X306.here hx rfl (hb hby at_299) rfl rfl ?_
    show Steps p.tables e below (T306.setTop (mkF m 301 #[.val (.long q0_0), .second, .val (.long q0_1), .second, .val (.int p0_2), .val (.ref b58), .unset] [(.ref b58)])) t
    refine XS.bipush X306.here hx rfl (hb hby at_301) ?_
    show Steps p.tables e below (T306.setTop (mkF m 303 #[.val (.long q0_0), .second, .val (.long q0_1), .second, .val (.int p0_2), .val (.ref b58), .unset] [(.int (21 : Int32)), (.ref b58)])) t
    refine XS.iload X306.here hx rfl (hb hby at_303) rfl ?_
    show Steps p.tables e below (T306.setTop (mkF m 305 #[.val (.long q0_0), .second, .val (.long q0_1), .second, .val (.int p0_2), .val (.ref b58), .unset] [(.int p0_2), (.int (21 : Int32)), (.ref b58)])) t
    refine XS.iconst X306.here hx rfl (hb hby at_305) ?_
    show Steps p.tables e below (T306.setTop (mkF m 306 #[.val (.long q0_0), .second, .val (.long q0_1), .second, .val (.int p0_2), .val (.ref b58), .unset] [(.int (2 : Int32)), (.int p0_2), (.int (21 : Int32)), (.ref b58)])) t
    refine XS.iushr X306.here hx rfl (hb hby at_306) rfl ?_
    show Steps p.tables e below (T306.setTop (mkF m 307 #[.val (.long q0_0), .second, .val (.long q0_1), .second, .val (.int p0_2), .val (.ref b58), .unset] [(.int ((p0_2.toUInt32 >>> ((2 : Int32) &&& 31).toUInt32).toInt32)), (.int (21 : Int32)), (.ref b58)])) t
    refine XS.iconst X306.here hx rfl (hb hby at_307) ?_
    show Steps p.tables e below (T306.setTop (mkF m 308 #[.val (.long q0_0), .second, .val (.long q0_1), .second, .val (.int p0_2), .val (.ref b58), .unset] [(.int (3 : Int32)), (.int ((p0_2.toUInt32 >>> ((2 : Int32) &&& 31).toUInt32).toInt32)), (.int (21 : Int32)), (.ref b58)])) t
    refine XS.iand X306.here hx rfl (hb hby at_308) rfl ?_
    show Steps p.tables e below (T306.setTop (mkF m 309 #[.val (.long q0_0), .second, .val (.long q0_1), .second, .val (.int p0_2), .val (.ref b58), .unset] [(.int (((p0_2.toUInt32 >>> ((2 : Int32) &&& 31).toUInt32).toInt32) &&& (3 : Int32))), (.int (21 : Int32)), (.ref b58)])) t
    exact k
  obtain ⟨v313, _, ⟨T313, L313, k313, n313⟩, -, X313, ⟨Lc313, hQ313, l313, y313, z313⟩, st313⟩ := Jvm.LawKit.callS X306 hx (y := (⟨"com/example/vacant_errand/vacanterrand/PackedIdHighPinLaw", "last", "(I)C"⟩ : MethodName)) hown (mvT hZ (hw _ (List.mem_of_getElem? (i := 10) rfl))) (mvT hZ (hw _ (List.mem_of_getElem? (i := 11) rfl))) (mvT hZ (hw _ (List.mem_of_getElem? (i := 3) rfl))) (mvT hZ (hw _ (List.mem_of_getElem? (i := 12) rfl))) (by decide) (backOf (W := 2) (own_rm3 l Z a0 hw [] (((p0_2.toUInt32 >>> ((2 : Int32) &&& 31).toUInt32).toInt32) &&& (3 : Int32)) h306 n0 Z312) hZ (hw _ (List.mem_of_getElem? (i := 12) rfl)) (hw _ (List.mem_of_getElem? (i := 3) rfl)) (by decide) (by decide)) (g := (mkF m 309 #[.val (.long q0_0), .second, .val (.long q0_1), .second, .val (.int p0_2), .val (.ref b58), .unset] [(.int (((p0_2.toUInt32 >>> ((2 : Int32) &&& 31).toUInt32).toInt32) &&& (3 : Int32))), (.int (21 : Int32)), (.ref b58)])) rfl (by rw [hml]; rfl) (argsL := [(.int (((p0_2.toUInt32 >>> ((2 : Int32) &&& 31).toUInt32).toInt32) &&& (3 : Int32)))]) (rest := [(.int (21 : Int32)), (.ref b58)]) (lenOf pd__I_C rfl) rfl (by show 2 * 0 + _ ≤ _; exact Nat.le_of_eq rfl) (hb hby at_309) (fun _ _ => ⟨rfl, e306, (by decide : 1 + 0 ≤ _), (by decide : 22 + 0 ≤ _)⟩)
  dsimp only [Pt.U, Pt.locs, Pt.cells, Pt.slots] at X313 l313 y313 z313 st313 hQ313
  subst y313 z313
  obtain ⟨rfl, M313, e313⟩ := hQ313
  have N314 : Fr n0 L313 := by rw [l313]; exact Fr.app N310 M313
  refine own_by (T' := T313) (g' := (mkF m 312 #[.val (.long q0_0), .second, .val (.long q0_1), .second, .val (.int p0_2), .val (.ref b58), .unset] [(.int (own_F3 (((p0_2.toUInt32 >>> ((2 : Int32) &&& 31).toUInt32).toInt32) &&& (3 : Int32)))), (.int (21 : Int32)), (.ref b58)])) st313 ?_
  obtain ⟨cl315, Ar315, q315, S315, N315, H315, G315⟩ := f307
  obtain ⟨T316, h316, X316, e316, W316, st316⟩ := stC X313 hx hZ e313 Ar315 (j := (21 : Int32)) (inb_of S315 ⟨by decide, by decide⟩) (g := (mkF m 312 #[.val (.long q0_0), .second, .val (.long q0_1), .second, .val (.int p0_2), .val (.ref b58), .unset] [(.int (own_F3 (((p0_2.toUInt32 >>> ((2 : Int32) &&& 31).toUInt32).toInt32) &&& (3 : Int32)))), (.int (21 : Int32)), (.ref b58)])) rfl rfl (hb hby at_312)
  have f317 : Arv Z h316 b58 k58 .char (22 : Int32) [(.int (nar .char (own_F2 (own_F1 q0_0 (58 : Int32))))), (.int (nar .char (own_F2 (own_F1 q0_0 (52 : Int32))))), (.int (nar .char (own_F2 (own_F1 q0_0 (46 : Int32))))), (.int (nar .char (own_F2 (own_F1 q0_0 (40 : Int32))))), (.int (nar .char (own_F2 (own_F1 q0_0 (34 : Int32))))), (.int (nar .char (own_F2 (own_F1 q0_0 (28 : Int32))))), (.int (nar .char (own_F2 (own_F1 q0_0 (22 : Int32))))), (.int (nar .char (own_F2 (own_F1 q0_0 (16 : Int32))))), (.int (nar .char (own_F2 (own_F1 q0_0 (10 : Int32))))), (.int (nar .char (own_F2 (own_F1 q0_0 (4 : Int32))))), (.int (nar .char (own_F2 ((((q0_0 &&& (15 : Int64)).toInt32) <<< ((2 : Int32) &&& 31)) ||| (p0_2 &&& (3 : Int32)))))), (.int (nar .char (own_F2 (own_F1 q0_1 (54 : Int32))))), (.int (nar .char (own_F2 (own_F1 q0_1 (48 : Int32))))), (.int (nar .char (own_F2 (own_F1 q0_1 (42 : Int32))))), (.int (nar .char (own_F2 (own_F1 q0_1 (36 : Int32))))), (.int (nar .char (own_F2 (own_F1 q0_1 (30 : Int32))))), (.int (nar .char (own_F2 (own_F1 q0_1 (24 : Int32))))), (.int (nar .char (own_F2 (own_F1 q0_1 (18 : Int32))))), (.int (nar .char (own_F2 (own_F1 q0_1 (12 : Int32))))), (.int (nar .char (own_F2 (own_F1 q0_1 (6 : Int32))))), (.int (nar .char (own_F2 (own_F1 q0_1 (0 : Int32))))), (.int (nar .char (own_F3 (((p0_2.toUInt32 >>> ((2 : Int32) &&& 31).toUInt32).toInt32) &&& (3 : Int32)))))] (.int (0 : Int32)) := Arv.set Ar315 q315 S315 N315 H315 G315 (fits_nar_char _) W316 21 rfl (Nat.le_of_ble_eq_true rfl)
  have K319 : Keep h0 h316 [] := K309.wr W316 (Or.inr sz_b58)
  have N320 := Fr.snoc X316 N314 gn_b58
  obtain ⟨Lh316, X316, N320⟩ := own_hide X316 N320
  have O321 := O311.wr W316 gn_b58
  have Z322 := (Nat.le_trans Z312 (Keep.of_wr W316).1)
  refine own_by (T' := T316) (g' := (mkF m 313 #[.val (.long q0_0), .second, .val (.long q0_1), .second, .val (.int p0_2), .val (.ref b58), .unset] [])) st316 ?_
  obtain ⟨T323, h323, X323, e323, E323, A323, D323, -, st323⟩ := newO X316 hx hZ hown (hw _ (List.mem_of_getElem? (i := 13) rfl)) (hw _ (List.mem_of_getElem? (i := 14) rfl)) (hw _ (List.mem_of_getElem? (i := 15) rfl)) e316 (g := (mkF m 313 #[.val (.long q0_0), .second, .val (.long q0_1), .second, .val (.int p0_2), .val (.ref b58), .unset] [])) rfl (hb hby at_313) (by decide) (by decide)
  obtain ⟨b323, g323⟩ : ∃ z, z = h316.size := ⟨_, rfl⟩
  rw [← g323] at A323 D323 st323
  have gn_b323 : n0 ≤ b323 := Nat.le_trans Z322 (Nat.le_of_eq g323.symm)
  have sz_b323 : h0.size ≤ b323 := Nat.le_trans K319.1 (Nat.le_of_eq g323.symm)
  have ne_b58_b323 : b58 ≠ b323 := Nat.ne_of_lt (Nat.lt_of_lt_of_le f317.lt (Nat.le_of_eq g323.symm))
  have f324 := f317.ext E323
  have K325 : Keep h0 h323 [] := K319.ext E323
  have O326 := O321.ext E323
  have Z327 := Nat.le_trans Z322 E323.1
  have f328 : Fld Z h323 b323 "java/lang/String" "coder" "B" (.int (0 : Int32)) := D323 (Or.inr (hw _ (List.mem_of_getElem? (i := 39) rfl))) (ty := .byte) (by decide)
  have f329 : Fld Z h323 b323 "java/lang/String" "value" "[B" .null := D323 (Or.inr (hw _ (List.mem_of_getElem? (i := 41) rfl))) (ty := (.array .byte)) (by decide)
  refine own_by (T' := T323) (g' := (mkF m 316 #[.val (.long q0_0), .second, .val (.long q0_1), .second, .val (.int p0_2), .val (.ref b58), .unset] [(.ref b323)])) st323 ?_
  refine own_by (T' := T323) (g' := (mkF m 319 #[.val (.long q0_0), .second, .val (.long q0_1), .second, .val (.int p0_2), .val (.ref b58), .unset] [(.ref b58), (.ref b323), (.ref b323)])) (fun t k => ?_) ?_
  · show Steps p.tables e below (T323.setTop (mkF m 316 #[.val (.long q0_0), .second, .val (.long q0_1), .second, .val (.int p0_2), .val (.ref b58), .unset] [(.ref b323)])) t
    refine XS.dup X323.here hx rfl (hb hby at_316) rfl rfl ?_
    show Steps p.tables e below (T323.setTop (mkF m 317 #[.val (.long q0_0), .second, .val (.long q0_1), .second, .val (.int p0_2), .val (.ref b58), .unset] [(.ref b323), (.ref b323)])) t
    refine XS.aload X323.here hx rfl (hb hby at_317) rfl rfl ?_
    show Steps p.tables e below (T323.setTop (mkF m 319 #[.val (.long q0_0), .second, .val (.long q0_1), .second, .val (.int p0_2), .val (.ref b58), .unset] [(.ref b58), (.ref b323), (.ref b323)])) t
    exact k
  have hws330 : ∀ d ∈ StrChars.Road.words, d.before a0 Z = true := fun d hd => hw d ((by decide +kernel : ∀ d ∈ StrChars.Road.words, d ∈ tables_1) d hd)
  have hp330 : ∀ c ∈ ([(nar .char (own_F2 (own_F1 q0_0 (58 : Int32)))), (nar .char (own_F2 (own_F1 q0_0 (52 : Int32)))), (nar .char (own_F2 (own_F1 q0_0 (46 : Int32)))), (nar .char (own_F2 (own_F1 q0_0 (40 : Int32)))), (nar .char (own_F2 (own_F1 q0_0 (34 : Int32)))), (nar .char (own_F2 (own_F1 q0_0 (28 : Int32)))), (nar .char (own_F2 (own_F1 q0_0 (22 : Int32)))), (nar .char (own_F2 (own_F1 q0_0 (16 : Int32)))), (nar .char (own_F2 (own_F1 q0_0 (10 : Int32)))), (nar .char (own_F2 (own_F1 q0_0 (4 : Int32)))), (nar .char (own_F2 ((((q0_0 &&& (15 : Int64)).toInt32) <<< ((2 : Int32) &&& 31)) ||| (p0_2 &&& (3 : Int32))))), (nar .char (own_F2 (own_F1 q0_1 (54 : Int32)))), (nar .char (own_F2 (own_F1 q0_1 (48 : Int32)))), (nar .char (own_F2 (own_F1 q0_1 (42 : Int32)))), (nar .char (own_F2 (own_F1 q0_1 (36 : Int32)))), (nar .char (own_F2 (own_F1 q0_1 (30 : Int32)))), (nar .char (own_F2 (own_F1 q0_1 (24 : Int32)))), (nar .char (own_F2 (own_F1 q0_1 (18 : Int32)))), (nar .char (own_F2 (own_F1 q0_1 (12 : Int32)))), (nar .char (own_F2 (own_F1 q0_1 (6 : Int32)))), (nar .char (own_F2 (own_F1 q0_1 (0 : Int32)))), (nar .char (own_F3 (((p0_2.toUInt32 >>> ((2 : Int32) &&& 31).toUInt32).toInt32) &&& (3 : Int32))))] : List Int32), ¬ c < 0 ∧ ¬ (255 : Int32) < c := by
    intro c hc
    simp only [List.mem_cons, List.not_mem_nil, or_false] at hc
    rcases hc with rfl | rfl | rfl | rfl | rfl | rfl | rfl | rfl | rfl | rfl | rfl | rfl | rfl | rfl | rfl | rfl | rfl | rfl | rfl | rfl | rfl | rfl
    · exact own_chr _ (own_c2 _ (own_f1 _ _))
    · exact own_chr _ (own_c2 _ (own_f1 _ _))
    · exact own_chr _ (own_c2 _ (own_f1 _ _))
    · exact own_chr _ (own_c2 _ (own_f1 _ _))
    · exact own_chr _ (own_c2 _ (own_f1 _ _))
    · exact own_chr _ (own_c2 _ (own_f1 _ _))
    · exact own_chr _ (own_c2 _ (own_f1 _ _))
    · exact own_chr _ (own_c2 _ (own_f1 _ _))
    · exact own_chr _ (own_c2 _ (own_f1 _ _))
    · exact own_chr _ (own_c2 _ (own_f1 _ _))
    · exact own_chr _ (own_c2 _ (own_mix _ _))
    · exact own_chr _ (own_c2 _ (own_f1 _ _))
    · exact own_chr _ (own_c2 _ (own_f1 _ _))
    · exact own_chr _ (own_c2 _ (own_f1 _ _))
    · exact own_chr _ (own_c2 _ (own_f1 _ _))
    · exact own_chr _ (own_c2 _ (own_f1 _ _))
    · exact own_chr _ (own_c2 _ (own_f1 _ _))
    · exact own_chr _ (own_c2 _ (own_f1 _ _))
    · exact own_chr _ (own_c2 _ (own_f1 _ _))
    · exact own_chr _ (own_c2 _ (own_f1 _ _))
    · exact own_chr _ (own_c2 _ (own_f1 _ _))
    · exact own_chr _ (own_c3 _)
  obtain ⟨v330, _, ⟨T330, L330, k330, n330⟩, -, X330, ⟨Lc330, hQ330, l330, y330, z330⟩, st330⟩ := X323.specialBack hx (y := (⟨"java/lang/String", "<init>", "([C)V"⟩ : MethodName)) rfl hown (mvT hZ (hw _ (List.mem_of_getElem? (i := 16) rfl))) (mvT hZ (hw _ (List.mem_of_getElem? (i := 17) rfl))) (mvT hZ (hw _ (List.mem_of_getElem? (i := 18) rfl))) (by decide) (StrChars.Road.backV (W := 1) hZ hws330 (kI := 4) (hw _ (List.mem_of_getElem? (i := 14) rfl)) (cs := ([(nar .char (own_F2 (own_F1 q0_0 (58 : Int32)))), (nar .char (own_F2 (own_F1 q0_0 (52 : Int32)))), (nar .char (own_F2 (own_F1 q0_0 (46 : Int32)))), (nar .char (own_F2 (own_F1 q0_0 (40 : Int32)))), (nar .char (own_F2 (own_F1 q0_0 (34 : Int32)))), (nar .char (own_F2 (own_F1 q0_0 (28 : Int32)))), (nar .char (own_F2 (own_F1 q0_0 (22 : Int32)))), (nar .char (own_F2 (own_F1 q0_0 (16 : Int32)))), (nar .char (own_F2 (own_F1 q0_0 (10 : Int32)))), (nar .char (own_F2 (own_F1 q0_0 (4 : Int32)))), (nar .char (own_F2 ((((q0_0 &&& (15 : Int64)).toInt32) <<< ((2 : Int32) &&& 31)) ||| (p0_2 &&& (3 : Int32))))), (nar .char (own_F2 (own_F1 q0_1 (54 : Int32)))), (nar .char (own_F2 (own_F1 q0_1 (48 : Int32)))), (nar .char (own_F2 (own_F1 q0_1 (42 : Int32)))), (nar .char (own_F2 (own_F1 q0_1 (36 : Int32)))), (nar .char (own_F2 (own_F1 q0_1 (30 : Int32)))), (nar .char (own_F2 (own_F1 q0_1 (24 : Int32)))), (nar .char (own_F2 (own_F1 q0_1 (18 : Int32)))), (nar .char (own_F2 (own_F1 q0_1 (12 : Int32)))), (nar .char (own_F2 (own_F1 q0_1 (6 : Int32)))), (nar .char (own_F2 (own_F1 q0_1 (0 : Int32)))), (nar .char (own_F3 (((p0_2.toUInt32 >>> ((2 : Int32) &&& 31).toUInt32).toInt32) &&& (3 : Int32))))] : List Int32)) (bs := ([(nar .char (own_F2 (own_F1 q0_0 (58 : Int32)))), (nar .char (own_F2 (own_F1 q0_0 (52 : Int32)))), (nar .char (own_F2 (own_F1 q0_0 (46 : Int32)))), (nar .char (own_F2 (own_F1 q0_0 (40 : Int32)))), (nar .char (own_F2 (own_F1 q0_0 (34 : Int32)))), (nar .char (own_F2 (own_F1 q0_0 (28 : Int32)))), (nar .char (own_F2 (own_F1 q0_0 (22 : Int32)))), (nar .char (own_F2 (own_F1 q0_0 (16 : Int32)))), (nar .char (own_F2 (own_F1 q0_0 (10 : Int32)))), (nar .char (own_F2 (own_F1 q0_0 (4 : Int32)))), (nar .char (own_F2 ((((q0_0 &&& (15 : Int64)).toInt32) <<< ((2 : Int32) &&& 31)) ||| (p0_2 &&& (3 : Int32))))), (nar .char (own_F2 (own_F1 q0_1 (54 : Int32)))), (nar .char (own_F2 (own_F1 q0_1 (48 : Int32)))), (nar .char (own_F2 (own_F1 q0_1 (42 : Int32)))), (nar .char (own_F2 (own_F1 q0_1 (36 : Int32)))), (nar .char (own_F2 (own_F1 q0_1 (30 : Int32)))), (nar .char (own_F2 (own_F1 q0_1 (24 : Int32)))), (nar .char (own_F2 (own_F1 q0_1 (18 : Int32)))), (nar .char (own_F2 (own_F1 q0_1 (12 : Int32)))), (nar .char (own_F2 (own_F1 q0_1 (6 : Int32)))), (nar .char (own_F2 (own_F1 q0_1 (0 : Int32)))), (nar .char (own_F3 (((p0_2.toUInt32 >>> ((2 : Int32) &&& 31).toUInt32).toInt32) &&& (3 : Int32))))] : List Int32).map (fun c => c.toInt8.toInt32)) (n := 22) gn_b323 Z327 A323 f329 f328 f324 (SC.ext O326.2) HCS rfl rfl (by decide) (by decide) hp330 rfl (by decide) (by decide)) (g := (mkF m 319 #[.val (.long q0_0), .second, .val (.long q0_1), .second, .val (.int p0_2), .val (.ref b58), .unset] [(.ref b58), (.ref b323), (.ref b323)])) rfl (by rw [hml]; rfl) (Steps.refl _) (a := b323) (argsL := [(.ref b58)]) (rest := [(.ref b323)]) (lenOf pd___C_V rfl) rfl (by show 2 * 0 + _ ≤ _; exact Nat.le_of_eq rfl) (hb hby at_319) (fun _ _ => ⟨rfl, e323, (by decide : 2 + 1 ≤ _), (by decide : 26 + 22 ≤ _)⟩)
  dsimp only [Pt.U, Pt.locs, Pt.cells, Pt.slots] at X330 l330 y330 z330 st330 hQ330
  subst y330 z330
  obtain ⟨rfl, M330, K330, f331, f332, b330, kb330, gn330, sz330, nt330, f333, f334⟩ := hQ330
  have f335 := f324.keep K330 (ninS ne_b58_b323 nin0)
  have f336 := A323.keep K330
  have K337 : Keep h0 T330.heap [] := K325.trans K330 (allS (Or.inr sz_b323) all0)
  have O338 := O326.keep K330 (allS gn_b323 all0)
  have Z339 := Nat.le_trans Z327 K330.1
  have sz_b330 : h0.size ≤ b330 := Nat.le_trans K325.1 sz330
  have ne_b58_b330 : b58 ≠ b330 := Nat.ne_of_lt (Nat.lt_of_lt_of_le f324.lt sz330)
  have ne_b323_b330 : b323 ≠ b330 := Nat.ne_of_lt (Nat.lt_of_lt_of_le f329.lt sz330)
  have N340 : Fr n0 L330 := by rw [l330]; exact Fr.app N320 M330
  refine own_via (T' := T330) (g' := (mkF m 322 #[.val (.long q0_0), .second, .val (.long q0_1), .second, .val (.int p0_2), .val (.ref b58), .unset] [(.ref b323)])) st330 ?_
  refine own_by (T' := T330) (g' := (mkF m 326 #[.val (.long q0_0), .second, .val (.long q0_1), .second, .val (.int p0_2), .val (.ref b58), .val (.ref b323)] [(.ref b323)])) (fun t k => ?_) ?_
  · show Steps p.tables e below (T330.setTop (mkF m 322 #[.val (.long q0_0), .second, .val (.long q0_1), .second, .val (.int p0_2), .val (.ref b58), .unset] [(.ref b323)])) t
    refine XS.astore X330.here hx rfl (hb hby at_322) rfl rfl (l' := #[.val (.long q0_0), .second, .val (.long q0_1), .second, .val (.int p0_2), .val (.ref b58), .val (.ref b323)]) rfl ?_
    show Steps p.tables e below (T330.setTop (mkF m 324 #[.val (.long q0_0), .second, .val (.long q0_1), .second, .val (.int p0_2), .val (.ref b58), .val (.ref b323)] [])) t
    refine XS.aload X330.here hx rfl (hb hby at_324) rfl rfl ?_
    show Steps p.tables e below (T330.setTop (mkF m 326 #[.val (.long q0_0), .second, .val (.long q0_1), .second, .val (.int p0_2), .val (.ref b58), .val (.ref b323)] [(.ref b323)])) t
    exact k
  obtain ⟨v341, _, ⟨T341, L341, k341, n341⟩, -, X341, ⟨Lc341, hQ341, l341, y341, z341⟩, st341⟩ := Jvm.LawKit.callS X330 hx (y := (⟨"com/example/vacant_errand/vacanterrand/PackedId", "high", "(Ljava/lang/String;)J"⟩ : MethodName)) hown (mvT hZ (hw _ (List.mem_of_getElem? (i := 42) rfl))) (mvT hZ (hw _ (List.mem_of_getElem? (i := 43) rfl))) (mvT hZ (hw _ (List.mem_of_getElem? (i := 44) rfl))) (mvT hZ (hw _ (List.mem_of_getElem? (i := 45) rfl))) (by decide) (backOf (W := 0) (own_rm10 l Z a0 hw [] b323 ([(nar .char (own_F2 (own_F1 q0_0 (58 : Int32)))), (nar .char (own_F2 (own_F1 q0_0 (52 : Int32)))), (nar .char (own_F2 (own_F1 q0_0 (46 : Int32)))), (nar .char (own_F2 (own_F1 q0_0 (40 : Int32)))), (nar .char (own_F2 (own_F1 q0_0 (34 : Int32)))), (nar .char (own_F2 (own_F1 q0_0 (28 : Int32)))), (nar .char (own_F2 (own_F1 q0_0 (22 : Int32)))), (nar .char (own_F2 (own_F1 q0_0 (16 : Int32)))), (nar .char (own_F2 (own_F1 q0_0 (10 : Int32)))), (nar .char (own_F2 (own_F1 q0_0 (4 : Int32)))), (nar .char (own_F2 ((((q0_0 &&& (15 : Int64)).toInt32) <<< ((2 : Int32) &&& 31)) ||| (p0_2 &&& (3 : Int32))))), (nar .char (own_F2 (own_F1 q0_1 (54 : Int32)))), (nar .char (own_F2 (own_F1 q0_1 (48 : Int32)))), (nar .char (own_F2 (own_F1 q0_1 (42 : Int32)))), (nar .char (own_F2 (own_F1 q0_1 (36 : Int32)))), (nar .char (own_F2 (own_F1 q0_1 (30 : Int32)))), (nar .char (own_F2 (own_F1 q0_1 (24 : Int32)))), (nar .char (own_F2 (own_F1 q0_1 (18 : Int32)))), (nar .char (own_F2 (own_F1 q0_1 (12 : Int32)))), (nar .char (own_F2 (own_F1 q0_1 (6 : Int32)))), (nar .char (own_F2 (own_F1 q0_1 (0 : Int32)))), (nar .char (own_F3 (((p0_2.toUInt32 >>> ((2 : Int32) &&& 31).toUInt32).toInt32) &&& (3 : Int32))))] : List Int32) b330 kb330 cs fm wPL cPL T330.heap n0 Z339 O338 f331 f333 f332 f334 rfl hp330 SC HCS SFm HFm SPL TPL) hZ (hw _ (List.mem_of_getElem? (i := 45) rfl)) (hw _ (List.mem_of_getElem? (i := 44) rfl)) (by decide) (by decide)) (g := (mkF m 326 #[.val (.long q0_0), .second, .val (.long q0_1), .second, .val (.int p0_2), .val (.ref b58), .val (.ref b323)] [(.ref b323)])) rfl (by rw [hml]; rfl) (argsL := [(.ref b323)]) (rest := []) (lenOf pd__Ljava_lang_String__J rfl) rfl (by show 2 * 0 + _ ≤ _; exact Nat.le_of_eq rfl) (hb hby at_326) (fun _ _ => ⟨rfl, rfl, (by decide : 3 + 0 ≤ _), (by decide : 48 + 0 ≤ _)⟩)
  dsimp only [Pt.U, Pt.locs, Pt.cells, Pt.slots] at X341 l341 y341 z341 st341 hQ341
  subst y341 z341
  obtain ⟨rfl, M341, e341⟩ := hQ341
  have N342 : Fr n0 L341 := by rw [l341]; exact Fr.app N340 M341
  refine own_by (T' := T341) (g' := (mkF m 329 #[.val (.long q0_0), .second, .val (.long q0_1), .second, .val (.int p0_2), .val (.ref b58), .val (.ref b323)] [(.long (own_F10 ([(nar .char (own_F2 (own_F1 q0_0 (58 : Int32)))), (nar .char (own_F2 (own_F1 q0_0 (52 : Int32)))), (nar .char (own_F2 (own_F1 q0_0 (46 : Int32)))), (nar .char (own_F2 (own_F1 q0_0 (40 : Int32)))), (nar .char (own_F2 (own_F1 q0_0 (34 : Int32)))), (nar .char (own_F2 (own_F1 q0_0 (28 : Int32)))), (nar .char (own_F2 (own_F1 q0_0 (22 : Int32)))), (nar .char (own_F2 (own_F1 q0_0 (16 : Int32)))), (nar .char (own_F2 (own_F1 q0_0 (10 : Int32)))), (nar .char (own_F2 (own_F1 q0_0 (4 : Int32)))), (nar .char (own_F2 ((((q0_0 &&& (15 : Int64)).toInt32) <<< ((2 : Int32) &&& 31)) ||| (p0_2 &&& (3 : Int32))))), (nar .char (own_F2 (own_F1 q0_1 (54 : Int32)))), (nar .char (own_F2 (own_F1 q0_1 (48 : Int32)))), (nar .char (own_F2 (own_F1 q0_1 (42 : Int32)))), (nar .char (own_F2 (own_F1 q0_1 (36 : Int32)))), (nar .char (own_F2 (own_F1 q0_1 (30 : Int32)))), (nar .char (own_F2 (own_F1 q0_1 (24 : Int32)))), (nar .char (own_F2 (own_F1 q0_1 (18 : Int32)))), (nar .char (own_F2 (own_F1 q0_1 (12 : Int32)))), (nar .char (own_F2 (own_F1 q0_1 (6 : Int32)))), (nar .char (own_F2 (own_F1 q0_1 (0 : Int32)))), (nar .char (own_F3 (((p0_2.toUInt32 >>> ((2 : Int32) &&& 31).toUInt32).toInt32) &&& (3 : Int32))))] : List Int32)))])) st341 ?_
  refine own_by (T' := T341) (g' := (mkF m 331 #[.val (.long q0_0), .second, .val (.long q0_1), .second, .val (.int p0_2), .val (.ref b58), .val (.ref b323)] [(.int (lcmpW (own_F10 ([(nar .char (own_F2 (own_F1 q0_0 (58 : Int32)))), (nar .char (own_F2 (own_F1 q0_0 (52 : Int32)))), (nar .char (own_F2 (own_F1 q0_0 (46 : Int32)))), (nar .char (own_F2 (own_F1 q0_0 (40 : Int32)))), (nar .char (own_F2 (own_F1 q0_0 (34 : Int32)))), (nar .char (own_F2 (own_F1 q0_0 (28 : Int32)))), (nar .char (own_F2 (own_F1 q0_0 (22 : Int32)))), (nar .char (own_F2 (own_F1 q0_0 (16 : Int32)))), (nar .char (own_F2 (own_F1 q0_0 (10 : Int32)))), (nar .char (own_F2 (own_F1 q0_0 (4 : Int32)))), (nar .char (own_F2 ((((q0_0 &&& (15 : Int64)).toInt32) <<< ((2 : Int32) &&& 31)) ||| (p0_2 &&& (3 : Int32))))), (nar .char (own_F2 (own_F1 q0_1 (54 : Int32)))), (nar .char (own_F2 (own_F1 q0_1 (48 : Int32)))), (nar .char (own_F2 (own_F1 q0_1 (42 : Int32)))), (nar .char (own_F2 (own_F1 q0_1 (36 : Int32)))), (nar .char (own_F2 (own_F1 q0_1 (30 : Int32)))), (nar .char (own_F2 (own_F1 q0_1 (24 : Int32)))), (nar .char (own_F2 (own_F1 q0_1 (18 : Int32)))), (nar .char (own_F2 (own_F1 q0_1 (12 : Int32)))), (nar .char (own_F2 (own_F1 q0_1 (6 : Int32)))), (nar .char (own_F2 (own_F1 q0_1 (0 : Int32)))), (nar .char (own_F3 (((p0_2.toUInt32 >>> ((2 : Int32) &&& 31).toUInt32).toInt32) &&& (3 : Int32))))] : List Int32)) q0_0))])) (fun t k => ?_) ?_
  · show Steps p.tables e below (T341.setTop (mkF m 329 #[.val (.long q0_0), .second, .val (.long q0_1), .second, .val (.int p0_2), .val (.ref b58), .val (.ref b323)] [(.long (own_F10 ([(nar .char (own_F2 (own_F1 q0_0 (58 : Int32)))), (nar .char (own_F2 (own_F1 q0_0 (52 : Int32)))), (nar .char (own_F2 (own_F1 q0_0 (46 : Int32)))), (nar .char (own_F2 (own_F1 q0_0 (40 : Int32)))), (nar .char (own_F2 (own_F1 q0_0 (34 : Int32)))), (nar .char (own_F2 (own_F1 q0_0 (28 : Int32)))), (nar .char (own_F2 (own_F1 q0_0 (22 : Int32)))), (nar .char (own_F2 (own_F1 q0_0 (16 : Int32)))), (nar .char (own_F2 (own_F1 q0_0 (10 : Int32)))), (nar .char (own_F2 (own_F1 q0_0 (4 : Int32)))), (nar .char (own_F2 ((((q0_0 &&& (15 : Int64)).toInt32) <<< ((2 : Int32) &&& 31)) ||| (p0_2 &&& (3 : Int32))))), (nar .char (own_F2 (own_F1 q0_1 (54 : Int32)))), (nar .char (own_F2 (own_F1 q0_1 (48 : Int32)))), (nar .char (own_F2 (own_F1 q0_1 (42 : Int32)))), (nar .char (own_F2 (own_F1 q0_1 (36 : Int32)))), (nar .char (own_F2 (own_F1 q0_1 (30 : Int32)))), (nar .char (own_F2 (own_F1 q0_1 (24 : Int32)))), (nar .char (own_F2 (own_F1 q0_1 (18 : Int32)))), (nar .char (own_F2 (own_F1 q0_1 (12 : Int32)))), (nar .char (own_F2 (own_F1 q0_1 (6 : Int32)))), (nar .char (own_F2 (own_F1 q0_1 (0 : Int32)))), (nar .char (own_F3 (((p0_2.toUInt32 >>> ((2 : Int32) &&& 31).toUInt32).toInt32) &&& (3 : Int32))))] : List Int32)))])) t
    refine XS.lloadN X341.here hx rfl (hb hby at_329) rfl ?_
    show Steps p.tables e below (T341.setTop (mkF m 330 #[.val (.long q0_0), .second, .val (.long q0_1), .second, .val (.int p0_2), .val (.ref b58), .val (.ref b323)] [(.long q0_0), (.long (own_F10 ([(nar .char (own_F2 (own_F1 q0_0 (58 : Int32)))), (nar .char (own_F2 (own_F1 q0_0 (52 : Int32)))), (nar .char (own_F2 (own_F1 q0_0 (46 : Int32)))), (nar .char (own_F2 (own_F1 q0_0 (40 : Int32)))), (nar .char (own_F2 (own_F1 q0_0 (34 : Int32)))), (nar .char (own_F2 (own_F1 q0_0 (28 : Int32)))), (nar .char (own_F2 (own_F1 q0_0 (22 : Int32)))), (nar .char (own_F2 (own_F1 q0_0 (16 : Int32)))), (nar .char (own_F2 (own_F1 q0_0 (10 : Int32)))), (nar .char (own_F2 (own_F1 q0_0 (4 : Int32)))), (nar .char (own_F2 ((((q0_0 &&& (15 : Int64)).toInt32) <<< ((2 : Int32) &&& 31)) ||| (p0_2 &&& (3 : Int32))))), (nar .char (own_F2 (own_F1 q0_1 (54 : Int32)))), (nar .char (own_F2 (own_F1 q0_1 (48 : Int32)))), (nar .char (own_F2 (own_F1 q0_1 (42 : Int32)))), (nar .char (own_F2 (own_F1 q0_1 (36 : Int32)))), (nar .char (own_F2 (own_F1 q0_1 (30 : Int32)))), (nar .char (own_F2 (own_F1 q0_1 (24 : Int32)))), (nar .char (own_F2 (own_F1 q0_1 (18 : Int32)))), (nar .char (own_F2 (own_F1 q0_1 (12 : Int32)))), (nar .char (own_F2 (own_F1 q0_1 (6 : Int32)))), (nar .char (own_F2 (own_F1 q0_1 (0 : Int32)))), (nar .char (own_F3 (((p0_2.toUInt32 >>> ((2 : Int32) &&& 31).toUInt32).toInt32) &&& (3 : Int32))))] : List Int32)))])) t
    refine XS.lcmp X341.here hx rfl (hb hby at_330) rfl ?_
    show Steps p.tables e below (T341.setTop (mkF m 331 #[.val (.long q0_0), .second, .val (.long q0_1), .second, .val (.int p0_2), .val (.ref b58), .val (.ref b323)] [(.int (lcmpW (own_F10 ([(nar .char (own_F2 (own_F1 q0_0 (58 : Int32)))), (nar .char (own_F2 (own_F1 q0_0 (52 : Int32)))), (nar .char (own_F2 (own_F1 q0_0 (46 : Int32)))), (nar .char (own_F2 (own_F1 q0_0 (40 : Int32)))), (nar .char (own_F2 (own_F1 q0_0 (34 : Int32)))), (nar .char (own_F2 (own_F1 q0_0 (28 : Int32)))), (nar .char (own_F2 (own_F1 q0_0 (22 : Int32)))), (nar .char (own_F2 (own_F1 q0_0 (16 : Int32)))), (nar .char (own_F2 (own_F1 q0_0 (10 : Int32)))), (nar .char (own_F2 (own_F1 q0_0 (4 : Int32)))), (nar .char (own_F2 ((((q0_0 &&& (15 : Int64)).toInt32) <<< ((2 : Int32) &&& 31)) ||| (p0_2 &&& (3 : Int32))))), (nar .char (own_F2 (own_F1 q0_1 (54 : Int32)))), (nar .char (own_F2 (own_F1 q0_1 (48 : Int32)))), (nar .char (own_F2 (own_F1 q0_1 (42 : Int32)))), (nar .char (own_F2 (own_F1 q0_1 (36 : Int32)))), (nar .char (own_F2 (own_F1 q0_1 (30 : Int32)))), (nar .char (own_F2 (own_F1 q0_1 (24 : Int32)))), (nar .char (own_F2 (own_F1 q0_1 (18 : Int32)))), (nar .char (own_F2 (own_F1 q0_1 (12 : Int32)))), (nar .char (own_F2 (own_F1 q0_1 (6 : Int32)))), (nar .char (own_F2 (own_F1 q0_1 (0 : Int32)))), (nar .char (own_F3 (((p0_2.toUInt32 >>> ((2 : Int32) &&& 31).toUInt32).toInt32) &&& (3 : Int32))))] : List Int32)) q0_0))])) t
    exact k
  by_cases hc343 : (own_F10 ([(nar .char (own_F2 (own_F1 q0_0 (58 : Int32)))), (nar .char (own_F2 (own_F1 q0_0 (52 : Int32)))), (nar .char (own_F2 (own_F1 q0_0 (46 : Int32)))), (nar .char (own_F2 (own_F1 q0_0 (40 : Int32)))), (nar .char (own_F2 (own_F1 q0_0 (34 : Int32)))), (nar .char (own_F2 (own_F1 q0_0 (28 : Int32)))), (nar .char (own_F2 (own_F1 q0_0 (22 : Int32)))), (nar .char (own_F2 (own_F1 q0_0 (16 : Int32)))), (nar .char (own_F2 (own_F1 q0_0 (10 : Int32)))), (nar .char (own_F2 (own_F1 q0_0 (4 : Int32)))), (nar .char (own_F2 ((((q0_0 &&& (15 : Int64)).toInt32) <<< ((2 : Int32) &&& 31)) ||| (p0_2 &&& (3 : Int32))))), (nar .char (own_F2 (own_F1 q0_1 (54 : Int32)))), (nar .char (own_F2 (own_F1 q0_1 (48 : Int32)))), (nar .char (own_F2 (own_F1 q0_1 (42 : Int32)))), (nar .char (own_F2 (own_F1 q0_1 (36 : Int32)))), (nar .char (own_F2 (own_F1 q0_1 (30 : Int32)))), (nar .char (own_F2 (own_F1 q0_1 (24 : Int32)))), (nar .char (own_F2 (own_F1 q0_1 (18 : Int32)))), (nar .char (own_F2 (own_F1 q0_1 (12 : Int32)))), (nar .char (own_F2 (own_F1 q0_1 (6 : Int32)))), (nar .char (own_F2 (own_F1 q0_1 (0 : Int32)))), (nar .char (own_F3 (((p0_2.toUInt32 >>> ((2 : Int32) &&& 31).toUInt32).toInt32) &&& (3 : Int32))))] : List Int32)) = q0_0
  · skip
    refine own_by (T' := T341) (g' := (mkF m 339 #[.val (.long q0_0), .second, .val (.long q0_1), .second, .val (.int p0_2), .val (.ref b58), .val (.ref b323)] [(.int (1 : Int32))])) (fun t k => ?_) ?_
    · show Steps p.tables e below (T341.setTop (mkF m 331 #[.val (.long q0_0), .second, .val (.long q0_1), .second, .val (.int p0_2), .val (.ref b58), .val (.ref b323)] [(.int (lcmpW (own_F10 ([(nar .char (own_F2 (own_F1 q0_0 (58 : Int32)))), (nar .char (own_F2 (own_F1 q0_0 (52 : Int32)))), (nar .char (own_F2 (own_F1 q0_0 (46 : Int32)))), (nar .char (own_F2 (own_F1 q0_0 (40 : Int32)))), (nar .char (own_F2 (own_F1 q0_0 (34 : Int32)))), (nar .char (own_F2 (own_F1 q0_0 (28 : Int32)))), (nar .char (own_F2 (own_F1 q0_0 (22 : Int32)))), (nar .char (own_F2 (own_F1 q0_0 (16 : Int32)))), (nar .char (own_F2 (own_F1 q0_0 (10 : Int32)))), (nar .char (own_F2 (own_F1 q0_0 (4 : Int32)))), (nar .char (own_F2 ((((q0_0 &&& (15 : Int64)).toInt32) <<< ((2 : Int32) &&& 31)) ||| (p0_2 &&& (3 : Int32))))), (nar .char (own_F2 (own_F1 q0_1 (54 : Int32)))), (nar .char (own_F2 (own_F1 q0_1 (48 : Int32)))), (nar .char (own_F2 (own_F1 q0_1 (42 : Int32)))), (nar .char (own_F2 (own_F1 q0_1 (36 : Int32)))), (nar .char (own_F2 (own_F1 q0_1 (30 : Int32)))), (nar .char (own_F2 (own_F1 q0_1 (24 : Int32)))), (nar .char (own_F2 (own_F1 q0_1 (18 : Int32)))), (nar .char (own_F2 (own_F1 q0_1 (12 : Int32)))), (nar .char (own_F2 (own_F1 q0_1 (6 : Int32)))), (nar .char (own_F2 (own_F1 q0_1 (0 : Int32)))), (nar .char (own_F3 (((p0_2.toUInt32 >>> ((2 : Int32) &&& 31).toUInt32).toInt32) &&& (3 : Int32))))] : List Int32)) q0_0))])) t
      refine XS.ifNo X341.here hx rfl (hb hby at_331) rfl ((if0 _ _).trans (teq ((lw_eq _ _).mpr hc343)).2) ?_
      show Steps p.tables e below (T341.setTop (mkF m 334 #[.val (.long q0_0), .second, .val (.long q0_1), .second, .val (.int p0_2), .val (.ref b58), .val (.ref b323)] [])) t
      refine XS.iconst X341.here hx rfl (hb hby at_334) ?_
      show Steps p.tables e below (T341.setTop (mkF m 335 #[.val (.long q0_0), .second, .val (.long q0_1), .second, .val (.int p0_2), .val (.ref b58), .val (.ref b323)] [(.int (1 : Int32))])) t
      refine XS.goto X341.here hx rfl (pc0 := 335) (pc' := 339) rfl (hb hby at_335) (by decide) (by decide) ?_
      show Steps p.tables e below (T341.setTop (mkF m 339 #[.val (.long q0_0), .second, .val (.long q0_1), .second, .val (.int p0_2), .val (.ref b58), .val (.ref b323)] [(.int (1 : Int32))])) t
      exact k
    rw [show own_F0 q0_0 q0_1 p0_2 = (1 : Int32) from ((if_pos hc343).trans rfl)]
    exact own_retN X341 hx (t := .boolean) Bd.returns (by simp) (hb hby at_339) hlk (by decide) (by decide) ⟨rfl, N342⟩
  · skip
    refine own_by (T' := T341) (g' := (mkF m 339 #[.val (.long q0_0), .second, .val (.long q0_1), .second, .val (.int p0_2), .val (.ref b58), .val (.ref b323)] [(.int (0 : Int32))])) (fun t k => ?_) ?_
    · show Steps p.tables e below (T341.setTop (mkF m 331 #[.val (.long q0_0), .second, .val (.long q0_1), .second, .val (.int p0_2), .val (.ref b58), .val (.ref b323)] [(.int (lcmpW (own_F10 ([(nar .char (own_F2 (own_F1 q0_0 (58 : Int32)))), (nar .char (own_F2 (own_F1 q0_0 (52 : Int32)))), (nar .char (own_F2 (own_F1 q0_0 (46 : Int32)))), (nar .char (own_F2 (own_F1 q0_0 (40 : Int32)))), (nar .char (own_F2 (own_F1 q0_0 (34 : Int32)))), (nar .char (own_F2 (own_F1 q0_0 (28 : Int32)))), (nar .char (own_F2 (own_F1 q0_0 (22 : Int32)))), (nar .char (own_F2 (own_F1 q0_0 (16 : Int32)))), (nar .char (own_F2 (own_F1 q0_0 (10 : Int32)))), (nar .char (own_F2 (own_F1 q0_0 (4 : Int32)))), (nar .char (own_F2 ((((q0_0 &&& (15 : Int64)).toInt32) <<< ((2 : Int32) &&& 31)) ||| (p0_2 &&& (3 : Int32))))), (nar .char (own_F2 (own_F1 q0_1 (54 : Int32)))), (nar .char (own_F2 (own_F1 q0_1 (48 : Int32)))), (nar .char (own_F2 (own_F1 q0_1 (42 : Int32)))), (nar .char (own_F2 (own_F1 q0_1 (36 : Int32)))), (nar .char (own_F2 (own_F1 q0_1 (30 : Int32)))), (nar .char (own_F2 (own_F1 q0_1 (24 : Int32)))), (nar .char (own_F2 (own_F1 q0_1 (18 : Int32)))), (nar .char (own_F2 (own_F1 q0_1 (12 : Int32)))), (nar .char (own_F2 (own_F1 q0_1 (6 : Int32)))), (nar .char (own_F2 (own_F1 q0_1 (0 : Int32)))), (nar .char (own_F3 (((p0_2.toUInt32 >>> ((2 : Int32) &&& 31).toUInt32).toInt32) &&& (3 : Int32))))] : List Int32)) q0_0))])) t
      refine XS.ifYes X341.here hx rfl (pc0 := 331) (pc' := 338) rfl (hb hby at_331) rfl ((if0 _ _).trans (feq (fun q => hc343 ((lw_eq _ _).mp q))).2) (by decide) (by decide) ?_
      show Steps p.tables e below (T341.setTop (mkF m 338 #[.val (.long q0_0), .second, .val (.long q0_1), .second, .val (.int p0_2), .val (.ref b58), .val (.ref b323)] [])) t
      refine XS.iconst X341.here hx rfl (hb hby at_338) ?_
      show Steps p.tables e below (T341.setTop (mkF m 339 #[.val (.long q0_0), .second, .val (.long q0_1), .second, .val (.int p0_2), .val (.ref b58), .val (.ref b323)] [(.int (0 : Int32))])) t
      exact k
    rw [show own_F0 q0_0 q0_1 p0_2 = (0 : Int32) from ((if_neg hc343).trans rfl)]
    exact own_retN X341 hx (t := .boolean) Bd.returns (by simp) (hb hby at_339) hlk (by decide) (by decide) ⟨rfl, N342⟩
theorem own_step (v w : Int64) (A B : Nat) (hv : v.toBitVec.toNat = A) (hw : w.toBitVec.toNat = B) (hA : A < 288230376151711744) (hB : B < 64) : ((v <<< ((6 : Int32) &&& 0x3f).toInt64) ||| w).toBitVec.toNat = A * 64 + B := by
  have e : (v <<< ((6 : Int32) &&& 0x3f).toInt64).toBitVec = v.toBitVec <<< (6 : Nat) := by
    show v.toBitVec <<< ((((6 : Int32) &&& 0x3f).toInt64).toBitVec.smod 64) = _
    rw [show ((((6 : Int32) &&& 0x3f).toInt64).toBitVec.smod 64) = 6#64 from by decide]; rfl
  rw [Int64.toBitVec_or, BitVec.toNat_or, e, BitVec.toNat_shiftLeft, hv, hw, Nat.shiftLeft_eq, Nat.mod_eq_of_lt (by omega)]
  have := Nat.shiftLeft_add_eq_or_of_lt (i := 6) hB A
  rw [Nat.shiftLeft_eq] at this
  omega
theorem own_step4 (v w : Int64) (A B : Nat) (hv : v.toBitVec.toNat = A) (hw : w.toBitVec.toNat = B) (hA : A < 1152921504606846976) (hB : B < 16) : ((v <<< ((4 : Int32) &&& 0x3f).toInt64) ||| w).toBitVec.toNat = A * 16 + B := by
  have e : (v <<< ((4 : Int32) &&& 0x3f).toInt64).toBitVec = v.toBitVec <<< (4 : Nat) := by
    show v.toBitVec <<< ((((4 : Int32) &&& 0x3f).toInt64).toBitVec.smod 64) = _
    rw [show ((((4 : Int32) &&& 0x3f).toInt64).toBitVec.smod 64) = 4#64 from by decide]; rfl
  rw [Int64.toBitVec_or, BitVec.toNat_or, e, BitVec.toNat_shiftLeft, hv, hw, Nat.shiftLeft_eq, Nat.mod_eq_of_lt (by omega)]
  have := Nat.shiftLeft_add_eq_or_of_lt (i := 4) hB A
  rw [Nat.shiftLeft_eq] at this
  omega
/-- a small long, cut to an int and widened again -/
theorem own_wide (y : Int64) (k : Nat) (hy : y.toBitVec.toNat = k) (hk : k < 64) : (y.toInt32.toInt64).toBitVec.toNat = k := by
  have e : y.toInt = k := by
    have : y.toInt = y.toBitVec.toInt := rfl
    rw [this, BitVec.toInt_eq_toNat_of_lt (by omega), hy]
  have e2 : y.toInt32.toInt64 = y := by
    rw [← Int64.toInt_inj, Int32.toInt_toInt64, own_small y (by omega) (by omega)]
  rw [e2, hy]
theorem own_six (h : Int64) (s : Int32) (k : Nat) (hs : ((s &&& 0x3f).toInt64.toUInt64).toNat = k) (hk : k < 64) : ((own_F1 h s).toInt64).toBitVec.toNat = h.toBitVec.toNat / 2 ^ k % 64 := by
  unfold own_F1
  apply own_wide
  · rw [Int64.toBitVec_and, BitVec.toNat_and, show (63 : Int64).toBitVec.toNat = 2 ^ 6 - 1 from by decide, Nat.and_two_pow_sub_one_eq_mod]
    have : ((h.toUInt64 >>> (s &&& 0x3f).toInt64.toUInt64).toInt64).toBitVec.toNat = (h.toUInt64 >>> (s &&& 0x3f).toInt64.toUInt64).toNat := rfl
    rw [this, UInt64.toNat_shiftRight, hs, Nat.mod_eq_of_lt hk, Nat.shiftRight_eq_div_pow]
    rfl
  · omega
theorem own_four (h : Int64) : ((h &&& (15 : Int64)).toInt32.toInt64).toBitVec.toNat = h.toBitVec.toNat % 16 := by
  apply own_wide
  · rw [Int64.toBitVec_and, BitVec.toNat_and, show (15 : Int64).toBitVec.toNat = 2 ^ 4 - 1 from by decide, Nat.and_two_pow_sub_one_eq_mod]
  · omega
set_option maxRecDepth 65536 in
set_option maxHeartbeats 4000000 in
theorem own_law (a b : Int64) (c : Int32) : own_F0 a b c = 1 := by
  have hl := a.toBitVec.isLt
  unfold own_F0
  rw [if_pos]
  unfold own_F10
  simp only [List.getD_cons_zero, List.getD_cons_succ, own_pc _ (own_f1 _ _), own_pc _ (own_mix _ _), own_mix2]
  have z : (0 : Int64).toBitVec.toNat = 0 := by decide
  have t0 := (own_step _ _ 0 _ z (own_six a 58 58 (by decide) (by decide)) (by omega) (by omega)).trans (show 0 * 64 + a.toBitVec.toNat / 2 ^ 58 % 64 = a.toBitVec.toNat / 2 ^ 58 by omega)
  have t1 := (own_step _ _ (a.toBitVec.toNat / 2 ^ 58) _ t0 (own_six a 52 52 (by decide) (by decide)) (by omega) (by omega)).trans (show (a.toBitVec.toNat / 2 ^ 58) * 64 + a.toBitVec.toNat / 2 ^ 52 % 64 = a.toBitVec.toNat / 2 ^ 52 by omega)
  have t2 := (own_step _ _ (a.toBitVec.toNat / 2 ^ 52) _ t1 (own_six a 46 46 (by decide) (by decide)) (by omega) (by omega)).trans (show (a.toBitVec.toNat / 2 ^ 52) * 64 + a.toBitVec.toNat / 2 ^ 46 % 64 = a.toBitVec.toNat / 2 ^ 46 by omega)
  have t3 := (own_step _ _ (a.toBitVec.toNat / 2 ^ 46) _ t2 (own_six a 40 40 (by decide) (by decide)) (by omega) (by omega)).trans (show (a.toBitVec.toNat / 2 ^ 46) * 64 + a.toBitVec.toNat / 2 ^ 40 % 64 = a.toBitVec.toNat / 2 ^ 40 by omega)
  have t4 := (own_step _ _ (a.toBitVec.toNat / 2 ^ 40) _ t3 (own_six a 34 34 (by decide) (by decide)) (by omega) (by omega)).trans (show (a.toBitVec.toNat / 2 ^ 40) * 64 + a.toBitVec.toNat / 2 ^ 34 % 64 = a.toBitVec.toNat / 2 ^ 34 by omega)
  have t5 := (own_step _ _ (a.toBitVec.toNat / 2 ^ 34) _ t4 (own_six a 28 28 (by decide) (by decide)) (by omega) (by omega)).trans (show (a.toBitVec.toNat / 2 ^ 34) * 64 + a.toBitVec.toNat / 2 ^ 28 % 64 = a.toBitVec.toNat / 2 ^ 28 by omega)
  have t6 := (own_step _ _ (a.toBitVec.toNat / 2 ^ 28) _ t5 (own_six a 22 22 (by decide) (by decide)) (by omega) (by omega)).trans (show (a.toBitVec.toNat / 2 ^ 28) * 64 + a.toBitVec.toNat / 2 ^ 22 % 64 = a.toBitVec.toNat / 2 ^ 22 by omega)
  have t7 := (own_step _ _ (a.toBitVec.toNat / 2 ^ 22) _ t6 (own_six a 16 16 (by decide) (by decide)) (by omega) (by omega)).trans (show (a.toBitVec.toNat / 2 ^ 22) * 64 + a.toBitVec.toNat / 2 ^ 16 % 64 = a.toBitVec.toNat / 2 ^ 16 by omega)
  have t8 := (own_step _ _ (a.toBitVec.toNat / 2 ^ 16) _ t7 (own_six a 10 10 (by decide) (by decide)) (by omega) (by omega)).trans (show (a.toBitVec.toNat / 2 ^ 16) * 64 + a.toBitVec.toNat / 2 ^ 10 % 64 = a.toBitVec.toNat / 2 ^ 10 by omega)
  have t9 := (own_step _ _ (a.toBitVec.toNat / 2 ^ 10) _ t8 (own_six a 4 4 (by decide) (by decide)) (by omega) (by omega)).trans (show (a.toBitVec.toNat / 2 ^ 10) * 64 + a.toBitVec.toNat / 2 ^ 4 % 64 = a.toBitVec.toNat / 2 ^ 4 by omega)
  have t10 := (own_step4 _ _ (a.toBitVec.toNat / 2 ^ 4) _ t9 (own_four a) (by omega) (by omega)).trans (show a.toBitVec.toNat / 2 ^ 4 * 16 + a.toBitVec.toNat % 16 = a.toBitVec.toNat by omega)
  apply Int64.toBitVec_inj.mp
  apply BitVec.eq_of_toNat_eq
  exact t10

set_option maxRecDepth 65536 in
set_option maxHeartbeats 40000000 in
theorem own_comes {Post : Tables → Env → Array Value → State → Outcome → State → Prop} (hpost : ∀ tb e args s v u, (limb_1_1.after args s (.returned v) u = true ∧ limb_1_2.after args s (.returned v) u = true ∧ True) → FrameEnd s (.returned v) u (Jvm.fieldLocs frame_1_writes args s ++ Jvm.arrayLocs frame_1_arrays args s ++ Jvm.staticLocs frame_1_statics s) 16 192 → Post tb e args s (.returned v) u) :
    ArmFor flags0 classFile x code maxLocals ret World_1 tables_1 room_1 Calls_1 rest_1 Pre_1 Post := by
  intro l hfl _ _ p e ha hc hk s m args below hf hA hF happ hP
  obtain ⟨hcalls, hrest, hpre⟩ := hP
  obtain ⟨-, -, -, hnamed, -, -, -, hat⟩ := (Spec.applies_iff hf).mp happ
  obtain ⟨hg, hn⟩ := and_e (Cond.before_iff.mp (show (Jvm.Cond.and given_1 narrow_1).before args s = true from hpre))
  obtain ⟨hg1, hg2⟩ := and_e hg
  obtain ⟨hg3, hg4⟩ := and_e hg2
  obtain ⟨hg5, hg6⟩ := and_e hg4
  obtain ⟨w0, w1, w2, rfl⟩ : ∃ w0 w1 w2 : Value, args = #[w0, w1, w2] := by
    have hs : args.size = 3 := by simpa [Cond.value, given_1] using hg1
    obtain ⟨L⟩ := args
    match L, hs with
    | [w0, w1, w2], _ => exact ⟨w0, w1, w2, rfl⟩
  have hw := fun d (hd : d ∈ tables_1) => atoms_spec (ws := Jvm.Cond.code x code maxLocals ret :: tables_1) hat d (List.mem_cons_of_mem _ hd)
  have hfit : Fit s := fun {y c} hc i hi => by
    obtain ⟨ha, rfl⟩ := Array.getElem?_eq_some_iff.mp hc
    have q := List.all_eq_true.mp ((Array.all_eq_true_iff_forall_mem.mp hF) _ (Array.getElem_mem ha)) i (List.mem_range.mpr hi)
    simpa [Array.getElem?_eq_getElem hi] using q
  obtain ⟨hsets, hown0⟩ := atoms_of _ (rest_1_c_eq ▸ (show rest_1_c.before _ s = true from hrest))
  have hr0 := Cond.before_iff.mp hown0
  obtain ⟨i0, ei0⟩ := isL_v hg3
  obtain rfl : w0 = (.long i0) := Option.some.inj ei0
  obtain ⟨i1, ei1⟩ := isL_v hg5
  obtain rfl : w1 = (.long i1) := Option.some.inj ei1
  obtain ⟨i2, ei2⟩ := is_v hg6
  obtain rfl : w2 = (.int i2) := Option.some.inj ei2
  obtain ⟨cs, ecs⟩ := is_v (Cond.before_iff.mp (hsets _ (List.mem_of_getElem? (i := 1) rfl)))
  have SC : Sta s s.heap "java/lang/String" "COMPACT_STRINGS" "Z" (.int cs) := Sta.start ecs (Or.inl (hsets _ (List.mem_of_getElem? (i := 0) rfl)))
  have HCS : ¬ (cs = (0 : Int32)) := gotF (Cond.eq_ints ecs (Term.int_eval (0))) (not_v (Cond.before_iff.mp (hsets _ (List.mem_of_getElem? (i := 2) rfl))))
  obtain ⟨fm, efm, HFm⟩ := isR_v (Cond.before_iff.mp (hsets _ (List.mem_of_getElem? (i := 8) rfl)))
  have SFm : Sta s s.heap "jdk/internal/util/Preconditions" "SIOOBE_FORMATTER" "Ljava/util/function/BiFunction;" fm := Sta.start efm (Or.inl (hsets _ (List.mem_of_getElem? (i := 7) rfl)))
  obtain ⟨wPL, cPL, SPL, TPL⟩ := own_places hw hn
  obtain ⟨n, o, h1, h2, h3, _, L, rfl, ⟨rfl, N⟩, hq⟩ := own_rm0 l s _ hw tables_1 i0 i1 i2 cs fm wPL cPL s.heap s.heap.size (Nat.le_refl _) (Old.start s) SC HCS SFm HFm SPL TPL p e ha hc hk s m _ below hf ((Spec.applies_iff_loose hf).mp happ).1 ⟨rfl, State.Warmed39.refl s, rfl⟩ trivial
  refine ⟨n, _, h1, h2, h3, hpost _ _ _ _ _ _ ⟨Cond.after_iff.mpr rfl, Cond.after_iff.mpr (eq_i res_at (Term.int_eval (1)) (congrArg Value.int (own_law i0 i1 i2))), trivial⟩ ⟨hq.1, hq.2.1, (hq.2.2.sift fun y hy => Or.inr (N y hy)).mono (by decide) (by decide)⟩⟩
theorem main_1_1 : Claimed_1_1 := own_comes fun _ _ _ _ _ _ h hF => ⟨h.1, hF⟩
theorem main_1_2 : Claimed_1_2 := own_comes fun _ _ _ _ _ _ h hF => ⟨h.2.1, hF⟩
end Jvm.Pilot.@@N@@
namespace Jvm.Pilot.@@N@@
open Jvm Jvm.ClassFile Sem Op Lib Jvm.Free Jvm.Stand Jvm.Pilot.@@N@@.Jvm.D
/-! MADE BY PROGRAM (witnessworld.py) out of the Statement's table words and the real class files: 20 classes; the members and pool entries that the words name. The judged class is class 1, her method 4. -/
namespace start1
open Jvm.ClassFile
def u (s : String) : CpInfo := .utf8 (stringToUtf16 s)
/-- a pool by its gaps: so many unusable entries, then the entry; so many at the end -/
def gap : Nat → List CpInfo → List CpInfo
  | 0, r => r
  | n + 1, r => .unusable :: gap n r
def poolList (es : List (Nat × CpInfo)) (last : Nat) : List CpInfo := es.foldr (fun e r => gap e.1 (e.2 :: r)) (gap last [])
def pool (es : List (Nat × CpInfo)) (last : Nat) : Array CpInfo := ⟨poolList es last⟩
def fileOf (pool : Array CpInfo) (this : Nat) (attrs : Array Attribute := #[]) (ms : Array MethodInfo := #[]) (fl : Nat := 33) (sup : Nat := 0) (ifs : Array Nat := #[]) (fds : Array FieldInfo := #[]) : ClassFile where
  minorVersion := 0
  majorVersion := 65
  constantPool := pool
  accessFlags := fl
  thisClass := this
  superClass := sup
  interfaces := ifs
  fields := fds
  methods := ms
  attributes := attrs
def plain (name : String) (sup : Option ClassId) : Class where
  name := name
  kind := .ordinary
  loader := none
  accessFlags := 33
  super := sup
  interfaces := #[]
  cf := none
  fields := #[]
  methods := #[]
  instanceTypes := #[]
  staticTypes := #[]
  resolved := #[]
  callSites := []
  init := .initialized
  statics := none
  mirror := none

def pool0 : Array CpInfo := pool [(5, u "<init>"), (0, u "()V"), (1, .class_ 10), (1, u "java/lang/Object")] 113

def k0c0 : Code := { maxStack := 0, maxLocals := 1, code := object_method_1_code, exceptionTable := #[], attributes := #[] }
def k0m0 : Method := { name := "<init>", desc := "()V", sig := { parameters := [], returnType := none }, accessFlags := 1, code := some k0c0 }
/-- java/lang/Object -/
def k0 : Class := { plain "java/lang/Object" none with
  accessFlags := 33
  interfaces := #[]
  cf := some (fileOf pool0 8 #[] #[{ accessFlags := 1, nameIndex := 5, descriptorIndex := 6, attributes := #[] }] 33 0 #[] #[])
  fields := #[]
  methods := #[k0m0]
  instanceTypes := #[]
  staticTypes := #[]
  resolved := Array.replicate 124 none
  statics := none }

def pool1 : Array CpInfo := pool [(2, .class_ 4), (1, u "java/lang/Object"), (0, u "<init>"), (0, u "()V"), (0, .long 63), (1, .methodref 10 11), (0, .class_ 12), (0, .nameAndType 13 14), (0, u "com/example/vacant_errand/vacanterrand/PackedIdHighPinLaw"), (0, u "six"), (0, u "(JI)I"), (0, .methodref 10 16), (0, .nameAndType 17 18), (0, u "c"), (0, u "(I)C"), (0, .long 15), (1, .methodref 10 22), (0, .nameAndType 23 18), (0, u "last"), (0, .class_ 25), (0, u "java/lang/String"), (0, .methodref 24 27), (0, .nameAndType 5 28), (0, u "([C)V"), (0, .methodref 30 31), (0, .class_ 32), (0, .nameAndType 33 34), (0, u "com/example/vacant_errand/vacanterrand/PackedId"), (0, u "high"), (0, u "(Ljava/lang/String;)J"), (3, u "law"), (0, u "(JJI)Z")] 4

def k1m0 : Method := { name := "<init>", desc := "()V", sig := { parameters := [], returnType := none }, accessFlags := 2, code := none }
def k1c1 : Code := { maxStack := 3, maxLocals := 1, code := method_2_code, exceptionTable := #[], attributes := #[] }
def k1m1 : Method := { name := "c", desc := "(I)C", sig := { parameters := [.int], returnType := some .char }, accessFlags := 10, code := some k1c1 }
def k1c2 : Code := { maxStack := 2, maxLocals := 1, code := method_3_code, exceptionTable := #[], attributes := #[] }
def k1m2 : Method := { name := "last", desc := "(I)C", sig := { parameters := [.int], returnType := some .char }, accessFlags := 10, code := some k1c2 }
def k1c3 : Code := { maxStack := 4, maxLocals := 3, code := method_4_code, exceptionTable := #[], attributes := #[] }
def k1m3 : Method := { name := "six", desc := "(JI)I", sig := { parameters := [.long, .int], returnType := some .int }, accessFlags := 10, code := some k1c3 }
def k1c4 : Code := { maxStack := 6, maxLocals := 7, code := code, exceptionTable := #[], attributes := #[] }
def k1m4 : Method := { name := "law", desc := "(JJI)Z", sig := { parameters := [.long, .long, .int], returnType := some .boolean }, accessFlags := 9, code := some k1c4 }
/-- com/example/vacant_errand/vacanterrand/PackedIdHighPinLaw -/
def k1 : Class := { plain "com/example/vacant_errand/vacanterrand/PackedIdHighPinLaw" (some 0) with
  accessFlags := 49
  interfaces := #[]
  cf := some (fileOf pool1 10 #[] #[{ accessFlags := 2, nameIndex := 5, descriptorIndex := 6, attributes := #[] }, { accessFlags := 10, nameIndex := 17, descriptorIndex := 18, attributes := #[] }, { accessFlags := 10, nameIndex := 23, descriptorIndex := 18, attributes := #[] }, { accessFlags := 10, nameIndex := 13, descriptorIndex := 14, attributes := #[] }, { accessFlags := 9, nameIndex := 38, descriptorIndex := 39, attributes := #[] }] 49 2 #[] #[])
  fields := #[]
  methods := #[k1m0, k1m1, k1m2, k1m3, k1m4]
  instanceTypes := #[]
  staticTypes := #[]
  resolved := Array.replicate 44 none
  statics := none }

def pool2 : Array CpInfo := pool [(1, .class_ 2), (0, u "java/io/Serializable"), (0, .class_ 4), (0, u "java/lang/Object")] 2

/-- java/io/Serializable -/
def k2 : Class := { plain "java/io/Serializable" (some 0) with
  accessFlags := 1537
  interfaces := #[]
  cf := some (fileOf pool2 1 #[] #[] 1537 3 #[] #[])
  fields := #[]
  methods := #[]
  instanceTypes := #[]
  staticTypes := #[]
  resolved := Array.replicate 7 none
  statics := none }

def pool3 : Array CpInfo := pool [(1, .class_ 2), (0, u "java/lang/Comparable"), (0, .class_ 4), (0, u "java/lang/Object")] 7

/-- java/lang/Comparable -/
def k3 : Class := { plain "java/lang/Comparable" (some 0) with
  accessFlags := 1537
  interfaces := #[]
  cf := some (fileOf pool3 1 #[] #[] 1537 3 #[] #[])
  fields := #[]
  methods := #[]
  instanceTypes := #[]
  staticTypes := #[]
  resolved := Array.replicate 12 none
  statics := none }

def pool4 : Array CpInfo := pool [(2, .class_ 4), (1, u "java/lang/CharSequence"), (42, .class_ 48), (0, u "java/lang/CharSequence$1CodePointIterator"), (10, .class_ 60), (0, u "java/lang/CharSequence$1CharIterator"), (5, .class_ 67), (0, u "java/lang/Object")] 63

/-- java/lang/CharSequence -/
def k4 : Class := { plain "java/lang/CharSequence" (some 0) with
  accessFlags := 1537
  interfaces := #[]
  cf := some (fileOf pool4 2 #[.nestMembers #[47, 59]] #[] 1537 66 #[] #[])
  fields := #[]
  methods := #[]
  instanceTypes := #[]
  staticTypes := #[]
  resolved := Array.replicate 131 none
  statics := none }

def pool5 : Array CpInfo := pool [(1, .class_ 2), (0, u "java/lang/constant/Constable"), (0, .class_ 4), (0, u "java/lang/Object")] 6

/-- java/lang/constant/Constable -/
def k5 : Class := { plain "java/lang/constant/Constable" (some 0) with
  accessFlags := 1537
  interfaces := #[]
  cf := some (fileOf pool5 1 #[] #[] 1537 3 #[] #[])
  fields := #[]
  methods := #[]
  instanceTypes := #[]
  staticTypes := #[]
  resolved := Array.replicate 11 none
  statics := none }

def pool6 : Array CpInfo := pool [(1, .class_ 2), (0, u "java/lang/constant/ConstantDesc"), (0, .class_ 4), (0, u "java/lang/Object")] 32

/-- java/lang/constant/ConstantDesc -/
def k6 : Class := { plain "java/lang/constant/ConstantDesc" (some 0) with
  accessFlags := 1537
  interfaces := #[]
  cf := some (fileOf pool6 1 #[] #[] 1537 3 #[] #[])
  fields := #[]
  methods := #[]
  instanceTypes := #[]
  staticTypes := #[]
  resolved := Array.replicate 37 none
  statics := none }

def pool7 : Array CpInfo := pool [(1, .methodref 2 3), (0, .class_ 4), (0, .nameAndType 5 6), (0, u "java/lang/Object"), (0, u "<init>"), (0, u "()V"), (2, .fieldref 10 11), (0, .class_ 12), (0, .nameAndType 13 14), (0, u "java/lang/String"), (0, u "value"), (0, u "[B"), (0, .fieldref 10 16), (0, .nameAndType 17 18), (0, u "coder"), (0, u "B"), (2, u "hash"), (0, u "I"), (2, u "hashIsZero"), (0, u "Z"), (0, .methodref 10 28), (0, .nameAndType 5 29), (0, u "([CIILjava/lang/Void;)V"), (8, .fieldref 10 39), (0, .nameAndType 40 26), (0, u "COMPACT_STRINGS"), (1, .class_ 44), (1, u "java/lang/StringUTF16"), (0, u "compress"), (1, .methodref 42 48), (0, .nameAndType 49 50), (0, u "coderFromArrayLen"), (0, u "([BI)B"), (56, .class_ 109), (1, u "java/lang/StringLatin1"), (32, u "()Z"), (34, .methodref 42 178), (0, .nameAndType 45 179), (0, u "([CII)[B"), (183, u "([BI)C"), (27, u "(II)V"), (35, u "(I)C"), (64, .methodref 10 493), (0, .nameAndType 494 142), (0, u "isLatin1"), (0, .methodref 107 496), (0, .nameAndType 497 363), (0, u "charAt"), (3, u "checkIndex"), (73, .class_ 576), (0, u "java/lang/CharSequence"), (22, u "CASE_INSENSITIVE_ORDER"), (0, u "Ljava/util/Comparator;"), (409, u "([C)V"), (42, .fieldref 1054 1055), (0, .class_ 1056), (0, .nameAndType 1057 1058), (0, u "jdk/internal/util/Preconditions"), (0, u "SIOOBE_FORMATTER"), (0, u "Ljava/util/function/BiFunction;"), (0, .methodref 1054 1060), (0, .nameAndType 501 1061), (0, u "(IILjava/util/function/BiFunction;)I"), (39, u "serialPersistentFields"), (0, u "[Ljava/io/ObjectStreamField;"), (0, .class_ 1104), (0, u "java/lang/String$CaseInsensitiveComparator"), (1, .class_ 1107), (0, u "java/io/Serializable"), (0, .class_ 1109), (0, u "java/lang/Comparable"), (0, .class_ 1111), (0, u "java/lang/constant/Constable"), (0, .class_ 1113), (0, u "java/lang/constant/ConstantDesc"), (2, u "serialVersionUID"), (0, u "J"), (3, u "REPL"), (0, u "C"), (2, u "LATIN1"), (1, u "UTF16")] 323

def k7m0 : Method := { name := "<init>", desc := "()V", sig := { parameters := [], returnType := none }, accessFlags := 1, code := none }
def k7c1 : Code := { maxStack := 5, maxLocals := 2, code := jdk_42_method_3_code, exceptionTable := #[], attributes := #[] }
def k7m1 : Method := { name := "<init>", desc := "([C)V", sig := { parameters := [(.array .char)], returnType := none }, accessFlags := 1, code := some k7c1 }
def k7c2 : Code := { maxStack := 2, maxLocals := 2, code := jdk_42_method_56_code, exceptionTable := #[], attributes := #[] }
def k7m2 : Method := { name := "charAt", desc := "(I)C", sig := { parameters := [.int], returnType := some .char }, accessFlags := 1, code := some k7c2 }
def k7c3 : Code := { maxStack := 4, maxLocals := 6, code := jdk_42_method_149_code, exceptionTable := #[], attributes := #[] }
def k7m3 : Method := { name := "<init>", desc := "([CIILjava/lang/Void;)V", sig := { parameters := [(.array .char), .int, .int, (.object "java/lang/Void")], returnType := none }, accessFlags := 2, code := some k7c3 }
def k7c4 : Code := { maxStack := 1, maxLocals := 1, code := jdk_42_method_154_code, exceptionTable := #[], attributes := #[] }
def k7m4 : Method := { name := "isLatin1", desc := "()Z", sig := { parameters := [], returnType := some .boolean }, accessFlags := 0, code := some k7c4 }
def k7c5 : Code := { maxStack := 3, maxLocals := 2, code := jdk_42_method_155_code, exceptionTable := #[], attributes := #[] }
def k7m5 : Method := { name := "checkIndex", desc := "(II)V", sig := { parameters := [.int, .int], returnType := none }, accessFlags := 8, code := some k7c5 }
/-- java/lang/String -/
def k7 : Class := { plain "java/lang/String" (some 0) with
  accessFlags := 49
  interfaces := #[2, 3, 4, 5, 6]
  cf := some (fileOf pool7 10 #[.nestMembers #[1103]] #[{ accessFlags := 1, nameIndex := 5, descriptorIndex := 6, attributes := #[] }, { accessFlags := 1, nameIndex := 5, descriptorIndex := 1010, attributes := #[] }, { accessFlags := 1, nameIndex := 497, descriptorIndex := 427, attributes := #[] }, { accessFlags := 2, nameIndex := 5, descriptorIndex := 29, attributes := #[] }, { accessFlags := 0, nameIndex := 494, descriptorIndex := 142, attributes := #[] }, { accessFlags := 8, nameIndex := 501, descriptorIndex := 391, attributes := #[] }] 49 2 #[1106, 1108, 575, 1110, 1112] #[{ accessFlags := 18, nameIndex := 13, descriptorIndex := 14, attributes := #[] }, { accessFlags := 18, nameIndex := 17, descriptorIndex := 18, attributes := #[] }, { accessFlags := 2, nameIndex := 21, descriptorIndex := 22, attributes := #[] }, { accessFlags := 2, nameIndex := 25, descriptorIndex := 26, attributes := #[] }, { accessFlags := 26, nameIndex := 1116, descriptorIndex := 1117, attributes := #[] }, { accessFlags := 24, nameIndex := 40, descriptorIndex := 26, attributes := #[] }, { accessFlags := 26, nameIndex := 1101, descriptorIndex := 1102, attributes := #[] }, { accessFlags := 26, nameIndex := 1121, descriptorIndex := 1122, attributes := #[] }, { accessFlags := 25, nameIndex := 599, descriptorIndex := 600, attributes := #[] }, { accessFlags := 24, nameIndex := 1125, descriptorIndex := 18, attributes := #[] }, { accessFlags := 24, nameIndex := 1127, descriptorIndex := 18, attributes := #[] }])
  fields := #[{ name := "value", type := (.array .byte), accessFlags := 18, slot := 0, constantValue := 0 }, { name := "coder", type := .byte, accessFlags := 18, slot := 1, constantValue := 0 }, { name := "hash", type := .int, accessFlags := 2, slot := 2, constantValue := 0 }, { name := "hashIsZero", type := .boolean, accessFlags := 2, slot := 3, constantValue := 0 }, { name := "serialVersionUID", type := .long, accessFlags := 26, slot := 0, constantValue := 0 }, { name := "COMPACT_STRINGS", type := .boolean, accessFlags := 24, slot := 1, constantValue := 0 }, { name := "serialPersistentFields", type := (.array (.object "java/io/ObjectStreamField")), accessFlags := 26, slot := 2, constantValue := 0 }, { name := "REPL", type := .char, accessFlags := 26, slot := 3, constantValue := 0 }, { name := "CASE_INSENSITIVE_ORDER", type := (.object "java/util/Comparator"), accessFlags := 25, slot := 4, constantValue := 0 }, { name := "LATIN1", type := .byte, accessFlags := 24, slot := 5, constantValue := 0 }, { name := "UTF16", type := .byte, accessFlags := 24, slot := 6, constantValue := 0 }]
  methods := #[k7m0, k7m1, k7m2, k7m3, k7m4, k7m5]
  instanceTypes := #[(.array .byte), .byte, .int, .boolean]
  staticTypes := #[.long, .boolean, (.array (.object "java/io/ObjectStreamField")), .char, (.object "java/util/Comparator"), .byte, .byte]
  resolved := Array.replicate 1451 none
  statics := some 0 }

def pool8 : Array CpInfo := pool [(6, .class_ 8), (1, u "java/lang/Object"), (0, u "<init>"), (0, u "()V"), (1, .class_ 14), (1, u "java/lang/StringUTF16"), (31, u "$assertionsDisabled"), (0, u "Z"), (13, u "HI_BYTE_SHIFT"), (0, u "I"), (2, u "LO_BYTE_SHIFT"), (49, .methodref 12 116), (0, .nameAndType 117 118), (0, u "compress"), (0, u "([CI[BII)I"), (3, u "([CII)[B"), (138, u "coderFromArrayLen"), (0, u "([BI)B"), (106, .class_ 371), (1, u "java/lang/StringUTF16$LinesSpliterator"), (58, u "MAX_LENGTH"), (196, .class_ 628), (0, u "java/lang/StringUTF16$CodePointsSpliterator"), (0, .class_ 630), (0, u "java/lang/StringUTF16$CharsSpliterator")] 4

def k8m0 : Method := { name := "<init>", desc := "()V", sig := { parameters := [], returnType := none }, accessFlags := 0, code := none }
def k8c1 : Code := { maxStack := 2, maxLocals := 2, code := jdk_52_method_15_code, exceptionTable := #[], attributes := #[] }
def k8m1 : Method := { name := "coderFromArrayLen", desc := "([BI)B", sig := { parameters := [(.array .byte), .int], returnType := some .byte }, accessFlags := 8, code := some k8c1 }
def k8c2 : Code := { maxStack := 5, maxLocals := 6, code := jdk_52_method_16_code, exceptionTable := #[], attributes := #[] }
def k8m2 : Method := { name := "compress", desc := "([CII)[B", sig := { parameters := [(.array .char), .int, .int], returnType := some (.array .byte) }, accessFlags := 9, code := some k8c2 }
def k8c3 : Code := { maxStack := 3, maxLocals := 7, code := jdk_52_method_21_code, exceptionTable := #[], attributes := #[] }
def k8m3 : Method := { name := "compress", desc := "([CI[BII)I", sig := { parameters := [(.array .char), .int, (.array .byte), .int, .int], returnType := some .int }, accessFlags := 9, code := some k8c3 }
/-- java/lang/StringUTF16 -/
def k8 : Class := { plain "java/lang/StringUTF16" (some 0) with
  accessFlags := 48
  interfaces := #[]
  cf := some (fileOf pool8 12 #[.nestMembers #[627, 629, 369]] #[{ accessFlags := 0, nameIndex := 9, descriptorIndex := 10, attributes := #[] }, { accessFlags := 8, nameIndex := 261, descriptorIndex := 262, attributes := #[] }, { accessFlags := 9, nameIndex := 117, descriptorIndex := 122, attributes := #[] }, { accessFlags := 9, nameIndex := 117, descriptorIndex := 118, attributes := #[] }] 48 6 #[] #[{ accessFlags := 26, nameIndex := 61, descriptorIndex := 62, attributes := #[] }, { accessFlags := 26, nameIndex := 65, descriptorIndex := 62, attributes := #[] }, { accessFlags := 24, nameIndex := 430, descriptorIndex := 62, attributes := #[] }, { accessFlags := 4120, nameIndex := 46, descriptorIndex := 47, attributes := #[] }])
  fields := #[{ name := "HI_BYTE_SHIFT", type := .int, accessFlags := 26, slot := 0, constantValue := 0 }, { name := "LO_BYTE_SHIFT", type := .int, accessFlags := 26, slot := 1, constantValue := 0 }, { name := "MAX_LENGTH", type := .int, accessFlags := 24, slot := 2, constantValue := 0 }, { name := "$assertionsDisabled", type := .boolean, accessFlags := 4120, slot := 3, constantValue := 0 }]
  methods := #[k8m0, k8m1, k8m2, k8m3]
  instanceTypes := #[]
  staticTypes := #[.int, .int, .int, .boolean]
  resolved := Array.replicate 635 none
  statics := none }

def pool9 : Array CpInfo := pool [(2, .class_ 4), (1, u "java/lang/Object"), (0, u "<init>"), (0, u "()V"), (1, .class_ 10), (1, u "java/lang/String"), (2, .class_ 14), (0, u "com/example/vacant_errand/vacanterrand/PackedId"), (2, .methodref 8 18), (0, .nameAndType 19 20), (0, u "charAt"), (0, u "(I)C"), (4, .methodref 13 26), (0, .nameAndType 27 28), (0, u "place"), (0, u "(C)I"), (17, .fieldref 13 47), (0, .nameAndType 48 49), (0, u "PLACES"), (0, u "[B"), (6, u "LENGTH"), (0, u "I"), (2, u "CHARACTERS"), (0, u "Ljava/lang/String;"), (0, u "LAST_CHARACTERS"), (0, u "HIGH_CHARACTERS"), (6, u "high"), (0, u "(Ljava/lang/String;)J")] 11

def k9m0 : Method := { name := "<init>", desc := "()V", sig := { parameters := [], returnType := none }, accessFlags := 2, code := none }
def k9c1 : Code := { maxStack := 4, maxLocals := 4, code := prog_5_method_3_code, exceptionTable := #[], attributes := #[] }
def k9m1 : Method := { name := "high", desc := "(Ljava/lang/String;)J", sig := { parameters := [(.object "java/lang/String")], returnType := some .long }, accessFlags := 8, code := some k9c1 }
def k9c2 : Code := { maxStack := 2, maxLocals := 1, code := prog_5_method_8_code, exceptionTable := #[], attributes := #[] }
def k9m2 : Method := { name := "place", desc := "(C)I", sig := { parameters := [.char], returnType := some .int }, accessFlags := 10, code := some k9c2 }
/-- com/example/vacant_errand/vacanterrand/PackedId -/
def k9 : Class := { plain "com/example/vacant_errand/vacanterrand/PackedId" (some 0) with
  accessFlags := 48
  interfaces := #[]
  cf := some (fileOf pool9 13 #[] #[{ accessFlags := 2, nameIndex := 5, descriptorIndex := 6, attributes := #[] }, { accessFlags := 8, nameIndex := 70, descriptorIndex := 71, attributes := #[] }, { accessFlags := 10, nameIndex := 27, descriptorIndex := 28, attributes := #[] }] 48 2 #[] #[{ accessFlags := 26, nameIndex := 56, descriptorIndex := 57, attributes := #[] }, { accessFlags := 26, nameIndex := 60, descriptorIndex := 61, attributes := #[] }, { accessFlags := 26, nameIndex := 62, descriptorIndex := 61, attributes := #[] }, { accessFlags := 26, nameIndex := 63, descriptorIndex := 57, attributes := #[] }, { accessFlags := 26, nameIndex := 48, descriptorIndex := 49, attributes := #[] }])
  fields := #[{ name := "LENGTH", type := .int, accessFlags := 26, slot := 0, constantValue := 0 }, { name := "CHARACTERS", type := (.object "java/lang/String"), accessFlags := 26, slot := 1, constantValue := 0 }, { name := "LAST_CHARACTERS", type := (.object "java/lang/String"), accessFlags := 26, slot := 2, constantValue := 0 }, { name := "HIGH_CHARACTERS", type := .int, accessFlags := 26, slot := 3, constantValue := 0 }, { name := "PLACES", type := (.array .byte), accessFlags := 26, slot := 4, constantValue := 0 }]
  methods := #[k9m0, k9m1, k9m2]
  instanceTypes := #[]
  staticTypes := #[.int, (.object "java/lang/String"), (.object "java/lang/String"), .int, (.array .byte)]
  resolved := Array.replicate 83 none
  statics := some 1 }

def pool10 : Array CpInfo := pool [(1, .class_ 2), (0, u "java/lang/String"), (1, .class_ 6), (1, u "java/lang/Object"), (0, u "<init>"), (0, u "()V"), (0, .methodref 1 10), (0, .nameAndType 11 12), (0, u "checkIndex"), (0, u "(II)V"), (1, .class_ 16), (1, u "java/lang/StringLatin1"), (36, u "([BI)C"), (67, u "$assertionsDisabled"), (0, u "Z"), (98, .class_ 223), (1, u "java/lang/StringLatin1$LinesSpliterator"), (28, u "charAt"), (137, .class_ 391), (0, u "java/lang/StringLatin1$CharsSpliterator")] 3

def k10m0 : Method := { name := "<init>", desc := "()V", sig := { parameters := [], returnType := none }, accessFlags := 0, code := none }
def k10c1 : Code := { maxStack := 2, maxLocals := 2, code := jdk_43_method_2_code, exceptionTable := #[], attributes := #[] }
def k10m1 : Method := { name := "charAt", desc := "([BI)C", sig := { parameters := [(.array .byte), .int], returnType := some .char }, accessFlags := 9, code := some k10c1 }
/-- java/lang/StringLatin1 -/
def k10 : Class := { plain "java/lang/StringLatin1" (some 0) with
  accessFlags := 48
  interfaces := #[]
  cf := some (fileOf pool10 14 #[.nestMembers #[390, 221]] #[{ accessFlags := 0, nameIndex := 7, descriptorIndex := 8, attributes := #[] }, { accessFlags := 9, nameIndex := 252, descriptorIndex := 53, attributes := #[] }] 48 4 #[] #[{ accessFlags := 4120, nameIndex := 121, descriptorIndex := 122, attributes := #[] }])
  fields := #[{ name := "$assertionsDisabled", type := .boolean, accessFlags := 4120, slot := 0, constantValue := 0 }]
  methods := #[k10m0, k10m1]
  instanceTypes := #[]
  staticTypes := #[.boolean]
  resolved := Array.replicate 395 none
  statics := none }

def pool11 : Array CpInfo := pool [(2, .class_ 4), (1, u "java/lang/Object"), (0, u "<init>"), (0, u "()V"), (17, .class_ 26), (1, u "jdk/internal/util/Preconditions"), (6, u "checkIndex"), (21, .class_ 56), (0, u "jdk/internal/util/Preconditions$4"), (57, .class_ 115), (0, u "jdk/internal/util/Preconditions$1"), (7, u "SIOOBE_FORMATTER"), (0, u "Ljava/util/function/BiFunction;"), (0, .class_ 126), (0, u "jdk/internal/util/Preconditions$2"), (3, u "AIOOBE_FORMATTER"), (0, .class_ 132), (0, u "jdk/internal/util/Preconditions$3"), (3, u "IOOBE_FORMATTER"), (41, u "(IILjava/util/function/BiFunction;)I")] 15

def k11m0 : Method := { name := "<init>", desc := "()V", sig := { parameters := [], returnType := none }, accessFlags := 1, code := none }
def k11c1 : Code := { maxStack := 3, maxLocals := 3, code := jdk_41_method_11_code, exceptionTable := #[], attributes := #[] }
def k11m1 : Method := { name := "checkIndex", desc := "(IILjava/util/function/BiFunction;)I", sig := { parameters := [.int, .int, (.object "java/util/function/BiFunction")], returnType := some .int }, accessFlags := 9, code := some k11c1 }
/-- jdk/internal/util/Preconditions -/
def k11 : Class := { plain "jdk/internal/util/Preconditions" (some 0) with
  accessFlags := 33
  interfaces := #[]
  cf := some (fileOf pool11 24 #[.nestMembers #[55, 131, 125, 114]] #[{ accessFlags := 1, nameIndex := 5, descriptorIndex := 6, attributes := #[] }, { accessFlags := 9, nameIndex := 33, descriptorIndex := 178, attributes := #[] }] 33 2 #[] #[{ accessFlags := 25, nameIndex := 123, descriptorIndex := 124, attributes := #[] }, { accessFlags := 25, nameIndex := 130, descriptorIndex := 124, attributes := #[] }, { accessFlags := 25, nameIndex := 136, descriptorIndex := 124, attributes := #[] }])
  fields := #[{ name := "SIOOBE_FORMATTER", type := (.object "java/util/function/BiFunction"), accessFlags := 25, slot := 0, constantValue := 0 }, { name := "AIOOBE_FORMATTER", type := (.object "java/util/function/BiFunction"), accessFlags := 25, slot := 1, constantValue := 0 }, { name := "IOOBE_FORMATTER", type := (.object "java/util/function/BiFunction"), accessFlags := 25, slot := 2, constantValue := 0 }]
  methods := #[k11m0, k11m1]
  instanceTypes := #[]
  staticTypes := #[(.object "java/util/function/BiFunction"), (.object "java/util/function/BiFunction"), (.object "java/util/function/BiFunction")]
  resolved := Array.replicate 194 none
  statics := some 2 }

def pool12 : Array CpInfo := pool [(9, u "<init>"), (6, .class_ 18), (1, u "java/lang/Object"), (0, u "()V"), (1, .class_ 23), (1, u "jdk/internal/util/ArraysSupport"), (0, u "LOG2_ARRAY_LONG_INDEX_SCALE"), (0, u "I"), (2, u "U"), (0, u "Ljdk/internal/misc/Unsafe;"), (8, u "BIG_ENDIAN"), (0, u "Z"), (8, u "LOG2_BYTE_BIT_SIZE"), (4, u "LOG2_ARRAY_INT_INDEX_SCALE"), (54, u "JLA"), (0, u "Ljdk/internal/access/JavaLangAccess;"), (11, u "LOG2_ARRAY_BOOLEAN_INDEX_SCALE"), (9, u "LOG2_ARRAY_BYTE_INDEX_SCALE"), (5, u "LOG2_ARRAY_CHAR_INDEX_SCALE"), (5, u "LOG2_ARRAY_SHORT_INDEX_SCALE"), (18, u "LOG2_ARRAY_FLOAT_INDEX_SCALE"), (24, u "LOG2_ARRAY_DOUBLE_INDEX_SCALE"), (89, u "T_BOOLEAN"), (2, u "T_CHAR"), (1, u "T_FLOAT"), (1, u "T_DOUBLE"), (1, u "T_BYTE"), (1, u "T_SHORT"), (1, u "T_INT"), (1, u "T_LONG"), (1, u "SOFT_MAX_ARRAY_LENGTH")] 83

def k12m0 : Method := { name := "<init>", desc := "()V", sig := { parameters := [], returnType := none }, accessFlags := 2, code := none }
/-- jdk/internal/util/ArraysSupport -/
def k12 : Class := { plain "jdk/internal/util/ArraysSupport" (some 0) with
  accessFlags := 33
  interfaces := #[]
  cf := some (fileOf pool12 21 #[] #[{ accessFlags := 2, nameIndex := 9, descriptorIndex := 19, attributes := #[] }] 33 16 #[] #[{ accessFlags := 24, nameIndex := 28, descriptorIndex := 29, attributes := #[] }, { accessFlags := 26, nameIndex := 38, descriptorIndex := 39, attributes := #[] }, { accessFlags := 25, nameIndex := 121, descriptorIndex := 25, attributes := #[] }, { accessFlags := 25, nameIndex := 131, descriptorIndex := 25, attributes := #[] }, { accessFlags := 25, nameIndex := 137, descriptorIndex := 25, attributes := #[] }, { accessFlags := 25, nameIndex := 143, descriptorIndex := 25, attributes := #[] }, { accessFlags := 25, nameIndex := 53, descriptorIndex := 25, attributes := #[] }, { accessFlags := 25, nameIndex := 24, descriptorIndex := 25, attributes := #[] }, { accessFlags := 25, nameIndex := 162, descriptorIndex := 25, attributes := #[] }, { accessFlags := 25, nameIndex := 187, descriptorIndex := 25, attributes := #[] }, { accessFlags := 26, nameIndex := 48, descriptorIndex := 25, attributes := #[] }, { accessFlags := 25, nameIndex := 277, descriptorIndex := 25, attributes := #[] }, { accessFlags := 25, nameIndex := 280, descriptorIndex := 25, attributes := #[] }, { accessFlags := 25, nameIndex := 282, descriptorIndex := 25, attributes := #[] }, { accessFlags := 25, nameIndex := 284, descriptorIndex := 25, attributes := #[] }, { accessFlags := 25, nameIndex := 286, descriptorIndex := 25, attributes := #[] }, { accessFlags := 25, nameIndex := 288, descriptorIndex := 25, attributes := #[] }, { accessFlags := 25, nameIndex := 290, descriptorIndex := 25, attributes := #[] }, { accessFlags := 25, nameIndex := 292, descriptorIndex := 25, attributes := #[] }, { accessFlags := 26, nameIndex := 108, descriptorIndex := 109, attributes := #[] }, { accessFlags := 25, nameIndex := 294, descriptorIndex := 25, attributes := #[] }])
  fields := #[{ name := "U", type := (.object "jdk/internal/misc/Unsafe"), accessFlags := 24, slot := 0, constantValue := 0 }, { name := "BIG_ENDIAN", type := .boolean, accessFlags := 26, slot := 1, constantValue := 0 }, { name := "LOG2_ARRAY_BOOLEAN_INDEX_SCALE", type := .int, accessFlags := 25, slot := 2, constantValue := 0 }, { name := "LOG2_ARRAY_BYTE_INDEX_SCALE", type := .int, accessFlags := 25, slot := 3, constantValue := 0 }, { name := "LOG2_ARRAY_CHAR_INDEX_SCALE", type := .int, accessFlags := 25, slot := 4, constantValue := 0 }, { name := "LOG2_ARRAY_SHORT_INDEX_SCALE", type := .int, accessFlags := 25, slot := 5, constantValue := 0 }, { name := "LOG2_ARRAY_INT_INDEX_SCALE", type := .int, accessFlags := 25, slot := 6, constantValue := 0 }, { name := "LOG2_ARRAY_LONG_INDEX_SCALE", type := .int, accessFlags := 25, slot := 7, constantValue := 0 }, { name := "LOG2_ARRAY_FLOAT_INDEX_SCALE", type := .int, accessFlags := 25, slot := 8, constantValue := 0 }, { name := "LOG2_ARRAY_DOUBLE_INDEX_SCALE", type := .int, accessFlags := 25, slot := 9, constantValue := 0 }, { name := "LOG2_BYTE_BIT_SIZE", type := .int, accessFlags := 26, slot := 10, constantValue := 0 }, { name := "T_BOOLEAN", type := .int, accessFlags := 25, slot := 11, constantValue := 0 }, { name := "T_CHAR", type := .int, accessFlags := 25, slot := 12, constantValue := 0 }, { name := "T_FLOAT", type := .int, accessFlags := 25, slot := 13, constantValue := 0 }, { name := "T_DOUBLE", type := .int, accessFlags := 25, slot := 14, constantValue := 0 }, { name := "T_BYTE", type := .int, accessFlags := 25, slot := 15, constantValue := 0 }, { name := "T_SHORT", type := .int, accessFlags := 25, slot := 16, constantValue := 0 }, { name := "T_INT", type := .int, accessFlags := 25, slot := 17, constantValue := 0 }, { name := "T_LONG", type := .int, accessFlags := 25, slot := 18, constantValue := 0 }, { name := "JLA", type := (.object "jdk/internal/access/JavaLangAccess"), accessFlags := 26, slot := 19, constantValue := 0 }, { name := "SOFT_MAX_ARRAY_LENGTH", type := .int, accessFlags := 25, slot := 20, constantValue := 0 }]
  methods := #[k12m0]
  instanceTypes := #[]
  staticTypes := #[(.object "jdk/internal/misc/Unsafe"), .boolean, .int, .int, .int, .int, .int, .int, .int, .int, .int, .int, .int, .int, .int, .int, .int, .int, .int, (.object "jdk/internal/access/JavaLangAccess"), .int]
  resolved := Array.replicate 378 none
  statics := none }

def pool13 : Array CpInfo := pool [(1, u "java/lang/Cloneable"), (0, .class_ 1), (0, u "java/lang/Object"), (0, .class_ 3)] 3

/-- java/lang/Cloneable -/
def k13 : Class := { plain "java/lang/Cloneable" (some 0) with
  accessFlags := 1537
  interfaces := #[]
  cf := some (fileOf pool13 2 #[] #[] 1537 4 #[] #[])
  fields := #[]
  methods := #[]
  instanceTypes := #[]
  staticTypes := #[]
  resolved := Array.replicate 8 none
  statics := none }

/-- the primitive byte -/
def k14 : Class := { plain "byte" none with kind := .primitive 'B', accessFlags := 0x411 }
/-- [B -/
def k15 : Class := { plain "[B" (some 0) with kind := .array 14 .byte, interfaces := #[13, 2], accessFlags := 1041 }

/-- the primitive char -/
def k16 : Class := { plain "char" none with kind := .primitive 'C', accessFlags := 0x411 }
/-- [C -/
def k17 : Class := { plain "[C" (some 0) with kind := .array 16 .char, interfaces := #[13, 2], accessFlags := 1041 }

/-- the primitive int -/
def k18 : Class := { plain "int" none with kind := .primitive 'I', accessFlags := 0x411 }
/-- [I -/
def k19 : Class := { plain "[I" (some 0) with kind := .array 18 .int, interfaces := #[13, 2], accessFlags := 1041 }

def heap : Heap := #[{ cls := 7, slots := #[.long 0, .int 1, .null, .int 0, .null, .int 0, .int 0], vm := .statics 7 },
  { cls := 9, slots := #[.int 0, .null, .null, .int 0, .ref 3], vm := .statics 9 },
  { cls := 11, slots := #[.null, .null, .null], vm := .statics 11 },
  { cls := 15, slots := #[.int (-1), .int (-1), .int (-1), .int (-1), .int (-1), .int (-1), .int (-1), .int (-1), .int (-1), .int (-1), .int (-1), .int (-1), .int (-1), .int (-1), .int (-1), .int (-1), .int (-1), .int (-1), .int (-1), .int (-1), .int (-1), .int (-1), .int (-1), .int (-1), .int (-1), .int (-1), .int (-1), .int (-1), .int (-1), .int (-1), .int (-1), .int (-1), .int (-1), .int (-1), .int (-1), .int (-1), .int (-1), .int (-1), .int (-1), .int (-1), .int (-1), .int (-1), .int (-1), .int (-1), .int (-1), .int 0, .int (-1), .int (-1), .int 1, .int 2, .int 3, .int 4, .int 5, .int 6, .int 7, .int 8, .int 9, .int 10, .int (-1), .int (-1), .int (-1), .int (-1), .int (-1), .int (-1), .int (-1), .int 11, .int 12, .int 13, .int 14, .int 15, .int 16, .int 17, .int 18, .int 19, .int 20, .int 21, .int 22, .int 23, .int 24, .int 25, .int 26, .int 27, .int 28, .int 29, .int 30, .int 31, .int 32, .int 33, .int 34, .int 35, .int 36, .int (-1), .int (-1), .int (-1), .int (-1), .int 37, .int (-1), .int 38, .int 39, .int 40, .int 41, .int 42, .int 43, .int 44, .int 45, .int 46, .int 47, .int 48, .int 49, .int 50, .int 51, .int 52, .int 53, .int 54, .int 55, .int 56, .int 57, .int 58, .int 59, .int 60, .int 61, .int 62, .int 63, .int (-1), .int (-1), .int (-1), .int (-1), .int (-1)], vm := .none }]
def classes : Array Class := #[k0, k1, k2, k3, k4, k5, k6, k7, k8, k9, k10, k11, k12, k13, k14, k15, k16, k17, k18, k19]
def interned : List (Array UInt16 × Addr) := []
def slotsUsed : Nat := 143
def theMethod : MethodId := ⟨1, 4⟩
def args0 : Array Value := #[.long 5, .long 6, .int 7]
def aboutOver (below : List Frame) : State where
  vm := { classes := classes, interned := interned.toArray }
  heap := heap
  slotsUsed := slotsUsed
  threads := #[{ frames := .invoking theMethod args0 :: below }]
def below0 : List Frame := [.native { method := ⟨0, 0⟩, args := #[] }]
def about1 : State := aboutOver below0
def p0 : Program := .bare "" "" ""
def e0 : Env := launch0.env 0 0 0
theorem w_frames : about1.frames = Frame.invoking theMethod args0 :: below0 := rfl
set_option maxRecDepth 65536 in
theorem w_args : argsFit about1.vm theMethod args0 = true := by decide +kernel
set_option maxRecDepth 65536 in
theorem w_heap : heapFits about1 = true := by decide +kernel
set_option maxRecDepth 65536 in
theorem w_runnable : about1.curStatus? = some .runnable := by decide +kernel
set_option maxRecDepth 65536 in
theorem w_alone : about1.alone = true := by decide +kernel
set_option maxRecDepth 65536 in
theorem w_named : about1.methodNamed? x = some theMethod := by decide +kernel
set_option maxRecDepth 65536 in
theorem w_hears : about1.hears theMethod below0 = true := by decide +kernel
set_option maxRecDepth 65536 in
theorem w_ripe : about1.ripe theMethod args0 below0 = true := by decide +kernel
theorem w_running : about1.status = .running := rfl
set_option maxRecDepth 65536 in
theorem w_room : about1.hasRoom e0.platform room_1 = true :=
  launch0.hasRoom_least _ room_1 (by decide +kernel) (by decide +kernel) (by decide +kernel) (by decide +kernel) (by decide +kernel) (by decide +kernel)
theorem allAtoms_all (ts : List Jvm.Cond) (a : Array Jvm.Value) (st : Jvm.State) : (allAtoms ts).before a st = ts.all (fun c => c.before a st) := by
  induction ts with
  | nil => rfl
  | cons c t ih =>
    show (Jvm.Cond.and c (allAtoms t)).before a st = _
    rw [Jvm.Cond.before_and, ih, List.all_cons]
def words1 : List Jvm.Cond := Jvm.Cond.code x code maxLocals ret :: tables_1
/-- a 'code' word, met by the world's own term for the bytes: nothing is compared byte by byte -/
theorem code_word {y : MethodName} {bytes : ByteArray} {mx : Nat} {rt : Option FieldType} {a : Array Value} {s : State} {m : MethodId} {meth : Method} {c : Code} (h1 : s.methodNamed? y = some m) (h2 : s.vm.method? m = some meth) (h3 : meth.code = some c) (h4 : c.code = bytes)
    (h5 : (c.maxLocals == mx && c.exceptionTable.isEmpty && decide (c.maxStack ≤ mostOperands) && decide (meth.sig.returnType = rt) && !meth.locks && decide (parseMethodDescriptor y.desc = some meth.sig)) = true) : (Jvm.Cond.code y bytes mx rt).before a s = true := by
  simp only [Bool.and_eq_true, beq_iff_eq, Bool.not_eq_true', decide_eq_true_eq] at h5
  obtain ⟨⟨⟨⟨⟨g1, g2⟩, g3⟩, g4⟩, g5⟩, g6⟩ := h5
  simp [Cond.before, Cond.holds, Cond.value, h1, h2, h3, h4, g1, g2, g3, g4, g5, g6]
def isCode : Jvm.Cond → Bool
  | .code _ _ _ _ => true
  | _ => false
theorem all_split {L : List Jvm.Cond} {P : Jvm.Cond → Bool} (h1 : L.all (fun c => isCode c || P c) = true) (h2 : ∀ c ∈ L.filter isCode, P c = true) : L.all P = true := by
  refine List.all_eq_true.mpr fun c hc => ?_
  have h := List.all_eq_true.mp h1 c hc
  rcases Bool.eq_false_or_eq_true (isCode c) with hi | hi
  · exact h2 c (List.mem_filter.mpr ⟨hc, hi⟩)
  · simpa [hi] using h
set_option maxRecDepth 65536 in
theorem w_c0 : (Jvm.Cond.code x code maxLocals ret).before args0 about1 = true := code_word (m := ⟨1, 4⟩) (meth := k1m4) (c := k1c4) (by decide +kernel) rfl rfl rfl (by decide +kernel)
set_option maxRecDepth 65536 in
theorem w_c1 : (Jvm.Cond.code ({ cls := "com/example/vacant_errand/vacanterrand/PackedIdHighPinLaw", name := "six", desc := "(JI)I" } : Jvm.MethodName) method_4_code (3 : Nat) (Option.some Jvm.ClassFile.FieldType.int)).before args0 about1 = true := code_word (m := ⟨1, 3⟩) (meth := k1m3) (c := k1c3) (by decide +kernel) rfl rfl rfl (by decide +kernel)
set_option maxRecDepth 65536 in
theorem w_c2 : (Jvm.Cond.code ({ cls := "com/example/vacant_errand/vacanterrand/PackedIdHighPinLaw", name := "c", desc := "(I)C" } : Jvm.MethodName) method_2_code (1 : Nat) (Option.some Jvm.ClassFile.FieldType.char)).before args0 about1 = true := code_word (m := ⟨1, 1⟩) (meth := k1m1) (c := k1c1) (by decide +kernel) rfl rfl rfl (by decide +kernel)
set_option maxRecDepth 65536 in
theorem w_c3 : (Jvm.Cond.code ({ cls := "com/example/vacant_errand/vacanterrand/PackedIdHighPinLaw", name := "last", desc := "(I)C" } : Jvm.MethodName) method_3_code (1 : Nat) (Option.some Jvm.ClassFile.FieldType.char)).before args0 about1 = true := code_word (m := ⟨1, 2⟩) (meth := k1m2) (c := k1c2) (by decide +kernel) rfl rfl rfl (by decide +kernel)
set_option maxRecDepth 65536 in
theorem w_c4 : (Jvm.Cond.code ({ cls := "java/lang/String", name := "<init>", desc := "([C)V" } : Jvm.MethodName) jdk_42_method_3_code (2 : Nat) (Option.none : Option Jvm.ClassFile.FieldType)).before args0 about1 = true := code_word (m := ⟨7, 1⟩) (meth := k7m1) (c := k7c1) (by decide +kernel) rfl rfl rfl (by decide +kernel)
set_option maxRecDepth 65536 in
theorem w_c5 : (Jvm.Cond.code ({ cls := "java/lang/String", name := "<init>", desc := "([CIILjava/lang/Void;)V" } : Jvm.MethodName) jdk_42_method_149_code (6 : Nat) (Option.none : Option Jvm.ClassFile.FieldType)).before args0 about1 = true := code_word (m := ⟨7, 3⟩) (meth := k7m3) (c := k7c3) (by decide +kernel) rfl rfl rfl (by decide +kernel)
set_option maxRecDepth 65536 in
theorem w_c6 : (Jvm.Cond.code ({ cls := "java/lang/Object", name := "<init>", desc := "()V" } : Jvm.MethodName) object_method_1_code (1 : Nat) (Option.none : Option Jvm.ClassFile.FieldType)).before args0 about1 = true := code_word (m := ⟨0, 0⟩) (meth := k0m0) (c := k0c0) (by decide +kernel) rfl rfl rfl (by decide +kernel)
set_option maxRecDepth 65536 in
theorem w_c7 : (Jvm.Cond.code ({ cls := "java/lang/StringUTF16", name := "compress", desc := "([CII)[B" } : Jvm.MethodName) jdk_52_method_16_code (6 : Nat) (Option.some (Jvm.ClassFile.FieldType.array Jvm.ClassFile.FieldType.byte))).before args0 about1 = true := code_word (m := ⟨8, 2⟩) (meth := k8m2) (c := k8c2) (by decide +kernel) rfl rfl rfl (by decide +kernel)
set_option maxRecDepth 65536 in
theorem w_c8 : (Jvm.Cond.code ({ cls := "java/lang/StringUTF16", name := "compress", desc := "([CI[BII)I" } : Jvm.MethodName) jdk_52_method_21_code (7 : Nat) (Option.some Jvm.ClassFile.FieldType.int)).before args0 about1 = true := code_word (m := ⟨8, 3⟩) (meth := k8m3) (c := k8c3) (by decide +kernel) rfl rfl rfl (by decide +kernel)
set_option maxRecDepth 65536 in
theorem w_c9 : (Jvm.Cond.code ({ cls := "java/lang/StringUTF16", name := "coderFromArrayLen", desc := "([BI)B" } : Jvm.MethodName) jdk_52_method_15_code (2 : Nat) (Option.some Jvm.ClassFile.FieldType.byte)).before args0 about1 = true := code_word (m := ⟨8, 1⟩) (meth := k8m1) (c := k8c1) (by decide +kernel) rfl rfl rfl (by decide +kernel)
set_option maxRecDepth 65536 in
theorem w_c10 : (Jvm.Cond.code ({ cls := "com/example/vacant_errand/vacanterrand/PackedId", name := "high", desc := "(Ljava/lang/String;)J" } : Jvm.MethodName) prog_5_method_3_code (4 : Nat) (Option.some Jvm.ClassFile.FieldType.long)).before args0 about1 = true := code_word (m := ⟨9, 1⟩) (meth := k9m1) (c := k9c1) (by decide +kernel) rfl rfl rfl (by decide +kernel)
set_option maxRecDepth 65536 in
theorem w_c11 : (Jvm.Cond.code ({ cls := "java/lang/String", name := "charAt", desc := "(I)C" } : Jvm.MethodName) jdk_42_method_56_code (2 : Nat) (Option.some Jvm.ClassFile.FieldType.char)).before args0 about1 = true := code_word (m := ⟨7, 2⟩) (meth := k7m2) (c := k7c2) (by decide +kernel) rfl rfl rfl (by decide +kernel)
set_option maxRecDepth 65536 in
theorem w_c12 : (Jvm.Cond.code ({ cls := "java/lang/String", name := "isLatin1", desc := "()Z" } : Jvm.MethodName) jdk_42_method_154_code (1 : Nat) (Option.some Jvm.ClassFile.FieldType.boolean)).before args0 about1 = true := code_word (m := ⟨7, 4⟩) (meth := k7m4) (c := k7c4) (by decide +kernel) rfl rfl rfl (by decide +kernel)
set_option maxRecDepth 65536 in
theorem w_c13 : (Jvm.Cond.code ({ cls := "java/lang/StringLatin1", name := "charAt", desc := "([BI)C" } : Jvm.MethodName) jdk_43_method_2_code (2 : Nat) (Option.some Jvm.ClassFile.FieldType.char)).before args0 about1 = true := code_word (m := ⟨10, 1⟩) (meth := k10m1) (c := k10c1) (by decide +kernel) rfl rfl rfl (by decide +kernel)
set_option maxRecDepth 65536 in
theorem w_c14 : (Jvm.Cond.code ({ cls := "java/lang/String", name := "checkIndex", desc := "(II)V" } : Jvm.MethodName) jdk_42_method_155_code (2 : Nat) (Option.none : Option Jvm.ClassFile.FieldType)).before args0 about1 = true := code_word (m := ⟨7, 5⟩) (meth := k7m5) (c := k7c5) (by decide +kernel) rfl rfl rfl (by decide +kernel)
set_option maxRecDepth 65536 in
theorem w_c15 : (Jvm.Cond.code ({ cls := "jdk/internal/util/Preconditions", name := "checkIndex", desc := "(IILjava/util/function/BiFunction;)I" } : Jvm.MethodName) jdk_41_method_11_code (3 : Nat) (Option.some Jvm.ClassFile.FieldType.int)).before args0 about1 = true := code_word (m := ⟨11, 1⟩) (meth := k11m1) (c := k11c1) (by decide +kernel) rfl rfl rfl (by decide +kernel)
set_option maxRecDepth 65536 in
theorem w_c16 : (Jvm.Cond.code ({ cls := "com/example/vacant_errand/vacanterrand/PackedId", name := "place", desc := "(C)I" } : Jvm.MethodName) prog_5_method_8_code (1 : Nat) (Option.some Jvm.ClassFile.FieldType.int)).before args0 about1 = true := code_word (m := ⟨9, 2⟩) (meth := k9m2) (c := k9c2) (by decide +kernel) rfl rfl rfl (by decide +kernel)
def codes1 : List Jvm.Cond := [Jvm.Cond.code x code maxLocals ret, Jvm.Cond.code ({ cls := "com/example/vacant_errand/vacanterrand/PackedIdHighPinLaw", name := "six", desc := "(JI)I" } : Jvm.MethodName) method_4_code (3 : Nat) (Option.some Jvm.ClassFile.FieldType.int), Jvm.Cond.code ({ cls := "com/example/vacant_errand/vacanterrand/PackedIdHighPinLaw", name := "c", desc := "(I)C" } : Jvm.MethodName) method_2_code (1 : Nat) (Option.some Jvm.ClassFile.FieldType.char), Jvm.Cond.code ({ cls := "com/example/vacant_errand/vacanterrand/PackedIdHighPinLaw", name := "last", desc := "(I)C" } : Jvm.MethodName) method_3_code (1 : Nat) (Option.some Jvm.ClassFile.FieldType.char), Jvm.Cond.code ({ cls := "java/lang/String", name := "<init>", desc := "([C)V" } : Jvm.MethodName) jdk_42_method_3_code (2 : Nat) (Option.none : Option Jvm.ClassFile.FieldType), Jvm.Cond.code ({ cls := "java/lang/String", name := "<init>", desc := "([CIILjava/lang/Void;)V" } : Jvm.MethodName) jdk_42_method_149_code (6 : Nat) (Option.none : Option Jvm.ClassFile.FieldType), Jvm.Cond.code ({ cls := "java/lang/Object", name := "<init>", desc := "()V" } : Jvm.MethodName) object_method_1_code (1 : Nat) (Option.none : Option Jvm.ClassFile.FieldType), Jvm.Cond.code ({ cls := "java/lang/StringUTF16", name := "compress", desc := "([CII)[B" } : Jvm.MethodName) jdk_52_method_16_code (6 : Nat) (Option.some (Jvm.ClassFile.FieldType.array Jvm.ClassFile.FieldType.byte)), Jvm.Cond.code ({ cls := "java/lang/StringUTF16", name := "compress", desc := "([CI[BII)I" } : Jvm.MethodName) jdk_52_method_21_code (7 : Nat) (Option.some Jvm.ClassFile.FieldType.int), Jvm.Cond.code ({ cls := "java/lang/StringUTF16", name := "coderFromArrayLen", desc := "([BI)B" } : Jvm.MethodName) jdk_52_method_15_code (2 : Nat) (Option.some Jvm.ClassFile.FieldType.byte), Jvm.Cond.code ({ cls := "com/example/vacant_errand/vacanterrand/PackedId", name := "high", desc := "(Ljava/lang/String;)J" } : Jvm.MethodName) prog_5_method_3_code (4 : Nat) (Option.some Jvm.ClassFile.FieldType.long), Jvm.Cond.code ({ cls := "java/lang/String", name := "charAt", desc := "(I)C" } : Jvm.MethodName) jdk_42_method_56_code (2 : Nat) (Option.some Jvm.ClassFile.FieldType.char), Jvm.Cond.code ({ cls := "java/lang/String", name := "isLatin1", desc := "()Z" } : Jvm.MethodName) jdk_42_method_154_code (1 : Nat) (Option.some Jvm.ClassFile.FieldType.boolean), Jvm.Cond.code ({ cls := "java/lang/StringLatin1", name := "charAt", desc := "([BI)C" } : Jvm.MethodName) jdk_43_method_2_code (2 : Nat) (Option.some Jvm.ClassFile.FieldType.char), Jvm.Cond.code ({ cls := "java/lang/String", name := "checkIndex", desc := "(II)V" } : Jvm.MethodName) jdk_42_method_155_code (2 : Nat) (Option.none : Option Jvm.ClassFile.FieldType), Jvm.Cond.code ({ cls := "jdk/internal/util/Preconditions", name := "checkIndex", desc := "(IILjava/util/function/BiFunction;)I" } : Jvm.MethodName) jdk_41_method_11_code (3 : Nat) (Option.some Jvm.ClassFile.FieldType.int), Jvm.Cond.code ({ cls := "com/example/vacant_errand/vacanterrand/PackedId", name := "place", desc := "(C)I" } : Jvm.MethodName) prog_5_method_8_code (1 : Nat) (Option.some Jvm.ClassFile.FieldType.int)]
set_option maxRecDepth 65536 in
theorem codes_eq : words1.filter isCode = codes1 := rfl
theorem w_codes : ∀ c ∈ words1.filter isCode, c.before args0 about1 = true := by
  rw [codes_eq]
  intro c hc
  simp only [codes1, List.mem_cons, List.not_mem_nil, or_false] at hc
  rcases hc with rfl | rfl | rfl | rfl | rfl | rfl | rfl | rfl | rfl | rfl | rfl | rfl | rfl | rfl | rfl | rfl | rfl
  · exact w_c0
  · exact w_c1
  · exact w_c2
  · exact w_c3
  · exact w_c4
  · exact w_c5
  · exact w_c6
  · exact w_c7
  · exact w_c8
  · exact w_c9
  · exact w_c10
  · exact w_c11
  · exact w_c12
  · exact w_c13
  · exact w_c14
  · exact w_c15
  · exact w_c16
set_option maxRecDepth 65536 in
theorem w_t1 : (words1.take 24).all (fun c => isCode c || c.before args0 about1) = true := by decide +kernel
set_option maxRecDepth 65536 in
theorem w_t2 : ((words1.drop 24).take 24).all (fun c => isCode c || c.before args0 about1) = true := by decide +kernel
set_option maxRecDepth 65536 in
theorem w_t3 : (((words1.drop 24).drop 24).take 24).all (fun c => isCode c || c.before args0 about1) = true := by decide +kernel
set_option maxRecDepth 65536 in
theorem w_t4 : (((words1.drop 24).drop 24).drop 24).all (fun c => isCode c || c.before args0 about1) = true := by decide +kernel
theorem w_tables : (allAtoms (Jvm.Cond.code x code maxLocals ret :: tables_1)).before args0 about1 = true := by
  rw [allAtoms_all]
  show words1.all (fun c => c.before args0 about1) = true
  refine all_split ?_ w_codes
  rw [← List.take_append_drop 24 words1, List.all_append, w_t1, ← List.take_append_drop 24 (words1.drop 24), List.all_append, w_t2, ← List.take_append_drop 24 ((words1.drop 24).drop 24), List.all_append, w_t3, w_t4]
  rfl
set_option maxRecDepth 65536 in
theorem w_rest : rest_1_c.before args0 about1 = true := by decide +kernel
set_option maxRecDepth 65536 in
theorem w_case : (Jvm.Cond.and given_1 narrow_1).before args0 about1 = true := by decide +kernel
theorem w_applies : (headSpec (Jvm.Cond.code x code maxLocals ret :: tables_1) room_1).applies x e0.platform about1 = true :=
  (Spec.applies_iff w_frames).mpr ⟨w_running, w_runnable, w_alone, w_named, w_hears, w_ripe, w_room, w_tables⟩
theorem atStart : AtStart classFile x code maxLocals ret World_1 tables_1 room_1 Calls_1 rest_1 Pre_1 launch0 p0 e0 about1 theMethod args0 below0 :=
  ⟨lists_1, trivial, launch0.admits_env _ _ _, launch0.least_env, fairChoices_fair.cas, fairChoices_fair.clock, w_frames, w_args, w_heap, w_applies, trivial, w_rest, w_case⟩
end start1
theorem witness_1 : WitnessClaimed_1 := ⟨start1.p0, start1.e0, start1.about1, start1.theMethod, start1.args0, start1.below0, start1.atStart⟩
end Jvm.Pilot.@@N@@
