import JvmDerived
import JvmDerived.Pilot.@@N@@Statement
import JvmDerived.Pilot.@@N@@Code
set_option linter.unusedVariables false
set_option linter.unusedSimpArgs false
/- laws to paste: Road.backV (cut by pick.py; bodies as the Statement names them) -/
namespace Jvm.Pilot.@@N@@
namespace StrChars
open Jvm Sem ClassFile Op Lib Jvm.Stand Jvm.Free.XT Jvm.Free.ALB Jvm.Free.JM Jvm.Free
open Jvm.Lib.Cold (StaticIs)
/-- a char array whose places are chars -/
def Ch (a : Addr) (A : Cell) (U : State) : Prop := Arr .char a A U ∧ Typed .char A
theorem Ch.mv {a : Addr} {A : Cell} {U U' : State} (h : Ch a A U) (hal : U.vm.Alike U'.vm) (hh : U'.heap = U.heap) : Ch a A U' := ⟨h.1.mv hal hh, h.2⟩
theorem Ch.keep {a : Addr} {A : Cell} {U U' : State} (h : Ch a A U) (hal : U.vm.Alike U'.vm) (hk : U'.heap[a]? = some A) : Ch a A U' := ⟨h.1.keep hal hk, h.2⟩
/-- what place i of a char[]'s cell holds -/
def cv (A : Cell) (i : Nat) : Int32 := match A.slots[i]? with | some (.int x) => x | _ => 0
theorem Ch.get {a : Addr} {A : Cell} {U : State} (h : Ch a A U) {i : Nat} (hi : i < A.slots.size) : A.slots[i]? = some (.int (cv A i)) := by
  have e := Array.getElem?_eq_getElem hi
  have f := h.2 i _ e
  unfold cv; rw [e]
  generalize A.slots[i] = v at f
  cases v <;> simp [fits] at f ⊢
/-- the byte that i2b leaves of a char -/
def lo8 (x : Int32) : Int32 := x.toInt8.toInt32
theorem fits_lo8 (y : Int32) : fits .byte (.int (lo8 y)) = true := by
  have h1 := y.toInt8.le_toInt
  have h2 := y.toInt8.toInt_lt
  simp only [lo8, fits, Bool.and_eq_true, decide_eq_true_eq, Int32.le_iff_toInt_le, Int8.toInt_toInt32, show (-128 : Int32).toInt = -128 from by decide, show (127 : Int32).toInt = 127 from by decide]
  omega
/-- A' is A but that each place j of lo .. hi - 1 holds f j -/
def Laid (A A' : Cell) (lo hi : Nat) (f : Nat → Value) : Prop := A'.cls = A.cls ∧ A'.vm = A.vm ∧ A'.slots.size = A.slots.size ∧ ∀ i, A'.slots[i]? = if lo ≤ i ∧ i < hi then some (f i) else A.slots[i]?
theorem Laid.zero (A : Cell) (lo : Nat) (f : Nat → Value) : Laid A A lo (lo + 0) f := ⟨rfl, rfl, rfl, fun i => by rw [if_neg (by omega)]⟩
theorem Laid.step {A Ak : Cell} {lo k : Nat} {f : Nat → Value} {v : Value} (h : Laid A Ak lo k f) (hlo : lo ≤ k) (hk : k < Ak.slots.size) (hv : v = f k) : Laid A (Ak.setSlot k v) lo (k + 1) f := by
  refine ⟨h.1, h.2.1, by simpa [Cell.setSlot] using h.2.2.1, fun i => ?_⟩
  by_cases e : k = i
  · subst e; rw [Cell.slots_setSlot_self v hk, if_pos (by omega), hv]
  · rw [Cell.slots_setSlot_ne v e, h.2.2.2 i]
    by_cases q : lo ≤ i ∧ i < k
    · rw [if_pos q, if_pos (by omega)]
    · rw [if_neg q, if_neg (by omega)]
def U16 : String := "java/lang/StringUTF16"
namespace Cmp5
def yN : MethodName := ⟨"java/lang/StringUTF16", "compress", "([CI[BII)I"⟩
abbrev yB : ByteArray := jdk_52_method_21_code
theorem d0 : decode yB 0 = .ok (.iconst 0, 1) := by decide +kernel
theorem d1 : decode yB 1 = .ok (.istore 5, 2) := by decide +kernel
theorem d3 : decode yB 3 = .ok (.iload 5, 2) := by decide +kernel
theorem d5 : decode yB 5 = .ok (.iload 4, 2) := by decide +kernel
theorem d7 : decode yB 7 = .ok (.if_icmp (.ge) 37, 3) := by decide +kernel
theorem d10 : decode yB 10 = .ok (.aload_n 0, 1) := by decide +kernel
theorem d11 : decode yB 11 = .ok (.iload_n 1, 1) := by decide +kernel
theorem d12 : decode yB 12 = .ok (.caload, 1) := by decide +kernel
theorem d13 : decode yB 13 = .ok (.istore 6, 2) := by decide +kernel
theorem d15 : decode yB 15 = .ok (.iload 6, 2) := by decide +kernel
theorem d17 : decode yB 17 = .ok (.sipush 255, 3) := by decide +kernel
theorem d20 : decode yB 20 = .ok (.if_icmp (.le) 6, 3) := by decide +kernel
theorem d26 : decode yB 26 = .ok (.aload_n 2, 1) := by decide +kernel
theorem d27 : decode yB 27 = .ok (.iload_n 3, 1) := by decide +kernel
theorem d28 : decode yB 28 = .ok (.iload 6, 2) := by decide +kernel
theorem d30 : decode yB 30 = .ok (.i2b, 1) := by decide +kernel
theorem d31 : decode yB 31 = .ok (.bastore, 1) := by decide +kernel
theorem d32 : decode yB 32 = .ok (.iinc 1 1, 3) := by decide +kernel
theorem d35 : decode yB 35 = .ok (.iinc 3 1, 3) := by decide +kernel
theorem d38 : decode yB 38 = .ok (.iinc 5 1, 3) := by decide +kernel
theorem d41 : decode yB 41 = .ok (.goto (-38), 3) := by decide +kernel
theorem d44 : decode yB 44 = .ok (.iload 4, 2) := by decide +kernel
theorem d46 : decode yB 46 = .ok (.ireturn, 1) := by decide +kernel
def site : List Cond := []
def tab : Cond := tabOf yN yB 7 (some .int) site
def P (b : Addr) (A : Cell) (d : Addr) (B : Cell) (o q len : Nat) (args : Array Value) (s : State) : Prop := args = #[.ref b, .int (Int32.ofNat o), .ref d, .int (Int32.ofNat q), .int (Int32.ofNat len)] ∧ Ch b A s ∧ Arr .byte d B s ∧ b ≠ d ∧ o + len ≤ A.slots.size ∧ q + len ≤ B.slots.size ∧ ∀ i, i < len → ¬ 255 < cv A (o + i)
def E (b : Addr) (A : Cell) (d : Addr) (B : Cell) (o q len : Nat) (r : Option Value) (s u : State) : Prop := r = some (.int (Int32.ofNat len)) ∧ ∃ B', Put d B' s u ∧ Laid B B' q (q + len) (fun j => Value.int (lo8 (cv A (o + (j - q)))))
/-- no char of the range above 255: len; the places written hold each char's low byte -/
theorem law (l : Launch) (b : Addr) (A : Cell) (d : Addr) (B : Cell) (o q len : Nat) : Law l yN 5 5 0 0 yB 7 (some .int) site (P b A d B o q len) (E b A d B o q len) (copyLocs d q len) 0 0 := by
  refine Law.of_walk (plainFor_of_name (by decide +kernel)) (by decide +kernel) (by decide +kernel) (by decide) (fun _ _ h => by rw [h.1]; rfl) (fun _ U U' hal hh h => ⟨h.1, h.2.1.mv hal hh, h.2.2.1.mv hal hh, h.2.2.2⟩) (fun r U U' V V' h1 hal h2 h => ⟨h.1, h.2.elim fun B' q => ⟨B', q.1.mv h1 h2, q.2⟩⟩) ?_
  intro p e s m args below meth c s₁ X0 hexec hbytes hml hret hlk hnm hown hh0 W hP
  obtain ⟨rfl, hA, hB, hne, l1, l2, hp⟩ := hP
  have c1 : Steps p.tables e below (s₁.setTop (entryFrame m #[.ref b, .int (Int32.ofNat o), .ref d, .int (Int32.ofNat q), .int (Int32.ofNat len)] 7)) (s₁.setTop (mkF m 0 #[.val (.ref b), .val (.int (Int32.ofNat o)), .val (.ref d), .val (.int (Int32.ofNat q)), .val (.int (Int32.ofNat len)), .unset, .unset] [])) := entry rfl
  have hA0 := hA.1.mv X0.warmed.alike hh0
  have hB0 := hB.mv X0.warmed.alike hh0
  have a31 := hA.1.2.2.2
  have c2 : Steps p.tables e below (s₁.setTop (entryFrame m #[.ref b, .int (Int32.ofNat o), .ref d, .int (Int32.ofNat q), .int (Int32.ofNat len)] 7)) (s₁.setTop (mkF m 3 #[.val (.ref b), .val (.int (Int32.ofNat o)), .val (.ref d), .val (.int (Int32.ofNat q)), .val (.int (Int32.ofNat len)), .val (.int 0), .unset] [])) := c1.trans (by
    refine iconstV X0.here hexec rfl 0 (hb hbytes d0) (by decide) ?_
    refine XS.istore X0.here hexec rfl (hb hbytes d1) rfl rfl ?_
    exact Steps.refl _)
  have loop : ∀ (r i : Nat), i + r = len → ∀ (z : Slot), (z = .unset ∨ ∃ w, z = .val w ∧ w.category = 1) → ∀ (Tl : State) (Bk : Cell), Stand p l e { frames := 0, locals := 0, cells := 0, slots := 0 } s m #[.ref b, .int (Int32.ofNat o), .ref d, .int (Int32.ofNat q), .int (Int32.ofNat len)] below meth c Tl ([] ++ copyLocs d q i) 0 0 → Put d Bk s₁ Tl → Laid B Bk q (q + i) (fun j => Value.int (lo8 (cv A (o + (j - q))))) →
      Steps p.tables e below (s₁.setTop (entryFrame m #[.ref b, .int (Int32.ofNat o), .ref d, .int (Int32.ofNat q), .int (Int32.ofNat len)] 7)) (Tl.setTop (mkF m 3 #[.val (.ref b), .val (.int (Int32.ofNat (o + i))), .val (.ref d), .val (.int (Int32.ofNat (q + i))), .val (.int (Int32.ofNat len)), .val (.int (Int32.ofNat i)), z] [])) → ∃ (T' : State) (B' : Cell) (z' : Slot), Stand p l e { frames := 0, locals := 0, cells := 0, slots := 0 } s m #[.ref b, .int (Int32.ofNat o), .ref d, .int (Int32.ofNat q), .int (Int32.ofNat len)] below meth c T' ([] ++ copyLocs d q len) 0 0 ∧ Put d B' s₁ T' ∧ Laid B B' q (q + len) (fun j => Value.int (lo8 (cv A (o + (j - q))))) ∧
      Steps p.tables e below (s₁.setTop (entryFrame m #[.ref b, .int (Int32.ofNat o), .ref d, .int (Int32.ofNat q), .int (Int32.ofNat len)] 7)) (T'.setTop (mkF m 3 #[.val (.ref b), .val (.int (Int32.ofNat (o + len))), .val (.ref d), .val (.int (Int32.ofNat (q + len))), .val (.int (Int32.ofNat len)), .val (.int (Int32.ofNat len)), z'] [])) := by
    intro r
    induction r with
    | zero =>
      intro i hi z hz Tl Bk Xl pl fl cl
      have hil : i = len := by omega
      rw [hil] at Xl fl cl
      exact ⟨Tl, Bk, z, Xl, pl, fl, cl⟩
    | succ r ih =>
      intro i hi z hz Tl Bk Xl pl fl cl
      have all := X0.warmed.alike.symm.trans Xl.warmed.alike
      have hAl := hA0.keep all (pl.other hne hA0.1)
      have hBk := hB0.like all pl.1 fl.1 fl.2.1 fl.2.2.1
      have hlt : q + i < Bk.slots.size := by rw [fl.2.2.1]; omega
      have c3 : Steps p.tables e below (s₁.setTop (entryFrame m #[.ref b, .int (Int32.ofNat o), .ref d, .int (Int32.ofNat q), .int (Int32.ofNat len)] 7)) (Tl.setTop (mkF m 12 #[.val (.ref b), .val (.int (Int32.ofNat (o + i))), .val (.ref d), .val (.int (Int32.ofNat (q + i))), .val (.int (Int32.ofNat len)), .val (.int (Int32.ofNat i)), z] [.int (Int32.ofNat (o + i)), .ref b])) := cl.trans (by
        refine XS.iload Xl.here hexec rfl (hb hbytes d3) rfl ?_
        refine XS.iload Xl.here hexec rfl (hb hbytes d5) rfl ?_
        refine XS.icmpNo Xl.here hexec rfl (hb hbytes d7) rfl (ii_ge_f (lt32 (by omega) (by omega))) ?_
        refine XS.aloadN Xl.here hexec rfl (hb hbytes d10) rfl rfl ?_
        refine XS.iloadN Xl.here hexec rfl (hb hbytes d11) rfl ?_
        exact Steps.refl _)
      have c4 : Steps p.tables e below (s₁.setTop (entryFrame m #[.ref b, .int (Int32.ofNat o), .ref d, .int (Int32.ofNat q), .int (Int32.ofNat len)] 7)) (Tl.setTop (mkF m 13 #[.val (.ref b), .val (.int (Int32.ofNat (o + i))), .val (.ref d), .val (.int (Int32.ofNat (q + i))), .val (.int (Int32.ofNat len)), .val (.int (Int32.ofNat i)), z] [.int (cv A (o + i))])) := c3.trans (by
        refine Xl.aget hexec hAl rfl (hA.get (i := o + i) (by omega)) rfl rfl (hb hbytes d12) ?_
        exact Steps.refl _)
      have c5 : Steps p.tables e below (s₁.setTop (entryFrame m #[.ref b, .int (Int32.ofNat o), .ref d, .int (Int32.ofNat q), .int (Int32.ofNat len)] 7)) (Tl.setTop (mkF m 15 #[.val (.ref b), .val (.int (Int32.ofNat (o + i))), .val (.ref d), .val (.int (Int32.ofNat (q + i))), .val (.int (Int32.ofNat len)), .val (.int (Int32.ofNat i)), .val (.int (cv A (o + i)))] [])) := c4.trans (by
        refine XS.istoreS Xl.here hexec rfl (hb hbytes d13) rfl rfl hz ?_
        exact Steps.refl _)
      have c6 : Steps p.tables e below (s₁.setTop (entryFrame m #[.ref b, .int (Int32.ofNat o), .ref d, .int (Int32.ofNat q), .int (Int32.ofNat len)] 7)) (Tl.setTop (mkF m 31 #[.val (.ref b), .val (.int (Int32.ofNat (o + i))), .val (.ref d), .val (.int (Int32.ofNat (q + i))), .val (.int (Int32.ofNat len)), .val (.int (Int32.ofNat i)), .val (.int (cv A (o + i)))] [.int (lo8 (cv A (o + i))), .int (Int32.ofNat (q + i)), .ref d])) := c5.trans (by
        refine XS.iload Xl.here hexec rfl (hb hbytes d15) rfl ?_
        refine sipushV Xl.here hexec rfl 255 (hb hbytes d17) (by decide) ?_
        refine XS.icmpYes Xl.here hexec rfl (pc0 := 20) rfl (hb hbytes d20) rfl (ii_le_t (hp i (by omega))) (by decide) rfl ?_
        refine XS.aloadN Xl.here hexec rfl (hb hbytes d26) rfl rfl ?_
        refine XS.iloadN Xl.here hexec rfl (hb hbytes d27) rfl ?_
        refine XS.iload Xl.here hexec rfl (hb hbytes d28) rfl ?_
        refine i2b Xl.here hexec rfl (hb hbytes d30) rfl ?_
        exact Steps.refl _)
      obtain ⟨T7, X7, p7, st7⟩ := Xl.aput hexec hBk rfl hlt rfl (fits_lo8 (cv A (o + i))) (g := (mkF m 31 #[.val (.ref b), .val (.int (Int32.ofNat (o + i))), .val (.ref d), .val (.int (Int32.ofNat (q + i))), .val (.int (Int32.ofNat len)), .val (.int (Int32.ofNat i)), .val (.int (cv A (o + i)))] [.int (lo8 (cv A (o + i))), .int (Int32.ofNat (q + i)), .ref d])) rfl (rest := []) rfl (hb hbytes d31)
      have c8 : Steps p.tables e below (s₁.setTop (entryFrame m #[.ref b, .int (Int32.ofNat o), .ref d, .int (Int32.ofNat q), .int (Int32.ofNat len)] 7)) (T7.setTop (mkF m 32 #[.val (.ref b), .val (.int (Int32.ofNat (o + i))), .val (.ref d), .val (.int (Int32.ofNat (q + i))), .val (.int (Int32.ofNat len)), .val (.int (Int32.ofNat i)), .val (.int (cv A (o + i)))] [])) := c6.trans (st7 _ (Steps.refl _))
      have c9 : Steps p.tables e below (s₁.setTop (entryFrame m #[.ref b, .int (Int32.ofNat o), .ref d, .int (Int32.ofNat q), .int (Int32.ofNat len)] 7)) (T7.setTop (mkF m 3 #[.val (.ref b), .val (.int (Int32.ofNat (o + i) + 1)), .val (.ref d), .val (.int (Int32.ofNat (q + i) + 1)), .val (.int (Int32.ofNat len)), .val (.int (Int32.ofNat i + 1)), .val (.int (cv A (o + i)))] [])) := c8.trans (by
        refine iincV X7.here hexec rfl 1 (hb hbytes d32) (by decide) rfl rfl ?_
        refine iincV X7.here hexec rfl 1 (hb hbytes d35) (by decide) rfl rfl ?_
        refine iincV X7.here hexec rfl 1 (hb hbytes d38) (by decide) rfl rfl ?_
        refine XS.goto X7.here hexec rfl (pc0 := 41) rfl (hb hbytes d41) (by decide) rfl ?_
        exact Steps.refl _)
      have c10 : Steps p.tables e below (s₁.setTop (entryFrame m #[.ref b, .int (Int32.ofNat o), .ref d, .int (Int32.ofNat q), .int (Int32.ofNat len)] 7)) (T7.setTop (mkF m 3 #[.val (.ref b), .val (.int (Int32.ofNat (o + (i + 1)))), .val (.ref d), .val (.int (Int32.ofNat (q + (i + 1)))), .val (.int (Int32.ofNat len)), .val (.int (Int32.ofNat (i + 1))), .val (.int (cv A (o + i)))] [])) := by
        have := c9
        rw [succ32, succ32, succ32] at this
        exact this
      exact ih (i + 1) (by omega) _ (Or.inr ⟨_, rfl, rfl⟩) T7 _ (by rw [copyLocs_step, ← List.append_assoc]; exact X7) (pl.trans p7) (fl.step (by omega) hlt (by simp)) c10
  obtain ⟨T9, B9, z9, X9, p9, f9, g9⟩ := loop len 0 (by omega) .unset (Or.inl rfl) s₁ B (by simpa [copyLocs] using X0) ⟨hB0.1, fun _ _ => rfl, rfl⟩ (Laid.zero _ _ _) c2
  have c11 : Steps p.tables e below (s₁.setTop (entryFrame m #[.ref b, .int (Int32.ofNat o), .ref d, .int (Int32.ofNat q), .int (Int32.ofNat len)] 7)) (T9.setTop (mkF m 46 #[.val (.ref b), .val (.int (Int32.ofNat (o + len))), .val (.ref d), .val (.int (Int32.ofNat (q + len))), .val (.int (Int32.ofNat len)), .val (.int (Int32.ofNat len)), z9] [.int (Int32.ofNat len)])) := g9.trans (by
    refine XS.iload X9.here hexec rfl (hb hbytes d3) rfl ?_
    refine XS.iload X9.here hexec rfl (hb hbytes d5) rfl ?_
    refine XS.icmpYes X9.here hexec rfl (pc0 := 7) rfl (hb hbytes d7) rfl (ii_ge_t (nlt32 (by omega) (Nat.le_refl _))) (by decide) rfl ?_
    refine XS.iload X9.here hexec rfl (hb hbytes d44) rfl ?_
    exact Steps.refl _)
  exact ⟨T9, some (.int (Int32.ofNat len)), _, _, _, X9, by simp, rfl, rfl, (fun h => by cases h), ⟨rfl, B9, p9.from hh0, f9⟩, fun fs hl => c11.trans (X9.ireturnOut hexec hret rfl (Or.inl rfl) (hb hbytes d46) hl)⟩
end Cmp5
namespace Cmp3
def yN : MethodName := ⟨"java/lang/StringUTF16", "compress", "([CII)[B"⟩
abbrev yB : ByteArray := jdk_52_method_16_code
theorem d0 : decode yB 0 = .ok (.iload_n 2, 1) := by decide +kernel
theorem d1 : decode yB 1 = .ok (.newarray .byte, 2) := by decide +kernel
theorem d3 : decode yB 3 = .ok (.astore_n 3, 1) := by decide +kernel
theorem d4 : decode yB 4 = .ok (.aload_n 0, 1) := by decide +kernel
theorem d5 : decode yB 5 = .ok (.iload_n 1, 1) := by decide +kernel
theorem d6 : decode yB 6 = .ok (.aload_n 3, 1) := by decide +kernel
theorem d7 : decode yB 7 = .ok (.iconst 0, 1) := by decide +kernel
theorem d8 : decode yB 8 = .ok (.iload_n 2, 1) := by decide +kernel
theorem d9 : decode yB 9 = .ok (.invokestatic 115, 3) := by decide +kernel
theorem d12 : decode yB 12 = .ok (.istore 4, 2) := by decide +kernel
theorem d14 : decode yB 14 = .ok (.iload 4, 2) := by decide +kernel
theorem d16 : decode yB 16 = .ok (.iload_n 2, 1) := by decide +kernel
theorem d17 : decode yB 17 = .ok (.if_icmp (.eq) 40, 3) := by decide +kernel
theorem d57 : decode yB 57 = .ok (.aload_n 3, 1) := by decide +kernel
theorem d58 : decode yB 58 = .ok (.areturn, 1) := by decide +kernel
def site : List Cond := [.arrayClass .byte, Cmp5.tab] ++ staticW U16 115 Cmp5.yN
def tab : Cond := tabOf yN yB 6 (some (.array .byte)) site
def P (b : Addr) (A : Cell) (o len : Nat) (args : Array Value) (s : State) : Prop := args = #[.ref b, .int (Int32.ofNat o), .int (Int32.ofNat len)] ∧ Ch b A s ∧ o + len ≤ A.slots.size ∧ len ≤ 536870912 ∧ ∀ i, i < len → ¬ 255 < cv A (o + i)
def E (b : Addr) (A : Cell) (o len : Nat) (r : Option Value) (s u : State) : Prop := NewArr .byte "[B" len (fun j => .int (lo8 (cv A (o + j)))) r s u ∧ u.heap.size = s.heap.size + 1
/-- no char of the range above 255: a new byte[] of their low bytes -/
theorem law (l : Launch) (b : Addr) (A : Cell) (o len : Nat) : Law l yN 3 3 1 18 yB 6 (some (.array .byte)) site (P b A o len) (E b A o len) [] 1 len := by
  refine Law.of_walk (plainFor_of_name (by decide +kernel)) (by decide +kernel) (by decide +kernel) (by decide) (fun _ _ h => by rw [h.1]; rfl) (fun _ U U' hal hh h => ⟨h.1, h.2.1.mv hal hh, h.2.2⟩) (fun r U U' V V' h1 hal h2 h => ⟨NewArr.mv r U U' V V' h1 hal h2 h.1, by rw [h1, h2]; exact h.2⟩) ?_
  intro p e s m args below meth c s₁ X0 hexec hbytes hml hret hlk hnm hown hh0 W hP
  obtain ⟨rfl, hA, l1, l2, hp⟩ := hP
  have a31 := hA.1.2.2.2
  have c1 : Steps p.tables e below (s₁.setTop (entryFrame m #[.ref b, .int (Int32.ofNat o), .int (Int32.ofNat len)] 6)) (s₁.setTop (mkF m 0 #[.val (.ref b), .val (.int (Int32.ofNat o)), .val (.int (Int32.ofNat len)), .unset, .unset, .unset] [])) := entry rfl
  have c2 : Steps p.tables e below (s₁.setTop (entryFrame m #[.ref b, .int (Int32.ofNat o), .int (Int32.ofNat len)] 6)) (s₁.setTop (mkF m 1 #[.val (.ref b), .val (.int (Int32.ofNat o)), .val (.int (Int32.ofNat len)), .unset, .unset, .unset] [.int (Int32.ofNat len)])) := c1.trans (by
    refine XS.iloadN X0.here hexec rfl (hb hbytes d0) rfl ?_
    exact Steps.refl _)
  obtain ⟨T3, B3, X3, ba3, bs3, bv3, bh3, bf3, st3⟩ := X0.anew hexec (atype := .byte) (wk W (.arrayClass .byte)) rfl (by show len * 1 ≤ _; omega) (by omega) (g := (mkF m 1 #[.val (.ref b), .val (.int (Int32.ofNat o)), .val (.int (Int32.ofNat len)), .unset, .unset, .unset] [.int (Int32.ofNat len)])) rfl (hb hbytes d1) (rest := []) rfl (Nat.le_refl _) (by show 0 + len ≤ len; omega)
  rw [hh0] at ba3 st3
  have kp3 : XT.Kept s T3 := (XT.Kept.of_eq hh0).push bh3
  have hA3 := hA.keep X3.warmed.alike (kp3 _ _ hA.1.1)
  have hne : b ≠ s.heap.size := hA.1.ne
  have c4 : Steps p.tables e below (s₁.setTop (entryFrame m #[.ref b, .int (Int32.ofNat o), .int (Int32.ofNat len)] 6)) (T3.setTop (mkF m 3 #[.val (.ref b), .val (.int (Int32.ofNat o)), .val (.int (Int32.ofNat len)), .unset, .unset, .unset] [.ref s.heap.size])) := c2.trans (st3 _ (Steps.refl _))
  have c5 : Steps p.tables e below (s₁.setTop (entryFrame m #[.ref b, .int (Int32.ofNat o), .int (Int32.ofNat len)] 6)) (T3.setTop (mkF m 9 #[.val (.ref b), .val (.int (Int32.ofNat o)), .val (.int (Int32.ofNat len)), .val (.ref s.heap.size), .unset, .unset] [.int (Int32.ofNat len), .int 0, .ref s.heap.size, .int (Int32.ofNat o), .ref b])) := c4.trans (by
    refine XS.astoreN X3.here hexec rfl (hb hbytes d3) rfl rfl rfl ?_
    refine XS.aloadN X3.here hexec rfl (hb hbytes d4) rfl rfl ?_
    refine XS.iloadN X3.here hexec rfl (hb hbytes d5) rfl ?_
    refine XS.aloadN X3.here hexec rfl (hb hbytes d6) rfl rfl ?_
    refine iconstV X3.here hexec rfl 0 (hb hbytes d7) (by decide) ?_
    refine XS.iloadN X3.here hexec rfl (hb hbytes d8) rfl ?_
    exact Steps.refl _)
  obtain ⟨v6, T6, X6, E6, g6⟩ := X3.callS hexec (Cmp5.law l b A s.heap.size B3 o 0 len) hown (wks W (staticW U16 115 Cmp5.yN)) (wk W Cmp5.tab) (W := 0) (Nat.le_of_ble_eq_true rfl) (Nat.le_of_ble_eq_true rfl) (Nat.le_refl _) (by show 0 + len + 0 ≤ len; omega) (g := (mkF m 9 #[.val (.ref b), .val (.int (Int32.ofNat o)), .val (.int (Int32.ofNat len)), .val (.ref s.heap.size), .unset, .unset] [.int (Int32.ofNat len), .int (Int32.ofNat 0), .ref s.heap.size, .int (Int32.ofNat o), .ref b])) rfl (by rw [hml]; rfl) c5 (argsL := [.ref b, .int (Int32.ofNat o), .ref s.heap.size, .int (Int32.ofNat 0), .int (Int32.ofNat len)]) (rest := []) rfl rfl (by show 2 * 0 + 0 ≤ _; decide) (hb hbytes d9) (⟨rfl, hA3, ba3, hne, l1, by rw [bs3]; simp, hp⟩)
  obtain ⟨rfl, B6, p6, f6⟩ := E6
  have c7 : Steps p.tables e below (s₁.setTop (entryFrame m #[.ref b, .int (Int32.ofNat o), .int (Int32.ofNat len)] 6)) (T6.setTop (mkF m 12 #[.val (.ref b), .val (.int (Int32.ofNat o)), .val (.int (Int32.ofNat len)), .val (.ref s.heap.size), .unset, .unset] [.int (Int32.ofNat len)])) := g6
  have c8 : Steps p.tables e below (s₁.setTop (entryFrame m #[.ref b, .int (Int32.ofNat o), .int (Int32.ofNat len)] 6)) (T6.setTop (mkF m 58 #[.val (.ref b), .val (.int (Int32.ofNat o)), .val (.int (Int32.ofNat len)), .val (.ref s.heap.size), .val (.int (Int32.ofNat len)), .unset] [.ref s.heap.size])) := c7.trans (by
    refine XS.istore X6.here hexec rfl (hb hbytes d12) rfl rfl ?_
    refine XS.iload X6.here hexec rfl (hb hbytes d14) rfl ?_
    refine XS.iloadN X6.here hexec rfl (hb hbytes d16) rfl ?_
    refine XS.icmpYes X6.here hexec rfl (pc0 := 17) rfl (hb hbytes d17) rfl (ii_eq_t rfl) (by decide) rfl ?_
    refine XS.aloadN X6.here hexec rfl (hb hbytes d57) rfl rfl ?_
    exact Steps.refl _)
  have X8 := X6.wide (L' := []) (cells' := 1) (slots' := len) (fun x hx hlt => by
    simp only [List.nil_append, copyLocs, List.mem_map, List.mem_range] at hx
    obtain ⟨i, -, rfl⟩ := hx
    exact absurd hlt (Nat.lt_irrefl _)) (Nat.le_refl _) (by omega)
  exact ⟨T6, some (.ref s.heap.size), _, _, _, X8, rfl, rfl, rfl, (fun h => by cases h), ⟨⟨rfl, B6, ba3.like (X3.warmed.alike.symm.trans X6.warmed.alike) p6.1 f6.1 f6.2.1 f6.2.2.1, f6.2.1.trans bv3, by rw [X6.warmed.alike.findClass, f6.1]; exact bf3, by rw [f6.2.2.1, bs3]; simp, fun j hj => by rw [f6.2.2.2 j, if_pos (by omega)]; rfl, kp3.put p6 (Nat.le_refl _)⟩, by rw [p6.2.2, bh3, hh0]; simp⟩, fun fs hl => c8.trans (X8.areturnOut hexec rfl hret rfl (hb hbytes d58) hl)⟩
end Cmp3
namespace CodL
def yN : MethodName := ⟨"java/lang/StringUTF16", "coderFromArrayLen", "([BI)B"⟩
abbrev yB : ByteArray := jdk_52_method_15_code
theorem d0 : decode yB 0 = .ok (.iload_n 1, 1) := by decide +kernel
theorem d1 : decode yB 1 = .ok (.aload_n 0, 1) := by decide +kernel
theorem d2 : decode yB 2 = .ok (.arraylength, 1) := by decide +kernel
theorem d3 : decode yB 3 = .ok (.isub, 1) := by decide +kernel
theorem d4 : decode yB 4 = .ok (.bipush 31, 2) := by decide +kernel
theorem d6 : decode yB 6 = .ok (.iushr, 1) := by decide +kernel
theorem d7 : decode yB 7 = .ok (.i2b, 1) := by decide +kernel
theorem d8 : decode yB 8 = .ok (.ireturn, 1) := by decide +kernel
def site : List Cond := []
def tab : Cond := tabOf yN yB 2 (some .byte) site
def P (d : Addr) (B : Cell) (args : Array Value) (s : State) : Prop := args = #[.ref d, .int (Int32.ofNat B.slots.size)] ∧ Arr .byte d B s
def E (r : Option Value) (s u : State) : Prop := XT.PureE (some (.int 0)) r s u
/-- an array as long as the number of chars: LATIN1 -/
theorem law (l : Launch) (d : Addr) (B : Cell) : Law l yN 2 2 0 0 yB 2 (some .byte) site (P d B) E [] 0 0 := by
  refine Law.of_walk (plainFor_of_name (by decide +kernel)) (by decide +kernel) (by decide +kernel) (by decide) (fun _ _ h => by rw [h.1]; rfl) (fun _ U U' hal hh h => ⟨h.1, h.2.mv hal hh⟩) (fun r U U' V V' h1 hal h2 h => XT.PureE.mv r U U' V V' h1 hal h2 h) ?_
  intro p e s m args below meth c s₁ X0 hexec hbytes hml hret hlk hnm hown hh0 W hP
  obtain ⟨rfl, hB⟩ := hP
  have hB0 := hB.mv X0.warmed.alike hh0
  have c1 : Steps p.tables e below (s₁.setTop (entryFrame m #[.ref d, .int (Int32.ofNat B.slots.size)] 2)) (s₁.setTop (mkF m 0 #[.val (.ref d), .val (.int (Int32.ofNat B.slots.size))] [])) := entry rfl
  have c2 : Steps p.tables e below (s₁.setTop (entryFrame m #[.ref d, .int (Int32.ofNat B.slots.size)] 2)) (s₁.setTop (mkF m 2 #[.val (.ref d), .val (.int (Int32.ofNat B.slots.size))] [.ref d, .int (Int32.ofNat B.slots.size)])) := c1.trans (by
    refine XS.iloadN X0.here hexec rfl (hb hbytes d0) rfl ?_
    refine XS.aloadN X0.here hexec rfl (hb hbytes d1) rfl rfl ?_
    exact Steps.refl _)
  have c3 : Steps p.tables e below (s₁.setTop (entryFrame m #[.ref d, .int (Int32.ofNat B.slots.size)] 2)) (s₁.setTop (mkF m 8 #[.val (.ref d), .val (.int (Int32.ofNat B.slots.size))] [.int (lo8 (ushr (Int32.ofNat B.slots.size - Int32.ofNat B.slots.size) 31))])) := c2.trans (by
    refine X0.alen hexec hB0 rfl rfl (hb hbytes d2) ?_
    refine XS.isub X0.here hexec rfl (hb hbytes d3) rfl ?_
    refine bipushV X0.here hexec rfl 31 (hb hbytes d4) (by decide) ?_
    refine iushr X0.here hexec rfl (hb hbytes d6) rfl ?_
    refine i2b X0.here hexec rfl (hb hbytes d7) rfl ?_
    exact Steps.refl _)
  have e0 : lo8 (ushr (Int32.ofNat B.slots.size - Int32.ofNat B.slots.size) 31) = 0 := by rw [Int32.sub_self]; decide
  rw [e0] at c3
  exact ⟨s₁, some (.int 0), _, _, _, X0, rfl, rfl, rfl, (fun h => by cases h), ⟨rfl, hh0⟩, fun fs hl => c3.trans (X0.ireturnOut hexec hret rfl (Or.inr (Or.inr (Or.inl rfl))) (hb hbytes d8) hl)⟩
end CodL
/-- the String at a is Latin-1 over a new byte[] (the heap's one new cell): the low bytes of the len chars of A from o on; every cell but a is kept -/
def Got (a : Addr) (D : Cell) (fV fC : Field) (A : Cell) (o len : Nat) (r : Option Value) (s u : State) : Prop := r = none ∧ ∃ D' V : Cell, Blank "java/lang/String" a D' u ∧ Same D D' [fV.slot, fC.slot] ∧ D'.slots[fV.slot]? = some (.ref s.heap.size) ∧ D'.slots[fC.slot]? = some (.int 0) ∧ Arr .byte s.heap.size V u ∧ V.vm = .none ∧ u.vm.findClass "[B" = some V.cls ∧ V.slots.size = len ∧ (∀ j, j < len → V.slots[j]? = some (.int (lo8 (cv A (o + j))))) ∧ (∀ (y : Addr) (c : Cell), y ≠ a → s.heap[y]? = some c → u.heap[y]? = some c) ∧ u.heap.size = s.heap.size + 1
theorem Got.mv {a : Addr} {D A : Cell} {fV fC : Field} {o len : Nat} : ∀ r (U U' V V' : State), U'.heap = U.heap → V.vm.Alike V'.vm → V'.heap = V.heap → Got a D fV fC A o len r U V → Got a D fV fC A o len r U' V' :=
  fun r U U' V V' h1 hal h2 ⟨e0, D', X, a1, a2, a3, a4, a5, a6, a7, a8, a9, a10, a11⟩ => ⟨e0, D', X, a1.mv hal h2, a2, by rw [h1]; exact a3, a4, by rw [h1]; exact a5.mv hal h2, a6, by rw [hal.findClass]; exact a7, a8, a9, by rw [h1, h2]; exact a10, by rw [h1, h2]; exact a11⟩
namespace New4
def yN : MethodName := ⟨"java/lang/String", "<init>", "([CIILjava/lang/Void;)V"⟩
abbrev yB : ByteArray := jdk_42_method_149_code
theorem d0 : decode yB 0 = .ok (.aload_n 0, 1) := by decide +kernel
theorem d1 : decode yB 1 = .ok (.invokespecial 1, 3) := by decide +kernel
theorem d4 : decode yB 4 = .ok (.iload_n 3, 1) := by decide +kernel
theorem d5 : decode yB 5 = .ok (.ifCond (.ne) 22, 3) := by decide +kernel
theorem d27 : decode yB 27 = .ok (.getstatic 38, 3) := by decide +kernel
theorem d30 : decode yB 30 = .ok (.ifCond (.eq) 28, 3) := by decide +kernel
theorem d33 : decode yB 33 = .ok (.aload_n 1, 1) := by decide +kernel
theorem d34 : decode yB 34 = .ok (.iload_n 2, 1) := by decide +kernel
theorem d35 : decode yB 35 = .ok (.iload_n 3, 1) := by decide +kernel
theorem d36 : decode yB 36 = .ok (.invokestatic 177, 3) := by decide +kernel
theorem d39 : decode yB 39 = .ok (.astore 5, 2) := by decide +kernel
theorem d41 : decode yB 41 = .ok (.aload_n 0, 1) := by decide +kernel
theorem d42 : decode yB 42 = .ok (.aload 5, 2) := by decide +kernel
theorem d44 : decode yB 44 = .ok (.iload_n 3, 1) := by decide +kernel
theorem d45 : decode yB 45 = .ok (.invokestatic 47, 3) := by decide +kernel
theorem d48 : decode yB 48 = .ok (.putfield 15, 3) := by decide +kernel
theorem d51 : decode yB 51 = .ok (.aload_n 0, 1) := by decide +kernel
theorem d52 : decode yB 52 = .ok (.aload 5, 2) := by decide +kernel
theorem d54 : decode yB 54 = .ok (.putfield 9, 3) := by decide +kernel
theorem d57 : decode yB 57 = .ok (.return_, 1) := by decide +kernel
def site : List Cond := [.fieldLink "java/lang/String" 38 "java/lang/String" "COMPACT_STRINGS" "Z", Cmp3.tab, CodL.tab, .laysFinal "java/lang/String" "java/lang/String" "value" "[B", .fieldLink "java/lang/String" 9 "java/lang/String" "value" "[B", .laysFinal "java/lang/String" "java/lang/String" "coder" "B", .fieldLink "java/lang/String" 15 "java/lang/String" "coder" "B"] ++ objW "java/lang/String" 1 ++ staticW "java/lang/String" 177 Cmp3.yN ++ staticW "java/lang/String" 47 CodL.yN
def tab : Cond := tabOf yN yB 6 none site
def P (a : Addr) (D : Cell) (fV fC : Field) (b : Addr) (A : Cell) (z : Int32) (o len : Nat) (args : Array Value) (s : State) : Prop := args = #[.ref a, .ref b, .int (Int32.ofNat o), .int (Int32.ofNat len), .null] ∧ Blank "java/lang/String" a D s ∧ Found "java/lang/String" "value" "[B" fV s ∧ Found "java/lang/String" "coder" "B" fC s ∧ Ch b A s ∧ StaticIs s "java/lang/String" "COMPACT_STRINGS" "Z" (.int z) ∧ ¬ z = 0 ∧ 0 < len ∧ o + len ≤ A.slots.size ∧ len ≤ 536870912 ∧ ∀ i, i < len → ¬ 255 < cv A (o + i)
def E (a : Addr) (D : Cell) (fV fC : Field) (A : Cell) (o len : Nat) (r : Option Value) (s u : State) : Prop := Got a D fV fC A o len r s u
/-- len > 0, no char of the range above 255: a Latin-1 String of their low bytes -/
theorem law (l : Launch) (a : Addr) (D : Cell) (fV fC : Field) (b : Addr) (A : Cell) (z : Int32) (o len : Nat) : Law l yN 5 4 2 35 yB 6 none site (P a D fV fC b A z o len) (E a D fV fC A o len) [⟨a, fC.slot⟩, ⟨a, fV.slot⟩] 1 len := by
  refine Law.of_walk (plainFor_of_name (by decide +kernel)) (by decide +kernel) (by decide +kernel) (by decide) (fun _ _ h => by rw [h.1]; rfl) (fun _ U U' hal hh h => ⟨h.1, h.2.1.mv hal hh, h.2.2.1.al hal, h.2.2.2.1.al hal, h.2.2.2.2.1.mv hal hh, h.2.2.2.2.2.1.there hal hh, h.2.2.2.2.2.2⟩) (fun r U U' V V' h1 hal h2 h => Got.mv r U U' V V' h1 hal h2 h) ?_
  intro p e s m args below meth c s₁ X0 hexec hbytes hml hret hlk hnm hown hh0 W hP
  obtain ⟨rfl, hB, f1, f2, hA, s1, hz, l0, l1, l2, hp⟩ := hP
  have a31 := hA.1.2.2.2
  have c1 : Steps p.tables e below (s₁.setTop (entryFrame m #[.ref a, .ref b, .int (Int32.ofNat o), .int (Int32.ofNat len), .null] 6)) (s₁.setTop (mkF m 0 #[.val (.ref a), .val (.ref b), .val (.int (Int32.ofNat o)), .val (.int (Int32.ofNat len)), .val .null, .unset] [])) := entry rfl
  have c2 : Steps p.tables e below (s₁.setTop (entryFrame m #[.ref a, .ref b, .int (Int32.ofNat o), .int (Int32.ofNat len), .null] 6)) (s₁.setTop (mkF m 1 #[.val (.ref a), .val (.ref b), .val (.int (Int32.ofNat o)), .val (.int (Int32.ofNat len)), .val .null, .unset] [.ref a])) := c1.trans (by
    refine XS.aloadN X0.here hexec rfl (hb hbytes d0) rfl rfl ?_
    exact Steps.refl _)
  obtain ⟨T3, X3, q3, st3⟩ := X0.oinit hexec hown (wks W (objW "java/lang/String" 1)) (g := (mkF m 1 #[.val (.ref a), .val (.ref b), .val (.int (Int32.ofNat o)), .val (.int (Int32.ofNat len)), .val .null, .unset] [.ref a])) rfl (by rw [hml]; rfl) (rest := []) rfl (hb hbytes d1) (W := 0) (by show 2 * 0 + 0 ≤ _; decide) (Nat.le_of_ble_eq_true rfl) (Nat.le_of_ble_eq_true rfl)
  have hh3 := q3.trans hh0
  have c4 : Steps p.tables e below (s₁.setTop (entryFrame m #[.ref a, .ref b, .int (Int32.ofNat o), .int (Int32.ofNat len), .null] 6)) (T3.setTop (mkF m 27 #[.val (.ref a), .val (.ref b), .val (.int (Int32.ofNat o)), .val (.int (Int32.ofNat len)), .val .null, .unset] [])) := (c2.trans (st3 _ (Steps.refl _))).trans (by
    refine XS.iloadN X3.here hexec rfl (hb hbytes d4) rfl ?_
    refine XS.ifYes X3.here hexec rfl (pc0 := 5) rfl (hb hbytes d5) rfl (i0_ne_t (nz32 (by omega) l0)) (by decide) rfl ?_
    exact Steps.refl _)
  obtain ⟨T5, X5, q5, st5⟩ := X3.sget hexec hown (wk W (.fieldLink "java/lang/String" 38 "java/lang/String" "COMPACT_STRINGS" "Z")) s1 (fun _ _ h => by rw [hh3]; exact h) (g := (mkF m 27 #[.val (.ref a), .val (.ref b), .val (.int (Int32.ofNat o)), .val (.int (Int32.ofNat len)), .val .null, .unset] [])) rfl (hb hbytes d27)
  have hh5 := q5.trans hh3
  have c6 : Steps p.tables e below (s₁.setTop (entryFrame m #[.ref a, .ref b, .int (Int32.ofNat o), .int (Int32.ofNat len), .null] 6)) (T5.setTop (mkF m 30 #[.val (.ref a), .val (.ref b), .val (.int (Int32.ofNat o)), .val (.int (Int32.ofNat len)), .val .null, .unset] [.int z])) := c4.trans (st5 _ (Steps.refl _))
  have c7 : Steps p.tables e below (s₁.setTop (entryFrame m #[.ref a, .ref b, .int (Int32.ofNat o), .int (Int32.ofNat len), .null] 6)) (T5.setTop (mkF m 36 #[.val (.ref a), .val (.ref b), .val (.int (Int32.ofNat o)), .val (.int (Int32.ofNat len)), .val .null, .unset] [.int (Int32.ofNat len), .int (Int32.ofNat o), .ref b])) := c6.trans (by
    refine XS.ifNo X5.here hexec rfl (hb hbytes d30) rfl (i0_eq_f hz) ?_
    refine XS.aloadN X5.here hexec rfl (hb hbytes d33) rfl rfl ?_
    refine XS.iloadN X5.here hexec rfl (hb hbytes d34) rfl ?_
    refine XS.iloadN X5.here hexec rfl (hb hbytes d35) rfl ?_
    exact Steps.refl _)
  obtain ⟨v8, T8, X8, E8, g8⟩ := X5.callS hexec (Cmp3.law l b A o len) hown (wks W (staticW "java/lang/String" 177 Cmp3.yN)) (wk W Cmp3.tab) (W := 0) (Nat.le_of_ble_eq_true rfl) (Nat.le_of_ble_eq_true rfl) (Nat.le_refl _) (by show 0 + len ≤ len; omega) (g := (mkF m 36 #[.val (.ref a), .val (.ref b), .val (.int (Int32.ofNat o)), .val (.int (Int32.ofNat len)), .val .null, .unset] [.int (Int32.ofNat len), .int (Int32.ofNat o), .ref b])) rfl (by rw [hml]; rfl) c7 (argsL := [.ref b, .int (Int32.ofNat o), .int (Int32.ofNat len)]) (rest := []) rfl rfl (by show 2 * 0 + 0 ≤ _; decide) (hb hbytes d36) (⟨rfl, hA.mv X5.warmed.alike hh5, l1, l2, hp⟩)
  obtain ⟨e8, z8⟩ := E8
  obtain ⟨rfl, N, n1, n2, n3, n4, n5, n6⟩ := NewArr.mv _ T5 s _ _ hh5.symm (Vm.Alike.refl _) rfl e8
  rw [hh5] at z8
  have hB1 := hB.keep X8.warmed.alike (n6 _ _ hB.1)
  have hne : s.heap.size ≠ a := (Nat.ne_of_lt (Array.getElem?_eq_some_iff.mp hB.1).1).symm
  have c9 : Steps p.tables e below (s₁.setTop (entryFrame m #[.ref a, .ref b, .int (Int32.ofNat o), .int (Int32.ofNat len), .null] 6)) (T8.setTop (mkF m 39 #[.val (.ref a), .val (.ref b), .val (.int (Int32.ofNat o)), .val (.int (Int32.ofNat len)), .val .null, .unset] [.ref s.heap.size])) := g8
  have c10 : Steps p.tables e below (s₁.setTop (entryFrame m #[.ref a, .ref b, .int (Int32.ofNat o), .int (Int32.ofNat len), .null] 6)) (T8.setTop (mkF m 45 #[.val (.ref a), .val (.ref b), .val (.int (Int32.ofNat o)), .val (.int (Int32.ofNat len)), .val .null, .val (.ref s.heap.size)] [.int (Int32.ofNat N.slots.size), .ref s.heap.size, .ref a])) := by
    have hc : Steps p.tables e below (s₁.setTop (entryFrame m #[.ref a, .ref b, .int (Int32.ofNat o), .int (Int32.ofNat len), .null] 6)) (T8.setTop (mkF m 45 #[.val (.ref a), .val (.ref b), .val (.int (Int32.ofNat o)), .val (.int (Int32.ofNat len)), .val .null, .val (.ref s.heap.size)] [.int (Int32.ofNat len), .ref s.heap.size, .ref a])) := c9.trans (by
      refine XS.astore X8.here hexec rfl (hb hbytes d39) rfl rfl rfl ?_
      refine XS.aloadN X8.here hexec rfl (hb hbytes d41) rfl rfl ?_
      refine XS.aload X8.here hexec rfl (hb hbytes d42) rfl rfl ?_
      refine XS.iloadN X8.here hexec rfl (hb hbytes d44) rfl ?_
      exact Steps.refl _)
    rw [n4]; exact hc
  obtain ⟨v11, T11, X11, E11, g11⟩ := X8.callS hexec (CodL.law l s.heap.size N) hown (wks W (staticW "java/lang/String" 47 CodL.yN)) (wk W CodL.tab) (W := 1) (Nat.le_of_ble_eq_true rfl) (Nat.le_of_ble_eq_true rfl) (Nat.le_refl _) (by show 0 + len + 0 ≤ len; omega) (g := (mkF m 45 #[.val (.ref a), .val (.ref b), .val (.int (Int32.ofNat o)), .val (.int (Int32.ofNat len)), .val .null, .val (.ref s.heap.size)] [.int (Int32.ofNat N.slots.size), .ref s.heap.size, .ref a])) rfl (by rw [hml]; rfl) c10 (argsL := [.ref s.heap.size, .int (Int32.ofNat N.slots.size)]) (rest := [.ref a]) rfl rfl (by show 2 * 0 + (1 + 0) ≤ _; decide) (hb hbytes d45) (⟨rfl, n1⟩)
  obtain ⟨rfl, q11⟩ := E11
  have hB11 := hB1.mv (X8.warmed.alike.symm.trans X11.warmed.alike) q11
  have c12 : Steps p.tables e below (s₁.setTop (entryFrame m #[.ref a, .ref b, .int (Int32.ofNat o), .int (Int32.ofNat len), .null] 6)) (T11.setTop (mkF m 48 #[.val (.ref a), .val (.ref b), .val (.int (Int32.ofNat o)), .val (.int (Int32.ofNat len)), .val .null, .val (.ref s.heap.size)] [.int 0, .ref a])) := g11
  obtain ⟨T13, X13, p13, bl13, sl13, st13⟩ := X11.finit hexec hown (wk W (.fieldLink "java/lang/String" 15 "java/lang/String" "coder" "B")) (Or.inr ⟨_, (wk W (.laysFinal "java/lang/String" "java/lang/String" "coder" "B"))⟩) (Or.inl ⟨rfl, hnm⟩) f2 (Or.inl rfl) hB11 (t := .byte) (by decide +kernel) rfl (g := (mkF m 48 #[.val (.ref a), .val (.ref b), .val (.int (Int32.ofNat o)), .val (.int (Int32.ofNat len)), .val .null, .val (.ref s.heap.size)] [.int 0, .ref a])) rfl (rest := []) rfl (hb hbytes d48)
  have c14 : Steps p.tables e below (s₁.setTop (entryFrame m #[.ref a, .ref b, .int (Int32.ofNat o), .int (Int32.ofNat len), .null] 6)) (T13.setTop (mkF m 54 #[.val (.ref a), .val (.ref b), .val (.int (Int32.ofNat o)), .val (.int (Int32.ofNat len)), .val .null, .val (.ref s.heap.size)] [.ref s.heap.size, .ref a])) := (c12.trans (st13 _ (Steps.refl _))).trans (by
    refine XS.aloadN X13.here hexec rfl (hb hbytes d51) rfl rfl ?_
    refine XS.aload X13.here hexec rfl (hb hbytes d52) rfl rfl ?_
    exact Steps.refl _)
  obtain ⟨T15, X15, p15, bl15, sl15, st15⟩ := X13.finit hexec hown (wk W (.fieldLink "java/lang/String" 9 "java/lang/String" "value" "[B")) (Or.inr ⟨_, (wk W (.laysFinal "java/lang/String" "java/lang/String" "value" "[B"))⟩) (Or.inl ⟨rfl, hnm⟩) f1 (Or.inl rfl) bl13 (t := (.array .byte)) (by decide +kernel) rfl (g := (mkF m 54 #[.val (.ref a), .val (.ref b), .val (.int (Int32.ofNat o)), .val (.int (Int32.ofNat len)), .val .null, .val (.ref s.heap.size)] [.ref s.heap.size, .ref a])) rfl (rest := []) rfl (hb hbytes d54)
  have c16 : Steps p.tables e below (s₁.setTop (entryFrame m #[.ref a, .ref b, .int (Int32.ofNat o), .int (Int32.ofNat len), .null] 6)) (T15.setTop (mkF m 57 #[.val (.ref a), .val (.ref b), .val (.int (Int32.ofNat o)), .val (.int (Int32.ofNat len)), .val .null, .val (.ref s.heap.size)] [])) := c14.trans (st15 _ (Steps.refl _))
  have ap := apart (Or.inr ⟨_, (wk W (.laysFinal "java/lang/String" "java/lang/String" "value" "[B"))⟩) (Or.inr ⟨_, (wk W (.laysFinal "java/lang/String" "java/lang/String" "coder" "B"))⟩) f1 f2 (t₁ := .array .byte) (t₂ := .byte) (by decide +kernel) (by decide +kernel) (by decide)
  have al := X8.warmed.alike.symm.trans X15.warmed.alike
  have n7 : T11.heap[s.heap.size]? = some N := by rw [q11]; exact n1.1
  exact ⟨T15, none, _, _, _, X15, by simp, rfl, by omega, (fun _ => rfl), ⟨rfl, _, N, bl15, ((Same.refl D _).set _ (by simp)).set _ (by simp), sl15, (Cell.slots_setSlot_ne _ ap).trans sl13, n1.keep al (p15.other hne (p13.other hne n7)), n2, by rw [al.findClass]; exact n3, n4, n5, fun y c h1 h2 => p15.other h1 (p13.other h1 (by rw [q11]; exact n6 y c h2)), by rw [p15.2.2, p13.2.2, q11]; exact z8⟩, fun fs hl => c16.trans (X15.returnOut hexec hret (hb hbytes d57) hl)⟩
end New4
namespace New1
def yN : MethodName := ⟨"java/lang/String", "<init>", "([C)V"⟩
abbrev yB : ByteArray := jdk_42_method_3_code
theorem d0 : decode yB 0 = .ok (.aload_n 0, 1) := by decide +kernel
theorem d1 : decode yB 1 = .ok (.aload_n 1, 1) := by decide +kernel
theorem d2 : decode yB 2 = .ok (.iconst 0, 1) := by decide +kernel
theorem d3 : decode yB 3 = .ok (.aload_n 1, 1) := by decide +kernel
theorem d4 : decode yB 4 = .ok (.arraylength, 1) := by decide +kernel
theorem d5 : decode yB 5 = .ok (.aconst_null, 1) := by decide +kernel
theorem d6 : decode yB 6 = .ok (.invokespecial 27, 3) := by decide +kernel
theorem d9 : decode yB 9 = .ok (.return_, 1) := by decide +kernel
def site : List Cond := [New4.tab] ++ initW "java/lang/String" 27 New4.yN
def tab : Cond := tabOf yN yB 2 none site
def P (a : Addr) (D : Cell) (fV fC : Field) (b : Addr) (A : Cell) (z : Int32) (args : Array Value) (s : State) : Prop := args = #[.ref a, .ref b] ∧ Blank "java/lang/String" a D s ∧ Found "java/lang/String" "value" "[B" fV s ∧ Found "java/lang/String" "coder" "B" fC s ∧ Ch b A s ∧ StaticIs s "java/lang/String" "COMPACT_STRINGS" "Z" (.int z) ∧ ¬ z = 0 ∧ 0 < A.slots.size ∧ A.slots.size ≤ 536870912 ∧ ∀ i, i < A.slots.size → ¬ 255 < cv A i
def E (a : Addr) (D : Cell) (fV fC : Field) (A : Cell) (r : Option Value) (s u : State) : Prop := Got a D fV fC A 0 A.slots.size r s u
/-- new String(chars), not empty, no char above 255: a Latin-1 String of their low bytes -/
theorem law (l : Launch) (a : Addr) (D : Cell) (fV fC : Field) (b : Addr) (A : Cell) (z : Int32) : Law l yN 2 1 3 52 yB 2 none site (P a D fV fC b A z) (E a D fV fC A) [⟨a, fC.slot⟩, ⟨a, fV.slot⟩] 1 A.slots.size := by
  refine Law.of_walk (plainFor_of_name (by decide +kernel)) (by decide +kernel) (by decide +kernel) (by decide) (fun _ _ h => by rw [h.1]; rfl) (fun _ U U' hal hh h => ⟨h.1, h.2.1.mv hal hh, h.2.2.1.al hal, h.2.2.2.1.al hal, h.2.2.2.2.1.mv hal hh, h.2.2.2.2.2.1.there hal hh, h.2.2.2.2.2.2⟩) (fun r U U' V V' h1 hal h2 h => Got.mv r U U' V V' h1 hal h2 h) ?_
  intro p e s m args below meth c s₁ X0 hexec hbytes hml hret hlk hnm hown hh0 W hP
  obtain ⟨rfl, hB, f1, f2, hA, s1, hz, l0, l2, hp⟩ := hP
  have c1 : Steps p.tables e below (s₁.setTop (entryFrame m #[.ref a, .ref b] 2)) (s₁.setTop (mkF m 0 #[.val (.ref a), .val (.ref b)] [])) := entry rfl
  have c2 : Steps p.tables e below (s₁.setTop (entryFrame m #[.ref a, .ref b] 2)) (s₁.setTop (mkF m 6 #[.val (.ref a), .val (.ref b)] [.null, .int (Int32.ofNat A.slots.size), .int 0, .ref b, .ref a])) := c1.trans (by
    refine XS.aloadN X0.here hexec rfl (hb hbytes d0) rfl rfl ?_
    refine XS.aloadN X0.here hexec rfl (hb hbytes d1) rfl rfl ?_
    refine iconstV X0.here hexec rfl 0 (hb hbytes d2) (by decide) ?_
    refine XS.aloadN X0.here hexec rfl (hb hbytes d3) rfl rfl ?_
    refine X0.alen hexec (hA.1.mv X0.warmed.alike hh0) rfl rfl (hb hbytes d4) ?_
    refine XS.aconstNull X0.here hexec rfl (hb hbytes d5) ?_
    exact Steps.refl _)
  obtain ⟨v3, T3, X3, E3, g3⟩ := X0.callN hexec (New4.law l a D fV fC b A z 0 A.slots.size) rfl hown (wks W (initW "java/lang/String" 27 New4.yN)) (W New4.tab (by simp only [site, List.mem_cons, List.mem_append, true_or, or_true])) (W := 0) (Nat.le_of_ble_eq_true rfl) (Nat.le_of_ble_eq_true rfl) (Nat.le_refl _) (by show 0 + A.slots.size ≤ A.slots.size; omega) (g := (mkF m 6 #[.val (.ref a), .val (.ref b)] [.null, .int (Int32.ofNat A.slots.size), .int (Int32.ofNat 0), .ref b, .ref a])) rfl (by rw [hml]; rfl) c2 (argsL := [.ref b, .int (Int32.ofNat 0), .int (Int32.ofNat A.slots.size), .null]) (rest := []) rfl rfl (by show 2 * 0 + 0 ≤ _; decide) (hb hbytes d6) (⟨rfl, hB.mv X0.warmed.alike hh0, f1.al X0.warmed.alike, f2.al X0.warmed.alike, hA.mv X0.warmed.alike hh0, s1.there X0.warmed.alike hh0, hz, l0, by omega, l2, fun i hi => by rw [Nat.zero_add]; exact hp i hi⟩)
  have e0 := Got.mv _ s₁ s _ _ hh0.symm (Vm.Alike.refl _) rfl E3
  obtain rfl := e0.1
  have c4 : Steps p.tables e below (s₁.setTop (entryFrame m #[.ref a, .ref b] 2)) (T3.setTop (mkF m 9 #[.val (.ref a), .val (.ref b)] [])) := g3
  exact ⟨T3, none, _, _, _, X3, by simp, rfl, by omega, (fun _ => rfl), e0, fun fs hl => c4.trans (X3.returnOut hexec hret (hb hbytes d9) hl)⟩
theorem pays {l : Launch} {R : Room} {p : Program} {e : Env} {below : List Frame} {s : State} {sargs : Array Value} {len W : Nat} (a : Addr) (D : Cell) (fV fC : Field) (b : Addr) (A : Cell) (z : Int32) (htab : tab.before sargs s = true) (hfr : 4 ≤ R.frames) (hlo : W + 65 ≤ R.locals) :
    Back l R p e below s sargs yN len W (fun A₁ a₁ => A₁.cells + 1 ≤ R.cells ∧ A₁.slots + A.slots.size ≤ R.slots ∧ P a D fV fC b A z a₁ A₁.U) (fun A₁ _ v₁ B₁ => E a D fV fC A v₁ A₁.U B₁.U ∧ B₁.locs = A₁.locs ++ [⟨a, fC.slot⟩, ⟨a, fV.slot⟩] ∧ B₁.cells = A₁.cells + 1 ∧ B₁.slots = A₁.slots + A.slots.size) :=
  (law l a D fV fC b A z).pays htab hfr (by omega)
end New1
end StrChars
namespace StrChars.Road
open Jvm Sem ClassFile Op Lib Jvm.Stand Jvm.Free Jvm.Free.XT
open Jvm.Lib.Cold (StaticIs)
abbrev ST : String := "java/lang/String"
/-- every table word that New1's law asks, flat -/
abbrev words : List Jvm.Cond := [.code New1.yN New1.yB 2 none, .initialized ST, .methodLink ST 27 New4.yN, .instanceMethod New4.yN,
  .code New4.yN New4.yB 6 none, .fieldLink ST 38 ST "COMPACT_STRINGS" "Z", .laysFinal ST ST "value" "[B", .fieldLink ST 9 ST "value" "[B", .laysFinal ST ST "coder" "B", .fieldLink ST 15 ST "coder" "B",
  .methodLink ST 1 Lib.objectInit, .instanceMethod Lib.objectInit, .code Lib.objectInit ⟨#[0xb1]⟩ 1 none, .methodLink ST 177 Cmp3.yN, .static Cmp3.yN, .methodLink ST 47 CodL.yN, .static CodL.yN,
  .code Cmp3.yN Cmp3.yB 6 (some (.array .byte)), .initialized U16, .arrayClass .byte, .methodLink U16 115 Cmp5.yN, .static Cmp5.yN, .code Cmp5.yN Cmp5.yB 7 (some .int), .code CodL.yN CodL.yB 2 (some .byte)]
theorem tab_of {a : Array Value} {s : State} (h : ∀ w ∈ words, w.before a s = true) : New1.tab.before a s = true := by
  have h5 : Cmp5.tab.before a s = true := unparts (wk h (.code Cmp5.yN Cmp5.yB 7 (some .int))) (wks h (.initialized Cmp5.yN.cls :: Cmp5.site))
  have hc : CodL.tab.before a s = true := unparts (wk h (.code CodL.yN CodL.yB 2 (some .byte))) (wks h (.initialized CodL.yN.cls :: CodL.site))
  have q5 : ∀ w ∈ Cmp5.tab :: words, w.before a s = true := fun w hw => (List.mem_cons.mp hw).elim (fun e => e ▸ h5) (h w)
  have h3 : Cmp3.tab.before a s = true := unparts (wk q5 (.code Cmp3.yN Cmp3.yB 6 (some (.array .byte)))) (wks q5 (.initialized Cmp3.yN.cls :: Cmp3.site))
  have q3 : ∀ w ∈ Cmp3.tab :: CodL.tab :: words, w.before a s = true := fun w hw => (List.mem_cons.mp hw).elim (fun e => e ▸ h3) fun hw => (List.mem_cons.mp hw).elim (fun e => e ▸ hc) (h w)
  have h4 : New4.tab.before a s = true := unparts (wk q3 (.code New4.yN New4.yB 6 none)) (wks q3 (.initialized New4.yN.cls :: New4.site))
  have q4 : ∀ w ∈ New4.tab :: words, w.before a s = true := fun w hw => (List.mem_cons.mp hw).elim (fun e => e ▸ h4) (h w)
  exact unparts (wk q4 (.code New1.yN New1.yB 2 none)) (wks q4 (.initialized New1.yN.cls :: New1.site))
/-- the words ride from the start Z to the walk's own state -/
theorem moved {Z s : State} {a0 args : Array Value} (hZ : Z.Warmed39 s.vm) (hw : ∀ d ∈ words, d.before a0 Z = true) : ∀ d ∈ words, d.before args s = true := fun d hd => by
  have q := hw d hd
  have t : ∀ d ∈ words, d = .arrayClass .byte ∨ (d.onTables && d.keepsFace) = true := by decide +kernel
  rcases t d hd with rfl | t
  · exact RoadKit.mvA hZ q
  · exact RoadKit.mv hZ q t
/-- WHAT COMES BACK, over the tables of the start Z: h the heap at the call, h' behind it -/
def Q (Z : State) (x : Addr) (A : Cell) (h : Heap) (v : Option Value) (h' : Heap) (L : List Loc) : Prop := v = none ∧ (∀ y ∈ L, y.base = x) ∧ RoadKit.Keep h h' [x] ∧ h'.size = h.size + 1 ∧ RoadKit.Exa Z h' x ST ∧ RoadKit.Fld Z h' x ST "value" "[B" (.ref h.size) ∧ RoadKit.Fld Z h' x ST "coder" "B" (.int 0) ∧
  (∃ V : Cell, RoadKit.Arr Z h' h.size V .byte ∧ V.vm = .none ∧ Z.vm.findClass "[B" = some V.cls ∧ V.slots.size = A.slots.size ∧ ∀ j, j < A.slots.size → V.slots[j]? = some (.int (lo8 (cv A j)))) ∧
  ∀ (O n d : String) (w : Value), RoadKit.Fld Z h x O n d w → RoadKit.slotOf Z O n d ≠ RoadKit.slotOf Z ST "value" "[B" → RoadKit.slotOf Z O n d ≠ RoadKit.slotOf Z ST "coder" "B" → RoadKit.Fld Z h' x O n d w
/-- **new String(chars) AT A CALL, IN THE ROAD'S FORM**: for specialBack behind newO: x the fresh String, b the char[] with the cell A -/
theorem back {p : Program} {l : Launch} {e : Env} {R : Room} {s : State} {args : Array Value} {below : List Frame} {len W : Nat} {Z : State} {a0 : Array Value} {h : Heap} (hZ : Z.Warmed39 s.vm) (hw : ∀ d ∈ words, d.before a0 Z = true) {kI : Nat} (wi : (Jvm.Cond.instantiable ST kI).before a0 Z = true)
    {x b : Addr} {A : Cell} {z : Int32} {v0 c0 : Value} (E : RoadKit.Exa Z h x ST) (V : RoadKit.Fld Z h x ST "value" "[B" v0) (C : RoadKit.Fld Z h x ST "coder" "B" c0) (K : RoadKit.Arr Z h b A .char) (hty : Typed .char A) (S : RoadKit.Sta Z h ST "COMPACT_STRINGS" "Z" (.int z)) (hz : ¬ z = 0)
    (l0 : 0 < A.slots.size) (l2 : A.slots.size ≤ 536870912) (hp : ∀ i, i < A.slots.size → ¬ 255 < cv A i) (hfr : 4 ≤ R.frames) (hlo : W + 65 ≤ R.locals) :
    Back l R p e below s args New1.yN len W (fun P a => a = #[.ref x, .ref b] ∧ P.U.heap = h ∧ P.cells + 1 ≤ R.cells ∧ P.slots + A.slots.size ≤ R.slots)
      (fun P _ v B => ∃ L, Q Z x A h v B.U.heap L ∧ B.locs = P.locs ++ L ∧ B.cells = P.cells + 1 ∧ B.slots = P.slots + A.slots.size) := by
  intro m meth c P g ig mk a X hg hsize hdg hW hn hp'
  obtain ⟨rfl, rfl, r1, r2⟩ := hp'
  have al : Z.vm.Alike P.U.vm := hZ.alike.trans X.warmed.alike
  obtain ⟨D, cfV, kV, iV, fV, hD, gV, stV, knV, obV, asV, slV⟩ := id V
  obtain ⟨D', cfC, kC, iC, fC, hD', gC, stC, -, -, asC, slC⟩ := id C
  cases hD.symm.trans hD'
  obtain ⟨D2, kD, e1, e2, e3, e4, e5⟩ := id E
  cases hD.symm.trans e1
  obtain ⟨c2, k2, i1, i2, i3, -⟩ := Cond.instantiable_spec wi
  cases e2.symm.trans i1
  cases e3.symm.trans i2
  obtain ⟨kU, u1, u2⟩ := al.2.2 _ _ e3
  have hB : Blank ST x D P.U := ⟨hD, ⟨knV, fun q hq => by rw [hq] at obV; cases obV⟩, by rw [al.findClass]; exact e2, kU, u1, by rw [u2]; exact i3, by rw [u2]; exact e5 i3⟩
  have F1 : Found ST "value" "[B" fV P.U := ⟨SBG.found_only al ⟨cfV, kV, iV, gV⟩, stV⟩
  have F2 : Found ST "coder" "B" fC P.U := ⟨SBG.found_only al ⟨cfC, kC, iC, gC⟩, stC⟩
  have hA : Ch b A P.U := ⟨⟨K.1, State.isArrayOf_alike al K.2.1, K.2.2, by omega⟩, hty⟩
  have hS : StaticIs P.U ST "COMPACT_STRINGS" "Z" (.int z) := by
    obtain ⟨cfS, iS, kS, fS, st, cS, t1, t2, t3, t4, t5, t6, t7⟩ := S
    exact StaticIs.there (s := { Z with heap := P.U.heap }) ⟨cfS, iS, kS, fS, st, cS, t1, t2, t3, t4, t5, (fun q => by rw [q] at t6; cases t6), t7⟩ al rfl
  obtain ⟨v, B, X', ⟨⟨hv, E', V', q1, q2, q3, q4, q5, q6, q7, q8, q9, q10, q11⟩, hl, hc, hs⟩, st⟩ := New1.pays x D fV fC b A z (tab_of (moved hZ hw)) hfr hlo m meth c P g ig mk _ X hg hsize hdg hW hn ⟨r1, r2, rfl, hB, F1, F2, hA, hS, hz, l0, l2, hp⟩
  have al' : Z.vm.Alike B.U.vm := hZ.alike.trans X'.warmed.alike
  have hsz : E'.slots.size = D.slots.size := by
    obtain ⟨-, -, -, kB, w1, w2, w3⟩ := q1
    obtain ⟨kB', y1, y2⟩ := al'.2.2 _ _ e3
    rw [q2.2.1] at w1
    cases w1.symm.trans y1
    rw [w3, e5 i3, y2]
  refine ⟨v, B, X', ⟨_, ⟨hv, ?_, ⟨by omega, fun y cy hy hn' => q10 y cy (by simpa using hn') hy, fun y cy hy => ?_⟩, q11, ⟨E', _, q1.1, by rw [q2.2.1]; exact e2, by rw [q2.2.1]; exact e3, by rw [q2.1]; exact obV, fun _ => by rw [hsz]; exact e5 i3⟩,
    ⟨E', cfV, kV, iV, fV, q1.1, gV, stV, by rw [q2.1]; exact knV, by rw [q2.1]; exact obV, by rw [q2.2.1]; exact asV, q3⟩, ⟨E', cfC, kC, iC, fC, q1.1, gC, stC, by rw [q2.1]; exact knV, by rw [q2.1]; exact obV, by rw [q2.2.1]; exact asC, q4⟩,
    ⟨V', ⟨q5.1, State.isArrayOf_alike al'.symm q5.2.1, q5.2.2.1⟩, q6, by rw [← al'.findClass]; exact q7, q8, fun j hj => by have := q9 j hj; rwa [Nat.zero_add] at this⟩, fun O n d w F n1 n2 => ?_⟩, hl, hc, hs⟩, st⟩
  · intro y hy
    simp only [List.mem_cons, List.not_mem_nil, or_false] at hy
    rcases hy with rfl | rfl <;> rfl
  · by_cases q : y = x
    · subst q
      cases hD.symm.trans hy
      exact ⟨E', q1.1, q2.2.1, q2.1, hsz⟩
    · exact ⟨cy, q10 y cy q hy, rfl, rfl, rfl⟩
  · obtain ⟨D3, cf, k, i, f, g1, g2, g3, g4, g5, g6, g7⟩ := F
    cases hD.symm.trans g1
    simp only [RoadKit.slotOf, g2, gV, gC, Option.map_some, Option.getD_some] at n1 n2
    exact ⟨E', cf, k, i, f, q1.1, g2, g3, by rw [q2.1]; exact g4, by rw [q2.1]; exact g5, by rw [q2.2.1]; exact g6, by rw [q2.2.2 f.slot (by simp [n1, n2])]; exact g7⟩
end StrChars.Road
namespace StrChars.Road
open Jvm Sem ClassFile Op Lib Jvm.Stand Jvm.Free Jvm.Free.XT
/-- WHAT COMES BACK, the byte[] as a list of values -/
def QA (Z : State) (x : Addr) (zn : Int32) (cs : List Int32) (h : Heap) (v : Option Value) (h' : Heap) (L : List Loc) : Prop := v = none ∧ (∀ y ∈ L, y.base = x) ∧ RoadKit.Keep h h' [x] ∧ h'.size = h.size + 1 ∧ RoadKit.Exa Z h' x ST ∧ RoadKit.Fld Z h' x ST "value" "[B" (.ref h.size) ∧ RoadKit.Fld Z h' x ST "coder" "B" (.int 0) ∧
  (∃ kb, Z.vm.findClass "[B" = some kb ∧ RoadKit.Arv Z h' h.size kb .byte zn (cs.map fun c => .int (lo8 c)) (.int 0)) ∧
  ∀ (O n d : String) (w : Value), RoadKit.Fld Z h x O n d w → RoadKit.slotOf Z O n d ≠ RoadKit.slotOf Z ST "value" "[B" → RoadKit.slotOf Z O n d ≠ RoadKit.slotOf Z ST "coder" "B" → RoadKit.Fld Z h' x O n d w
/-- **new String(chars) AT A CALL, THE ARRAYS AS LISTS**: the char[] at b holds cs, not empty, no char above 255 -/
theorem backArv {p : Program} {l : Launch} {e : Env} {R : Room} {s : State} {args : Array Value} {below : List Frame} {len W : Nat} {Z : State} {a0 : Array Value} {h : Heap} (hZ : Z.Warmed39 s.vm) (hw : ∀ d ∈ words, d.before a0 Z = true) {kI : Nat} (wi : (Jvm.Cond.instantiable ST kI).before a0 Z = true)
    {x b : Addr} {k : ClassId} {zn z : Int32} {cs : List Int32} {dv v0 c0 : Value} (E : RoadKit.Exa Z h x ST) (V : RoadKit.Fld Z h x ST "value" "[B" v0) (C : RoadKit.Fld Z h x ST "coder" "B" c0) (K : RoadKit.Arv Z h b k .char zn (cs.map Value.int) dv) (S : RoadKit.Sta Z h ST "COMPACT_STRINGS" "Z" (.int z)) (hz : ¬ z = 0)
    (hlen : zn.toNatClampNeg = cs.length) (h0 : 0 < cs.length) (hbig : cs.length ≤ 536870912) (hall : ∀ c ∈ cs, ¬ 255 < c) (hfr : 4 ≤ R.frames) (hlo : W + 65 ≤ R.locals) :
    Back l R p e below s args New1.yN len W (fun P a => a = #[.ref x, .ref b] ∧ P.U.heap = h ∧ P.cells + 1 ≤ R.cells ∧ P.slots + cs.length ≤ R.slots)
      (fun P _ v B => ∃ L, QA Z x zn cs h v B.U.heap L ∧ B.locs = P.locs ++ L ∧ B.cells = P.cells + 1 ∧ B.slots = P.slots + cs.length) := by
  obtain ⟨A, K1, K2, K3, K4, K5, K6⟩ := K
  have e : A.slots.size = cs.length := K3.trans hlen
  have hat : ∀ (i : Nat) (hi : i < cs.length), A.slots[i]? = some (.int cs[i]) := fun i hi => by rw [K5 i (by omega)]; simp [List.getD_eq_getElem?_getD, hi]
  have hcv : ∀ (i : Nat) (hi : i < cs.length), cv A i = cs[i] := fun i hi => by unfold cv; rw [hat i hi]
  have hty : Typed .char A := fun i v hv => by
    have hi : i < A.slots.size := (Array.getElem?_eq_some_iff.mp hv).1
    have q := K5 i hi
    rw [hv] at q
    rw [Option.some.inj q]
    exact K6 i hi
  refine Back.mono (back hZ hw wi E V C K1 hty S hz (by omega) (by omega) (fun i hi => by rw [hcv i (by omega)]; exact hall _ (List.getElem_mem _)) hfr hlo) (fun P a hp => ⟨hp.1, hp.2.1, hp.2.2.1, by rw [e]; exact hp.2.2.2⟩) (fun P a v B hp hq => ?_)
  obtain ⟨L, ⟨q1, q2, q3, q4, q5, q6, q7, ⟨V', v1, v2, v3, v4, v5⟩, q9⟩, hl, hc, hs⟩ := hq
  refine ⟨L, ⟨q1, q2, q3, q4, q5, q6, q7, ⟨V'.cls, v3, V', v1, rfl, by rw [v4, e, hlen], K4, fun i hi => ?_, fun i hi => ?_⟩, q9⟩, hl, hc, by rw [hs, e]⟩
  · have hi' : i < cs.length := by omega
    rw [v5 i (by omega), hcv i hi']; simp [List.getD_eq_getElem?_getD, hi']
  · have hi' : i < cs.length := by omega
    simp only [List.getD_eq_getElem?_getD, List.getElem?_map, List.getElem?_eq_getElem hi', Option.map_some, Option.getD_some]
    exact fits_lo8 _
end StrChars.Road
namespace StrChars.Road
open Jvm Sem ClassFile Op Lib Jvm.Stand Jvm.Free Jvm.Free.XT
/-- WHAT COMES BACK, in the writer's own shape -/
def QV (Z : State) (x : Addr) (N : Int32) (bs : List Int32) (h : Heap) (n0 : Nat) (v : Option Value) (h' : Heap) (L : List Loc) : Prop := v = none ∧ RoadKit.Fr n0 L ∧ RoadKit.Keep h h' [x] ∧ RoadKit.Exa Z h' x ST ∧ RoadKit.Fld Z h' x ST "coder" "B" (.int 0) ∧
  ∃ (t : Addr) (kb : ClassId), n0 ≤ t ∧ h.size ≤ t ∧ ¬ t = x ∧ RoadKit.Fld Z h' x ST "value" "[B" (.ref t) ∧ RoadKit.Arv Z h' t kb .byte N (bs.map Value.int) (.int 0)
/-- **new String(chars) AT A CALL, FOR THE WRITER**: a char[] of n known ints, each 0 to 255 -/
theorem backV {p : Program} {l : Launch} {e : Env} {R : Room} {s : State} {args : Array Value} {below : List Frame} {len W : Nat} {Z : State} {a0 : Array Value} {h : Heap} (hZ : Z.Warmed39 s.vm) (hw : ∀ d ∈ words, d.before a0 Z = true) {kI : Nat} (wi : (Jvm.Cond.instantiable ST kI).before a0 Z = true)
    {x b : Addr} {kC : ClassId} {cs bs : List Int32} {d v0 c0 : Value} {z N : Int32} {n n0 : Nat} (hx0 : n0 ≤ x) (hh0 : n0 ≤ h.size) (E : RoadKit.Exa Z h x ST) (V : RoadKit.Fld Z h x ST "value" "[B" v0) (C : RoadKit.Fld Z h x ST "coder" "B" c0) (K : RoadKit.Arv Z h b kC .char N (cs.map Value.int) d) (S : RoadKit.Sta Z h ST "COMPACT_STRINGS" "Z" (.int z)) (hz : ¬ z = 0)
    (hn : cs.length = n) (hN : N = Int32.ofNat n) (l0 : 0 < n) (l2 : n ≤ 4000) (hp : ∀ c ∈ cs, ¬ c < 0 ∧ ¬ (255 : Int32) < c) (hb : bs = cs.map (fun c => c.toInt8.toInt32)) (hfr : 4 ≤ R.frames) (hlo : W + 65 ≤ R.locals) :
    Back l R p e below s args (⟨"java/lang/String", "<init>", "([C)V"⟩ : MethodName) len W (fun P a => a = #[.ref x, .ref b] ∧ P.U.heap = h ∧ P.cells + 1 ≤ R.cells ∧ P.slots + n ≤ R.slots)
      (fun P _ v B => ∃ L, QV Z x N bs h n0 v B.U.heap L ∧ B.locs = P.locs ++ L ∧ B.cells = P.cells + 1 ∧ B.slots = P.slots + n) := by
  subst hn hN hb
  refine Back.mono (backArv hZ hw wi E V C K S hz (n32 (by omega)) l0 (by omega) (fun c hc => (hp c hc).2) hfr hlo) (fun P a hp => hp) (fun P a v B hp hq => ?_)
  obtain ⟨L, ⟨q1, q2, q3, q4, q5, q6, q7, ⟨kb, v1, v2⟩, q9⟩, hl, hc, hs⟩ := hq
  exact ⟨L, ⟨q1, fun y hy => by rw [q2 y hy]; exact hx0, q3, q5, q7, h.size, kb, hh0, Nat.le_refl _, Nat.ne_of_gt E.lt, q6, by rw [List.map_map]; exact v2⟩, hl, hc, hs⟩
end StrChars.Road
end Jvm.Pilot.@@N@@
namespace Jvm.Pilot.@@N@@
open Jvm Jvm.ClassFile Sem Op Lib Jvm.Free Jvm.Stand Jvm.LawKit Jvm.RoadKit Bundle Jvm.Pilot.@@N@@.Jvm.D
/-- from the frame g at T the run reaches a state of which P holds -/
def own_Go (p : Program) (e : Env) (below : List Frame) (P : State → Outcome → Prop) (T : State) (g : JFrame) : Prop := ∃ t o, Steps p.tables e below (T.setTop g) t ∧ P t o
/-- the run has left the method: what it returned, the heap and the places written are as Q says -/
def own_P (s : State) (below : List Frame) (R : Room) (Q : Option Value → Heap → List Loc → Prop) (t : State) (o : Outcome) : Prop := t.status = .running ∧ Ended t below o ∧ ∃ v L, o = .returned v ∧ Q v t.heap L ∧ FrameEnd s o t L R.cells R.slots
section OwnKit
variable {p : Program} {l : Launch} {e : Env} {R : Room} {s : State} {m : MethodId} {args : Array Value} {below : List Frame} {meth : Method} {c : Code} {T T' : State} {locs : List Loc} {cells slots : Nat} {P : State → Outcome → Prop} {g g' : JFrame}
theorem own_by (k : ∀ t, Steps p.tables e below (T'.setTop g') t → Steps p.tables e below (T.setTop g) t) (h : own_Go p e below P T' g') : own_Go p e below P T g := by
  obtain ⟨t, o, st, q⟩ := h
  exact ⟨t, o, k t st, q⟩
theorem own_via (k : Steps p.tables e below (T.setTop g) (T'.setTop g')) (h : own_Go p e below P T' g') : own_Go p e below P T g := own_by (fun _ st => k.trans st) h
theorem own_in (q : g = g') (h : own_Go p e below P T g') : own_Go p e below P T g := q ▸ h
theorem own_out {v : Option Value} {Q : Option Value → Heap → List Loc → Prop} (X : Stand p l e R s m args below meth c T locs cells slots) (hv : meth.sig.returnType = none → v = none) (hlk : meth.locks = false) (hc : cells ≤ R.cells) (hs : slots ≤ R.slots) (q : Q v T.heap locs)
    (k : ∀ fs, (∀ (f : JFrame) (acts : List Action), f.method = m → f.locked = none → f.entered = [] → (doReturn e (T.setTop f) acts v).1 = T.setFrames fs) → Steps p.tables e below (T.setTop g) (T.setFrames fs)) : own_Go p e below (own_P s below R Q) T g := by
  obtain ⟨fs, hr, hrun, hended, hW, hsame⟩ := X.leave (v := v) hv hlk
  exact ⟨_, _, k fs hr, hrun, hended, _, _, rfl, q, ⟨_, rfl⟩, hW, hsame.mono hc hs⟩
theorem own_some {t : FieldType} {w : Value} (h : meth.sig.returnType = some t) : meth.sig.returnType = none → some w = none := fun q => by rw [h] at q; cases q
theorem own_retN {pc : Nat} {Ls : Array Slot} {z : Int32} {t : FieldType} {rest : List Value} {Q : Option Value → Heap → List Loc → Prop} (X : Stand p l e R s m args below meth c T locs cells slots) (hx : p.tables.exec = Jvm.exec) (hret : meth.sig.returnType = some t) (ht : t = .boolean ∨ t = .byte ∨ t = .char ∨ t = .short)
    (hd : decode c.code pc = .ok (.ireturn, 1)) (hlk : meth.locks = false) (hc : cells ≤ R.cells) (hs : slots ≤ R.slots) (q : Q (some (.int (nar t z))) T.heap locs) : own_Go p e below (own_P s below R Q) T (mkF m pc Ls (.int z :: rest)) :=
  own_out X (own_some hret) hlk hc hs q fun _ hr => retN X hx hret ht hd hr
theorem own_retI {pc : Nat} {Ls : Array Slot} {z : Int32} {rest : List Value} {Q : Option Value → Heap → List Loc → Prop} (X : Stand p l e R s m args below meth c T locs cells slots) (hx : p.tables.exec = Jvm.exec) (hret : meth.sig.returnType = some .int)
    (hd : decode c.code pc = .ok (.ireturn, 1)) (hlk : meth.locks = false) (hc : cells ≤ R.cells) (hs : slots ≤ R.slots) (q : Q (some (.int z)) T.heap locs) : own_Go p e below (own_P s below R Q) T (mkF m pc Ls (.int z :: rest)) :=
  own_out X (own_some hret) hlk hc hs q fun _ hr => retOut X hx hret rfl (Or.inl ⟨rfl, Or.inl rfl, _, rfl⟩) hd hr
theorem own_retJ {pc : Nat} {Ls : Array Slot} {z : Int64} {rest : List Value} {Q : Option Value → Heap → List Loc → Prop} (X : Stand p l e R s m args below meth c T locs cells slots) (hx : p.tables.exec = Jvm.exec) (hret : meth.sig.returnType = some .long)
    (hd : decode c.code pc = .ok (.lreturn, 1)) (hlk : meth.locks = false) (hc : cells ≤ R.cells) (hs : slots ≤ R.slots) (q : Q (some (.long z)) T.heap locs) : own_Go p e below (own_P s below R Q) T (mkF m pc Ls (.long z :: rest)) :=
  own_out X (own_some hret) hlk hc hs q fun _ hr => retOut X hx hret rfl (Or.inr (Or.inl ⟨rfl, rfl, _, rfl⟩)) hd hr
theorem own_retR {pc : Nat} {Ls : Array Slot} {w : Value} {t : FieldType} {rest : List Value} {Q : Option Value → Heap → List Loc → Prop} (X : Stand p l e R s m args below meth c T locs cells slots) (hx : p.tables.exec = Jvm.exec) (hret : meth.sig.returnType = some t) (ht : t.isReference = true) (hw : w.isRef = true) (hn : narrow t w = w)
    (hd : decode c.code pc = .ok (.areturn, 1)) (hlk : meth.locks = false) (hc : cells ≤ R.cells) (hs : slots ≤ R.slots) (q : Q (some w) T.heap locs) : own_Go p e below (own_P s below R Q) T (mkF m pc Ls (w :: rest)) :=
  own_out X (own_some hret) hlk hc hs q fun _ hr => retOut X hx hret hn (Or.inr (Or.inr (Or.inr (Or.inr ⟨rfl, ht, hw⟩)))) hd hr
theorem own_ret0 {pc : Nat} {Ls : Array Slot} {Q : Option Value → Heap → List Loc → Prop} (X : Stand p l e R s m args below meth c T locs cells slots) (hx : p.tables.exec = Jvm.exec) (hret : meth.sig.returnType = none)
    (hd : decode c.code pc = .ok (.return_, 1)) (hlk : meth.locks = false) (hc : cells ≤ R.cells) (hs : slots ≤ R.slots) (q : Q none T.heap locs) : own_Go p e below (own_P s below R Q) T (mkF m pc Ls []) :=
  own_out X (fun _ => rfl) hlk hc hs q fun _ hr => X.returnOut hx hret hd hr
theorem own_fitsR {C : String} {v : Value} (h : v.isRef = true) : fits (.object C) v = true := by
  cases v <;> first | rfl | (simp [Value.isRef] at h)
theorem own_tab (xs : List Int32) (d : Int32) (k : Nat) : (xs.map Value.int).getD k (.int d) = .int (xs.getD k d) := by
  simp only [List.getD_eq_getElem?_getD, List.getElem?_map]
  cases xs[k]? <;> rfl
end OwnKit
theorem own_and_le (x m : Int32) (k : Nat) (hm : m.toBitVec.toNat = k) (hk : k < 2147483648) : 0 ≤ (x &&& m).toInt ∧ (x &&& m).toInt ≤ k := by
  have h1 : (x &&& m).toBitVec.toNat ≤ k := by
    rw [Int32.toBitVec_and, BitVec.toNat_and, hm]; exact Nat.and_le_right
  have h2 : (x &&& m).toInt = ((x &&& m).toBitVec.toNat : Int) := BitVec.toInt_eq_toNat_of_lt (by omega)
  omega
/-- i2c of a value that is a char already -/
theorem own_i2c (x : Int32) (h0 : 0 ≤ x.toInt) (h1 : x.toInt < 65536) : x.toUInt32.toUInt16.toUInt32.toInt32 = x := by
  have e : x.toInt = (x.toBitVec.toNat : Int) := by
    have := x.toBitVec.isLt
    have q : x.toInt = x.toBitVec.toInt := rfl
    rw [q, BitVec.toInt_eq_toNat_cond] at h0 h1 ⊢
    split at h0 <;> omega
  apply Int32.toBitVec_inj.mp
  apply BitVec.eq_of_toNat_eq
  show ((x.toBitVec.setWidth 16).setWidth 32).toNat = x.toBitVec.toNat
  rw [BitVec.toNat_setWidth, BitVec.toNat_setWidth]
  have : x.toBitVec.toNat < 65536 := by omega
  omega
theorem own_ch (x : Int32) : ¬ (nar .char ((x &&& (255 : Int32)).toUInt32.toUInt16.toUInt32.toInt32)) < 0 ∧ ¬ (255 : Int32) < (nar .char ((x &&& (255 : Int32)).toUInt32.toUInt16.toUInt32.toInt32)) := by
  have h := own_and_le x 255 255 (by decide) (by decide)
  have e := own_i2c (x &&& 255) h.1 (by omega)
  rw [e, show nar .char (x &&& 255) = x &&& 255 from e, Int32.lt_iff_toInt_lt, Int32.lt_iff_toInt_lt, show (255 : Int32).toInt = 255 from by decide, show (0 : Int32).toInt = 0 from by decide]
  omega

theorem d8_0 : decode jdk_30_method_1_code 0 = .ok (.aload_n 0, 1) := by decide +kernel
theorem d8_1 : decode jdk_30_method_1_code 1 = .ok (.invokespecial 1, 3) := by decide +kernel
theorem d8_4 : decode jdk_30_method_1_code 4 = .ok (.return_, 1) := by decide +kernel
theorem pn_java_lang_Record : plainName "java/lang/Record" = true := by first | (simp [plainName, overriddenIn]; done) | decide +kernel
theorem own_ef8 (m : MethodId) (x0 : Addr) : entryFrame m #[(.ref x0)] 1 = mkF m 0 #[.val (.ref x0)] [] := by first | (simp [entryFrame, mkF, argsToLocals, Value.category]; done) | rfl
def own_Q8 (Z : State) (a8_0 : Addr) (h0 : Heap) (n0 : Nat) (v : Option Value) (h : Heap) (L : List Loc) : Prop := v = none ∧ Fr n0 L ∧ Keep h0 h []
set_option maxRecDepth 65536 in
set_option maxHeartbeats 40000000 in
theorem own_rm8 (l : Launch) (Z : State) (a0 : Array Value) (hw : ∀ d ∈ tables_1, d.before a0 Z = true) (ws : List Jvm.Cond) (a8_0 : Addr) (h0 : Heap) (n0 : Nat) (Z0 : n0 ≤ h0.size) :
    MetFree l (⟨"java/lang/Record", "<init>", "()V"⟩ : MethodName) (head1 (Jvm.Cond.code (⟨"java/lang/Record", "<init>", "()V"⟩ : MethodName) jdk_30_method_1_code 1 none :: ws) ({ frames := 1, cells := 0, slots := 0, locals := 12 } : Room)) (fun a U => a = #[(.ref a8_0)] ∧ Z.Warmed39 U.vm ∧ U.heap = h0) (fun _ _ _ _ _ => True) (fun _ U o U' => ∃ v L, o = .returned v ∧ own_Q8 Z a8_0 h0 n0 v U'.heap L ∧ FrameEnd U o U' L ({ frames := 1, cells := 0, slots := 0, locals := 12 } : Room).cells ({ frames := 1, cells := 0, slots := 0, locals := 12 } : Room).slots) := by
  refine MetFree.of_bodySF (plainFor_of_name pn_java_lang_Record) hisR ?_
  intro p e s m args below meth c s₁ Bd hml0 hP hK
  obtain ⟨rfl, hZ, hh⟩ := hP
  have hx := Bd.exec
  have hby := Bd.bytes
  have hlk : meth.locks = false := BodyLoose.notSynchronized Bd
  have hml : c.maxLocals = 1 := hml0
  have hown : s.vm.findClass "java/lang/Record" = some m.cls := findClass_of_methodNamed Bd.named
  have hnm := (name_of_methodNamed Bd.named Bd.method).1
  have X0 : Stand p l e ({ frames := 1, cells := 0, slots := 0, locals := 12 } : Room) s m #[(.ref a8_0)] below meth c s₁ [] 0 0 := Stand.of_body Bd
  have e0 : s₁.heap = h0 := by rw [← hh, Bd.state]; rfl
  have N0 := Fr.nil n0
  show own_Go p e below (own_P s below ({ frames := 1, cells := 0, slots := 0, locals := 12 } : Room) (own_Q8 Z a8_0 h0 n0)) s₁ (entryFrame m #[(.ref a8_0)] 1)
  refine own_in (own_ef8 m a8_0) ?_
  refine own_by (T' := s₁) (g' := (mkF m 1 #[.val (.ref a8_0)] [(.ref a8_0)])) (fun t k => ?_) ?_
  · show Steps p.tables e below (s₁.setTop (mkF m 0 #[.val (.ref a8_0)] [])) t
    refine XS.aloadN X0.here hx rfl (hb hby d8_0) rfl rfl ?_
    show Steps p.tables e below (s₁.setTop (mkF m 1 #[.val (.ref a8_0)] [(.ref a8_0)])) t
    exact k
  obtain ⟨T1, X1, e1, st1⟩ := initO X0 hx hZ hown (hw _ (List.mem_of_getElem? (i := 41) rfl)) (hw _ (List.mem_of_getElem? (i := 12) rfl)) (hw _ (List.mem_of_getElem? (i := 13) rfl)) e0 (g := (mkF m 1 #[.val (.ref a8_0)] [(.ref a8_0)])) rfl (by rw [hml]; rfl) rfl (hb hby d8_1) (by decide) (W := 0) (by show 2 * 0 + _ ≤ _; exact Nat.le_of_eq rfl) (by decide)
  refine own_by (T' := T1) (g' := (mkF m 4 #[.val (.ref a8_0)] [])) st1 ?_
  exact own_ret0 X1 hx Bd.returns (hb hby d8_4) hlk (by decide) (by decide) (by rw [e1]; exact ⟨rfl, N0, (Keep.refl h0 [])⟩)
theorem d7_0 : decode prog_6_method_1_code 0 = .ok (.aload_n 0, 1) := by decide +kernel
theorem d7_1 : decode prog_6_method_1_code 1 = .ok (.invokespecial 1, 3) := by decide +kernel
theorem pd___V : parseMethodDescriptor "()V" = some ⟨[], none⟩ := by decide +kernel
theorem d7_4 : decode prog_6_method_1_code 4 = .ok (.aload_n 0, 1) := by decide +kernel
theorem d7_5 : decode prog_6_method_1_code 5 = .ok (.aload_n 1, 1) := by decide +kernel
theorem d7_6 : decode prog_6_method_1_code 6 = .ok (.putfield 7, 3) := by decide +kernel
theorem d7_9 : decode prog_6_method_1_code 9 = .ok (.aload_n 0, 1) := by decide +kernel
theorem d7_10 : decode prog_6_method_1_code 10 = .ok (.iload_n 2, 1) := by decide +kernel
theorem d7_11 : decode prog_6_method_1_code 11 = .ok (.putfield 13, 3) := by decide +kernel
theorem d7_14 : decode prog_6_method_1_code 14 = .ok (.aload_n 0, 1) := by decide +kernel
theorem d7_15 : decode prog_6_method_1_code 15 = .ok (.iload_n 3, 1) := by decide +kernel
theorem d7_16 : decode prog_6_method_1_code 16 = .ok (.putfield 17, 3) := by decide +kernel
theorem d7_19 : decode prog_6_method_1_code 19 = .ok (.aload_n 0, 1) := by decide +kernel
theorem d7_20 : decode prog_6_method_1_code 20 = .ok (.iload 4, 2) := by decide +kernel
theorem d7_22 : decode prog_6_method_1_code 22 = .ok (.putfield 21, 3) := by decide +kernel
theorem d7_25 : decode prog_6_method_1_code 25 = .ok (.return_, 1) := by decide +kernel
theorem pn_com_example_topping_out_toppingout_game_Player : plainName "com/example/topping_out/toppingout/game/Player" = true := by first | (simp [plainName, overriddenIn]; done) | decide +kernel
theorem own_ef7 (m : MethodId) (x0 : Addr) (x1 : Addr) (x2 : Int32) (x3 : Int32) (x4 : Int32) : entryFrame m #[(.ref x0), (.ref x1), (.int x2), (.int x3), (.int x4)] 5 = mkF m 0 #[.val (.ref x0), .val (.ref x1), .val (.int x2), .val (.int x3), .val (.int x4)] [] := by first | (simp [entryFrame, mkF, argsToLocals, Value.category]; done) | rfl
def own_Q7 (Z : State) (a7_0 : Addr) (a7_1 : Addr) (p7_2 : Int32) (p7_3 : Int32) (p7_4 : Int32) (u_name_a7_0 : Value) (u_expert_a7_0 : Value) (u_certificates_a7_0 : Value) (u_awards_a7_0 : Value) (h0 : Heap) (n0 : Nat) (v : Option Value) (h : Heap) (L : List Loc) : Prop := v = none ∧ Fr n0 L ∧ Keep h0 h [a7_0] ∧ Exa Z h a7_0 "com/example/topping_out/toppingout/game/Player" ∧ Fld Z h a7_0 "com/example/topping_out/toppingout/game/Player" "name" "Ljava/lang/String;" (.ref a7_1) ∧ Fld Z h a7_0 "com/example/topping_out/toppingout/game/Player" "expert" "Z" (.int (nar .boolean p7_2)) ∧ Fld Z h a7_0 "com/example/topping_out/toppingout/game/Player" "certificates" "I" (.int p7_3) ∧ Fld Z h a7_0 "com/example/topping_out/toppingout/game/Player" "awards" "I" (.int p7_4)
set_option maxRecDepth 65536 in
set_option maxHeartbeats 40000000 in
theorem own_rm7 (l : Launch) (Z : State) (a0 : Array Value) (hw : ∀ d ∈ tables_1, d.before a0 Z = true) (ws : List Jvm.Cond) (a7_0 : Addr) (a7_1 : Addr) (p7_2 : Int32) (p7_3 : Int32) (p7_4 : Int32) (u_name_a7_0 : Value) (u_expert_a7_0 : Value) (u_certificates_a7_0 : Value) (u_awards_a7_0 : Value) (h0 : Heap) (n0 : Nat) (Z0 : n0 ≤ h0.size) (E_a7_0 : Exa Z h0 a7_0 "com/example/topping_out/toppingout/game/Player") (F_name_a7_0 : Fld Z h0 a7_0 "com/example/topping_out/toppingout/game/Player" "name" "Ljava/lang/String;" u_name_a7_0) (ge_a7_0 : n0 ≤ a7_0) (F_expert_a7_0 : Fld Z h0 a7_0 "com/example/topping_out/toppingout/game/Player" "expert" "Z" u_expert_a7_0) (F_certificates_a7_0 : Fld Z h0 a7_0 "com/example/topping_out/toppingout/game/Player" "certificates" "I" u_certificates_a7_0) (F_awards_a7_0 : Fld Z h0 a7_0 "com/example/topping_out/toppingout/game/Player" "awards" "I" u_awards_a7_0) :
    MetFree l (⟨"com/example/topping_out/toppingout/game/Player", "<init>", "(Ljava/lang/String;ZII)V"⟩ : MethodName) (head1 (Jvm.Cond.code (⟨"com/example/topping_out/toppingout/game/Player", "<init>", "(Ljava/lang/String;ZII)V"⟩ : MethodName) prog_6_method_1_code 5 none :: ws) ({ frames := 2, cells := 0, slots := 0, locals := 24 } : Room)) (fun a U => a = #[(.ref a7_0), (.ref a7_1), (.int p7_2), (.int p7_3), (.int p7_4)] ∧ Z.Warmed39 U.vm ∧ U.heap = h0) (fun _ _ _ _ _ => True) (fun _ U o U' => ∃ v L, o = .returned v ∧ own_Q7 Z a7_0 a7_1 p7_2 p7_3 p7_4 u_name_a7_0 u_expert_a7_0 u_certificates_a7_0 u_awards_a7_0 h0 n0 v U'.heap L ∧ FrameEnd U o U' L ({ frames := 2, cells := 0, slots := 0, locals := 24 } : Room).cells ({ frames := 2, cells := 0, slots := 0, locals := 24 } : Room).slots) := by
  refine MetFree.of_bodySF (plainFor_of_name pn_com_example_topping_out_toppingout_game_Player) hisR ?_
  intro p e s m args below meth c s₁ Bd hml0 hP hK
  obtain ⟨rfl, hZ, hh⟩ := hP
  have hx := Bd.exec
  have hby := Bd.bytes
  have hlk : meth.locks = false := BodyLoose.notSynchronized Bd
  have hml : c.maxLocals = 5 := hml0
  have hown : s.vm.findClass "com/example/topping_out/toppingout/game/Player" = some m.cls := findClass_of_methodNamed Bd.named
  have hnm := (name_of_methodNamed Bd.named Bd.method).1
  have X0 : Stand p l e ({ frames := 2, cells := 0, slots := 0, locals := 24 } : Room) s m #[(.ref a7_0), (.ref a7_1), (.int p7_2), (.int p7_3), (.int p7_4)] below meth c s₁ [] 0 0 := Stand.of_body Bd
  have e0 : s₁.heap = h0 := by rw [← hh, Bd.state]; rfl
  have N0 := Fr.nil n0
  show own_Go p e below (own_P s below ({ frames := 2, cells := 0, slots := 0, locals := 24 } : Room) (own_Q7 Z a7_0 a7_1 p7_2 p7_3 p7_4 u_name_a7_0 u_expert_a7_0 u_certificates_a7_0 u_awards_a7_0 h0 n0)) s₁ (entryFrame m #[(.ref a7_0), (.ref a7_1), (.int p7_2), (.int p7_3), (.int p7_4)] 5)
  refine own_in (own_ef7 m a7_0 a7_1 p7_2 p7_3 p7_4) ?_
  refine own_by (T' := s₁) (g' := (mkF m 1 #[.val (.ref a7_0), .val (.ref a7_1), .val (.int p7_2), .val (.int p7_3), .val (.int p7_4)] [(.ref a7_0)])) (fun t k => ?_) ?_
  · show Steps p.tables e below (s₁.setTop (mkF m 0 #[.val (.ref a7_0), .val (.ref a7_1), .val (.int p7_2), .val (.int p7_3), .val (.int p7_4)] [])) t
    refine XS.aloadN X0.here hx rfl (hb hby d7_0) rfl rfl ?_
    show Steps p.tables e below (s₁.setTop (mkF m 1 #[.val (.ref a7_0), .val (.ref a7_1), .val (.int p7_2), .val (.int p7_3), .val (.int p7_4)] [(.ref a7_0)])) t
    exact k
  obtain ⟨v2, _, ⟨T2, L2, k2, n2⟩, -, X2, ⟨Lc2, hQ2, l2, y2, z2⟩, st2⟩ := X0.specialBack hx (y := (⟨"java/lang/Record", "<init>", "()V"⟩ : MethodName)) rfl hown (mvT hZ (hw _ (List.mem_of_getElem? (i := 36) rfl))) (mvT hZ (hw _ (List.mem_of_getElem? (i := 37) rfl))) (mvT hZ (hw _ (List.mem_of_getElem? (i := 40) rfl))) (by decide) (backOf (W := 0) (own_rm8 l Z a0 hw [] a7_0 h0 n0 Z0) hZ (hw _ (List.mem_of_getElem? (i := 40) rfl)) (hw _ (List.mem_of_getElem? (i := 39) rfl)) (by decide) (by decide)) (g := (mkF m 1 #[.val (.ref a7_0), .val (.ref a7_1), .val (.int p7_2), .val (.int p7_3), .val (.int p7_4)] [(.ref a7_0)])) rfl (by rw [hml]; rfl) (Steps.refl _) (a := a7_0) (argsL := []) (rest := []) (lenOf pd___V rfl) rfl (by show 2 * 0 + _ ≤ _; exact Nat.le_of_eq rfl) (hb hby d7_1) (fun _ _ => ⟨rfl, e0, (by decide : 0 + 0 ≤ _), (by decide : 0 + 0 ≤ _)⟩)
  dsimp only [Pt.U, Pt.locs, Pt.cells, Pt.slots] at X2 l2 y2 z2 st2 hQ2
  subst l2 y2 z2
  obtain ⟨rfl, M2, K2⟩ := hQ2
  have f3 := E_a7_0.keep K2
  have f4 := F_name_a7_0.keep K2 nin0
  have f5 := F_expert_a7_0.keep K2 nin0
  have f6 := F_certificates_a7_0.keep K2 nin0
  have f7 := F_awards_a7_0.keep K2 nin0
  have K8 : Keep h0 T2.heap [a7_0] := (Keep.refl h0 [a7_0]).trans K2 all0
  have Z9 := Nat.le_trans Z0 K2.1
  have N10 := Fr.app N0 M2
  refine own_via (T' := T2) (g' := (mkF m 4 #[.val (.ref a7_0), .val (.ref a7_1), .val (.int p7_2), .val (.int p7_3), .val (.int p7_4)] [])) st2 ?_
  refine own_by (T' := T2) (g' := (mkF m 6 #[.val (.ref a7_0), .val (.ref a7_1), .val (.int p7_2), .val (.int p7_3), .val (.int p7_4)] [(.ref a7_1), (.ref a7_0)])) (fun t k => ?_) ?_
  · show Steps p.tables e below (T2.setTop (mkF m 4 #[.val (.ref a7_0), .val (.ref a7_1), .val (.int p7_2), .val (.int p7_3), .val (.int p7_4)] [])) t
    refine XS.aloadN X2.here hx rfl (hb hby d7_4) rfl rfl ?_
    show Steps p.tables e below (T2.setTop (mkF m 5 #[.val (.ref a7_0), .val (.ref a7_1), .val (.int p7_2), .val (.int p7_3), .val (.int p7_4)] [(.ref a7_0)])) t
    refine XS.aloadN X2.here hx rfl (hb hby d7_5) rfl rfl ?_
    show Steps p.tables e below (T2.setTop (mkF m 6 #[.val (.ref a7_0), .val (.ref a7_1), .val (.int p7_2), .val (.int p7_3), .val (.int p7_4)] [(.ref a7_1), (.ref a7_0)])) t
    exact k
  obtain ⟨T11, h11, X11, e11, W11, st11⟩ := putF X2 hx hZ hown (host := "") (Or.inl (hw _ (List.mem_of_getElem? (i := 42) rfl))) Via.refl rfl f4 f3 (Or.inr ⟨(hw _ (List.mem_of_getElem? (i := 43) rfl)), rfl, hnm⟩) (hw _ (List.mem_of_getElem? (i := 31) rfl)) (ty := (.object "java/lang/String")) (by decide) rfl rfl (g := (mkF m 6 #[.val (.ref a7_0), .val (.ref a7_1), .val (.int p7_2), .val (.int p7_3), .val (.int p7_4)] [(.ref a7_1), (.ref a7_0)])) rfl rfl (hb hby d7_6)
  have f12 := f4.same W11
  have f13 := f3.wr W11
  have f15 := f5.other W11 (Or.inr (slot_ne (Or.inr (hw _ (List.mem_of_getElem? (i := 45) rfl))) (Or.inr (hw _ (List.mem_of_getElem? (i := 43) rfl))) (by decide) (t := .boolean) (t' := (.object "java/lang/String")) (by decide) (by decide)))
  have f16 := f6.other W11 (Or.inr (slot_ne (Or.inr (hw _ (List.mem_of_getElem? (i := 47) rfl))) (Or.inr (hw _ (List.mem_of_getElem? (i := 43) rfl))) (by decide) (t := .int) (t' := (.object "java/lang/String")) (by decide) (by decide)))
  have f17 := f7.other W11 (Or.inr (slot_ne (Or.inr (hw _ (List.mem_of_getElem? (i := 49) rfl))) (Or.inr (hw _ (List.mem_of_getElem? (i := 43) rfl))) (by decide) (t := .int) (t' := (.object "java/lang/String")) (by decide) (by decide)))
  have K18 : Keep h0 h11 [a7_0] := K8.wr W11 (Or.inl (List.mem_of_getElem? (i := 0) rfl))
  have N19 := Fr.snoc X11 N10 ge_a7_0
  have Z20 := (Nat.le_trans Z9 (Keep.of_wr W11).1)
  refine own_by (T' := T11) (g' := (mkF m 9 #[.val (.ref a7_0), .val (.ref a7_1), .val (.int p7_2), .val (.int p7_3), .val (.int p7_4)] [])) st11 ?_
  refine own_by (T' := T11) (g' := (mkF m 11 #[.val (.ref a7_0), .val (.ref a7_1), .val (.int p7_2), .val (.int p7_3), .val (.int p7_4)] [(.int p7_2), (.ref a7_0)])) (fun t k => ?_) ?_
  · show Steps p.tables e below (T11.setTop (mkF m 9 #[.val (.ref a7_0), .val (.ref a7_1), .val (.int p7_2), .val (.int p7_3), .val (.int p7_4)] [])) t
    refine XS.aloadN X11.here hx rfl (hb hby d7_9) rfl rfl ?_
    show Steps p.tables e below (T11.setTop (mkF m 10 #[.val (.ref a7_0), .val (.ref a7_1), .val (.int p7_2), .val (.int p7_3), .val (.int p7_4)] [(.ref a7_0)])) t
    refine XS.iloadN X11.here hx rfl (hb hby d7_10) rfl ?_
    show Steps p.tables e below (T11.setTop (mkF m 11 #[.val (.ref a7_0), .val (.ref a7_1), .val (.int p7_2), .val (.int p7_3), .val (.int p7_4)] [(.int p7_2), (.ref a7_0)])) t
    exact k
  obtain ⟨T21, h21, X21, e21, W21, st21⟩ := putFN X11 hx hZ hown (hw _ (List.mem_of_getElem? (i := 44) rfl)) Via.refl e11 f15 f13 (Or.inr ⟨(hw _ (List.mem_of_getElem? (i := 45) rfl)), rfl, hnm⟩) (hw _ (List.mem_of_getElem? (i := 31) rfl)) (ty := .boolean) (v' := (.int (nar .boolean p7_2))) (by decide) rfl (fits_nar_bool _) (g := (mkF m 11 #[.val (.ref a7_0), .val (.ref a7_1), .val (.int p7_2), .val (.int p7_3), .val (.int p7_4)] [(.int p7_2), (.ref a7_0)])) rfl rfl (hb hby d7_11)
  have f22 := f15.same W21
  have f23 := f13.wr W21
  have f24 := f12.other W21 (Or.inr (slot_ne (Or.inr (hw _ (List.mem_of_getElem? (i := 43) rfl))) (Or.inr (hw _ (List.mem_of_getElem? (i := 45) rfl))) (by decide) (t := (.object "java/lang/String")) (t' := .boolean) (by decide) (by decide)))
  have f26 := f16.other W21 (Or.inr (slot_ne (Or.inr (hw _ (List.mem_of_getElem? (i := 47) rfl))) (Or.inr (hw _ (List.mem_of_getElem? (i := 45) rfl))) (by decide) (t := .int) (t' := .boolean) (by decide) (by decide)))
  have f27 := f17.other W21 (Or.inr (slot_ne (Or.inr (hw _ (List.mem_of_getElem? (i := 49) rfl))) (Or.inr (hw _ (List.mem_of_getElem? (i := 45) rfl))) (by decide) (t := .int) (t' := .boolean) (by decide) (by decide)))
  have K28 : Keep h0 h21 [a7_0] := K18.wr W21 (Or.inl (List.mem_of_getElem? (i := 0) rfl))
  have N29 := Fr.snoc X21 N19 ge_a7_0
  have Z30 := (Nat.le_trans Z20 (Keep.of_wr W21).1)
  refine own_by (T' := T21) (g' := (mkF m 14 #[.val (.ref a7_0), .val (.ref a7_1), .val (.int p7_2), .val (.int p7_3), .val (.int p7_4)] [])) st21 ?_
  refine own_by (T' := T21) (g' := (mkF m 16 #[.val (.ref a7_0), .val (.ref a7_1), .val (.int p7_2), .val (.int p7_3), .val (.int p7_4)] [(.int p7_3), (.ref a7_0)])) (fun t k => ?_) ?_
  · show Steps p.tables e below (T21.setTop (mkF m 14 #[.val (.ref a7_0), .val (.ref a7_1), .val (.int p7_2), .val (.int p7_3), .val (.int p7_4)] [])) t
    refine XS.aloadN X21.here hx rfl (hb hby d7_14) rfl rfl ?_
    show Steps p.tables e below (T21.setTop (mkF m 15 #[.val (.ref a7_0), .val (.ref a7_1), .val (.int p7_2), .val (.int p7_3), .val (.int p7_4)] [(.ref a7_0)])) t
    refine XS.iloadN X21.here hx rfl (hb hby d7_15) rfl ?_
    show Steps p.tables e below (T21.setTop (mkF m 16 #[.val (.ref a7_0), .val (.ref a7_1), .val (.int p7_2), .val (.int p7_3), .val (.int p7_4)] [(.int p7_3), (.ref a7_0)])) t
    exact k
  obtain ⟨T31, h31, X31, e31, W31, st31⟩ := putF X21 hx hZ hown (host := "") (Or.inl (hw _ (List.mem_of_getElem? (i := 46) rfl))) Via.refl e21 f26 f23 (Or.inr ⟨(hw _ (List.mem_of_getElem? (i := 47) rfl)), rfl, hnm⟩) (hw _ (List.mem_of_getElem? (i := 31) rfl)) (ty := .int) (by decide) rfl rfl (g := (mkF m 16 #[.val (.ref a7_0), .val (.ref a7_1), .val (.int p7_2), .val (.int p7_3), .val (.int p7_4)] [(.int p7_3), (.ref a7_0)])) rfl rfl (hb hby d7_16)
  have f32 := f26.same W31
  have f33 := f23.wr W31
  have f34 := f24.other W31 (Or.inr (slot_ne (Or.inr (hw _ (List.mem_of_getElem? (i := 43) rfl))) (Or.inr (hw _ (List.mem_of_getElem? (i := 47) rfl))) (by decide) (t := (.object "java/lang/String")) (t' := .int) (by decide) (by decide)))
  have f35 := f22.other W31 (Or.inr (slot_ne (Or.inr (hw _ (List.mem_of_getElem? (i := 45) rfl))) (Or.inr (hw _ (List.mem_of_getElem? (i := 47) rfl))) (by decide) (t := .boolean) (t' := .int) (by decide) (by decide)))
  have f37 := f27.other W31 (Or.inr (slot_ne (Or.inr (hw _ (List.mem_of_getElem? (i := 49) rfl))) (Or.inr (hw _ (List.mem_of_getElem? (i := 47) rfl))) (by decide) (t := .int) (t' := .int) (by decide) (by decide)))
  have K38 : Keep h0 h31 [a7_0] := K28.wr W31 (Or.inl (List.mem_of_getElem? (i := 0) rfl))
  have N39 := Fr.snoc X31 N29 ge_a7_0
  have Z40 := (Nat.le_trans Z30 (Keep.of_wr W31).1)
  refine own_by (T' := T31) (g' := (mkF m 19 #[.val (.ref a7_0), .val (.ref a7_1), .val (.int p7_2), .val (.int p7_3), .val (.int p7_4)] [])) st31 ?_
  refine own_by (T' := T31) (g' := (mkF m 22 #[.val (.ref a7_0), .val (.ref a7_1), .val (.int p7_2), .val (.int p7_3), .val (.int p7_4)] [(.int p7_4), (.ref a7_0)])) (fun t k => ?_) ?_
  · show Steps p.tables e below (T31.setTop (mkF m 19 #[.val (.ref a7_0), .val (.ref a7_1), .val (.int p7_2), .val (.int p7_3), .val (.int p7_4)] [])) t
    refine XS.aloadN X31.here hx rfl (hb hby d7_19) rfl rfl ?_
    show Steps p.tables e below (T31.setTop (mkF m 20 #[.val (.ref a7_0), .val (.ref a7_1), .val (.int p7_2), .val (.int p7_3), .val (.int p7_4)] [(.ref a7_0)])) t
    refine XS.iload X31.here hx rfl (hb hby d7_20) rfl ?_
    show Steps p.tables e below (T31.setTop (mkF m 22 #[.val (.ref a7_0), .val (.ref a7_1), .val (.int p7_2), .val (.int p7_3), .val (.int p7_4)] [(.int p7_4), (.ref a7_0)])) t
    exact k
  obtain ⟨T41, h41, X41, e41, W41, st41⟩ := putF X31 hx hZ hown (host := "") (Or.inl (hw _ (List.mem_of_getElem? (i := 48) rfl))) Via.refl e31 f37 f33 (Or.inr ⟨(hw _ (List.mem_of_getElem? (i := 49) rfl)), rfl, hnm⟩) (hw _ (List.mem_of_getElem? (i := 31) rfl)) (ty := .int) (by decide) rfl rfl (g := (mkF m 22 #[.val (.ref a7_0), .val (.ref a7_1), .val (.int p7_2), .val (.int p7_3), .val (.int p7_4)] [(.int p7_4), (.ref a7_0)])) rfl rfl (hb hby d7_22)
  have f42 := f37.same W41
  have f43 := f33.wr W41
  have f44 := f34.other W41 (Or.inr (slot_ne (Or.inr (hw _ (List.mem_of_getElem? (i := 43) rfl))) (Or.inr (hw _ (List.mem_of_getElem? (i := 49) rfl))) (by decide) (t := (.object "java/lang/String")) (t' := .int) (by decide) (by decide)))
  have f45 := f35.other W41 (Or.inr (slot_ne (Or.inr (hw _ (List.mem_of_getElem? (i := 45) rfl))) (Or.inr (hw _ (List.mem_of_getElem? (i := 49) rfl))) (by decide) (t := .boolean) (t' := .int) (by decide) (by decide)))
  have f46 := f32.other W41 (Or.inr (slot_ne (Or.inr (hw _ (List.mem_of_getElem? (i := 47) rfl))) (Or.inr (hw _ (List.mem_of_getElem? (i := 49) rfl))) (by decide) (t := .int) (t' := .int) (by decide) (by decide)))
  have K48 : Keep h0 h41 [a7_0] := K38.wr W41 (Or.inl (List.mem_of_getElem? (i := 0) rfl))
  have N49 := Fr.snoc X41 N39 ge_a7_0
  have Z50 := (Nat.le_trans Z40 (Keep.of_wr W41).1)
  refine own_by (T' := T41) (g' := (mkF m 25 #[.val (.ref a7_0), .val (.ref a7_1), .val (.int p7_2), .val (.int p7_3), .val (.int p7_4)] [])) st41 ?_
  exact own_ret0 X41 hx Bd.returns (hb hby d7_25) hlk (by decide) (by decide) (by rw [e41]; exact ⟨rfl, N49, K48, f43, f44, f45, f46, f42⟩)
theorem d9_0 : decode prog_6_method_3_code 0 = .ok (.new 8, 3) := by decide +kernel
theorem d9_3 : decode prog_6_method_3_code 3 = .ok (.dup, 1) := by decide +kernel
theorem d9_4 : decode prog_6_method_3_code 4 = .ok (.aload_n 0, 1) := by decide +kernel
theorem d9_5 : decode prog_6_method_3_code 5 = .ok (.getfield 7, 3) := by decide +kernel
theorem d9_8 : decode prog_6_method_3_code 8 = .ok (.aload_n 0, 1) := by decide +kernel
theorem d9_9 : decode prog_6_method_3_code 9 = .ok (.getfield 13, 3) := by decide +kernel
theorem d9_12 : decode prog_6_method_3_code 12 = .ok (.aload_n 0, 1) := by decide +kernel
theorem d9_13 : decode prog_6_method_3_code 13 = .ok (.getfield 17, 3) := by decide +kernel
theorem d9_16 : decode prog_6_method_3_code 16 = .ok (.iconst 1, 1) := by decide +kernel
theorem d9_17 : decode prog_6_method_3_code 17 = .ok (.isub, 1) := by decide +kernel
theorem d9_18 : decode prog_6_method_3_code 18 = .ok (.aload_n 0, 1) := by decide +kernel
theorem d9_19 : decode prog_6_method_3_code 19 = .ok (.getfield 21, 3) := by decide +kernel
theorem d9_22 : decode prog_6_method_3_code 22 = .ok (.invokespecial 24, 3) := by decide +kernel
theorem pd__Ljava_lang_String_ZII_V : parseMethodDescriptor "(Ljava/lang/String;ZII)V" = some ⟨[(.object "java/lang/String"), .boolean, .int, .int], none⟩ := by decide +kernel
theorem d9_25 : decode prog_6_method_3_code 25 = .ok (.areturn, 1) := by decide +kernel
theorem own_ef9 (m : MethodId) (x0 : Addr) : entryFrame m #[(.ref x0)] 1 = mkF m 0 #[.val (.ref x0)] [] := by first | (simp [entryFrame, mkF, argsToLocals, Value.category]; done) | rfl
def own_Q9 (Z : State) (a9_0 : Addr) (w_name_a9_0 : Addr) (w_expert_a9_0 : Int32) (w_certificates_a9_0 : Int32) (w_awards_a9_0 : Int32) (h0 : Heap) (n0 : Nat) (v : Option Value) (h : Heap) (L : List Loc) : Prop := ∃ b : Addr, v = some (.ref b) ∧ Fr n0 L ∧ Keep h0 h [] ∧ h0.size ≤ b ∧ n0 ≤ b ∧ Exa Z h b "com/example/topping_out/toppingout/game/Player" ∧ Fld Z h b "com/example/topping_out/toppingout/game/Player" "name" "Ljava/lang/String;" (.ref w_name_a9_0) ∧ Fld Z h b "com/example/topping_out/toppingout/game/Player" "expert" "Z" (.int (nar .boolean w_expert_a9_0)) ∧ Fld Z h b "com/example/topping_out/toppingout/game/Player" "certificates" "I" (.int (w_certificates_a9_0 - (1 : Int32))) ∧ Fld Z h b "com/example/topping_out/toppingout/game/Player" "awards" "I" (.int w_awards_a9_0)
set_option maxRecDepth 65536 in
set_option maxHeartbeats 40000000 in
theorem own_rm9 (l : Launch) (Z : State) (a0 : Array Value) (hw : ∀ d ∈ tables_1, d.before a0 Z = true) (ws : List Jvm.Cond) (a9_0 : Addr) (w_name_a9_0 : Addr) (w_expert_a9_0 : Int32) (w_certificates_a9_0 : Int32) (w_awards_a9_0 : Int32) (h0 : Heap) (n0 : Nat) (Z0 : n0 ≤ h0.size) (F_name_a9_0 : Fld Z h0 a9_0 "com/example/topping_out/toppingout/game/Player" "name" "Ljava/lang/String;" (.ref w_name_a9_0)) (F_expert_a9_0 : Fld Z h0 a9_0 "com/example/topping_out/toppingout/game/Player" "expert" "Z" (.int w_expert_a9_0)) (F_certificates_a9_0 : Fld Z h0 a9_0 "com/example/topping_out/toppingout/game/Player" "certificates" "I" (.int w_certificates_a9_0)) (F_awards_a9_0 : Fld Z h0 a9_0 "com/example/topping_out/toppingout/game/Player" "awards" "I" (.int w_awards_a9_0)) :
    MetFree l (⟨"com/example/topping_out/toppingout/game/Player", "lessACertificate", "()Lcom/example/topping_out/toppingout/game/Player;"⟩ : MethodName) (head1 (Jvm.Cond.code (⟨"com/example/topping_out/toppingout/game/Player", "lessACertificate", "()Lcom/example/topping_out/toppingout/game/Player;"⟩ : MethodName) prog_6_method_3_code 1 (some (.object "com/example/topping_out/toppingout/game/Player")) :: ws) ({ frames := 3, cells := 1, slots := 4, locals := 41 } : Room)) (fun a U => a = #[(.ref a9_0)] ∧ Z.Warmed39 U.vm ∧ U.heap = h0) (fun _ _ _ _ _ => True) (fun _ U o U' => ∃ v L, o = .returned v ∧ own_Q9 Z a9_0 w_name_a9_0 w_expert_a9_0 w_certificates_a9_0 w_awards_a9_0 h0 n0 v U'.heap L ∧ FrameEnd U o U' L ({ frames := 3, cells := 1, slots := 4, locals := 41 } : Room).cells ({ frames := 3, cells := 1, slots := 4, locals := 41 } : Room).slots) := by
  refine MetFree.of_bodySF (plainFor_of_name pn_com_example_topping_out_toppingout_game_Player) hisR ?_
  intro p e s m args below meth c s₁ Bd hml0 hP hK
  obtain ⟨rfl, hZ, hh⟩ := hP
  have hx := Bd.exec
  have hby := Bd.bytes
  have hlk : meth.locks = false := BodyLoose.notSynchronized Bd
  have hml : c.maxLocals = 1 := hml0
  have hown : s.vm.findClass "com/example/topping_out/toppingout/game/Player" = some m.cls := findClass_of_methodNamed Bd.named
  have hnm := (name_of_methodNamed Bd.named Bd.method).1
  have X0 : Stand p l e ({ frames := 3, cells := 1, slots := 4, locals := 41 } : Room) s m #[(.ref a9_0)] below meth c s₁ [] 0 0 := Stand.of_body Bd
  have e0 : s₁.heap = h0 := by rw [← hh, Bd.state]; rfl
  have N0 := Fr.nil n0
  show own_Go p e below (own_P s below ({ frames := 3, cells := 1, slots := 4, locals := 41 } : Room) (own_Q9 Z a9_0 w_name_a9_0 w_expert_a9_0 w_certificates_a9_0 w_awards_a9_0 h0 n0)) s₁ (entryFrame m #[(.ref a9_0)] 1)
  refine own_in (own_ef9 m a9_0) ?_
  obtain ⟨T51, h51, X51, e51, E51, A51, D51, -, st51⟩ := newO X0 hx hZ hown (hw _ (List.mem_of_getElem? (i := 55) rfl)) (hw _ (List.mem_of_getElem? (i := 31) rfl)) (hw _ (List.mem_of_getElem? (i := 32) rfl)) e0 (g := (mkF m 0 #[.val (.ref a9_0)] [])) rfl (hb hby d9_0) (by decide) (by decide)
  obtain ⟨b51, g51⟩ : ∃ z, z = h0.size := ⟨_, rfl⟩
  rw [← g51] at A51 D51 st51
  have gn_b51 : n0 ≤ b51 := Nat.le_trans Z0 (Nat.le_of_eq g51.symm)
  have sz_b51 : h0.size ≤ b51 := Nat.le_trans (Keep.refl h0 []).1 (Nat.le_of_eq g51.symm)
  have ne_a9_0_b51 : a9_0 ≠ b51 := Nat.ne_of_lt (Nat.lt_of_lt_of_le F_awards_a9_0.lt (Nat.le_of_eq g51.symm))
  have f52 := F_name_a9_0.ext E51
  have f53 := F_expert_a9_0.ext E51
  have f54 := F_certificates_a9_0.ext E51
  have f55 := F_awards_a9_0.ext E51
  have K56 : Keep h0 h51 [] := (Keep.refl h0 []).ext E51
  have Z57 := Nat.le_trans Z0 E51.1
  have f58 : Fld Z h51 b51 "com/example/topping_out/toppingout/game/Player" "name" "Ljava/lang/String;" .null := D51 (Or.inr (hw _ (List.mem_of_getElem? (i := 43) rfl))) (ty := (.object "java/lang/String")) (by decide)
  have f59 : Fld Z h51 b51 "com/example/topping_out/toppingout/game/Player" "expert" "Z" (.int (0 : Int32)) := D51 (Or.inr (hw _ (List.mem_of_getElem? (i := 45) rfl))) (ty := .boolean) (by decide)
  have f60 : Fld Z h51 b51 "com/example/topping_out/toppingout/game/Player" "certificates" "I" (.int (0 : Int32)) := D51 (Or.inr (hw _ (List.mem_of_getElem? (i := 47) rfl))) (ty := .int) (by decide)
  have f61 : Fld Z h51 b51 "com/example/topping_out/toppingout/game/Player" "awards" "I" (.int (0 : Int32)) := D51 (Or.inr (hw _ (List.mem_of_getElem? (i := 49) rfl))) (ty := .int) (by decide)
  refine own_by (T' := T51) (g' := (mkF m 3 #[.val (.ref a9_0)] [(.ref b51)])) st51 ?_
  refine own_by (T' := T51) (g' := (mkF m 5 #[.val (.ref a9_0)] [(.ref a9_0), (.ref b51), (.ref b51)])) (fun t k => ?_) ?_
  · show Steps p.tables e below (T51.setTop (mkF m 3 #[.val (.ref a9_0)] [(.ref b51)])) t
    refine XS.dup X51.here hx rfl (hb hby d9_3) rfl rfl ?_
    show Steps p.tables e below (T51.setTop (mkF m 4 #[.val (.ref a9_0)] [(.ref b51), (.ref b51)])) t
    refine XS.aloadN X51.here hx rfl (hb hby d9_4) rfl rfl ?_
    show Steps p.tables e below (T51.setTop (mkF m 5 #[.val (.ref a9_0)] [(.ref a9_0), (.ref b51), (.ref b51)])) t
    exact k
  obtain ⟨T62, X62, e62, st62⟩ := getF X51 hx hZ hown (host := "") (Or.inl (hw _ (List.mem_of_getElem? (i := 42) rfl))) Via.refl e51 f52 (g := (mkF m 5 #[.val (.ref a9_0)] [(.ref a9_0), (.ref b51), (.ref b51)])) rfl rfl (hb hby d9_5)
  refine own_by (T' := T62) (g' := (mkF m 8 #[.val (.ref a9_0)] [(.ref w_name_a9_0), (.ref b51), (.ref b51)])) st62 ?_
  refine own_by (T' := T62) (g' := (mkF m 9 #[.val (.ref a9_0)] [(.ref a9_0), (.ref w_name_a9_0), (.ref b51), (.ref b51)])) (fun t k => ?_) ?_
  · show Steps p.tables e below (T62.setTop (mkF m 8 #[.val (.ref a9_0)] [(.ref w_name_a9_0), (.ref b51), (.ref b51)])) t
    refine XS.aloadN X62.here hx rfl (hb hby d9_8) rfl rfl ?_
    show Steps p.tables e below (T62.setTop (mkF m 9 #[.val (.ref a9_0)] [(.ref a9_0), (.ref w_name_a9_0), (.ref b51), (.ref b51)])) t
    exact k
  obtain ⟨T63, X63, e63, st63⟩ := getF X62 hx hZ hown (host := "") (Or.inl (hw _ (List.mem_of_getElem? (i := 44) rfl))) Via.refl e62 f53 (g := (mkF m 9 #[.val (.ref a9_0)] [(.ref a9_0), (.ref w_name_a9_0), (.ref b51), (.ref b51)])) rfl rfl (hb hby d9_9)
  refine own_by (T' := T63) (g' := (mkF m 12 #[.val (.ref a9_0)] [(.int w_expert_a9_0), (.ref w_name_a9_0), (.ref b51), (.ref b51)])) st63 ?_
  refine own_by (T' := T63) (g' := (mkF m 13 #[.val (.ref a9_0)] [(.ref a9_0), (.int w_expert_a9_0), (.ref w_name_a9_0), (.ref b51), (.ref b51)])) (fun t k => ?_) ?_
  · show Steps p.tables e below (T63.setTop (mkF m 12 #[.val (.ref a9_0)] [(.int w_expert_a9_0), (.ref w_name_a9_0), (.ref b51), (.ref b51)])) t
    refine XS.aloadN X63.here hx rfl (hb hby d9_12) rfl rfl ?_
    show Steps p.tables e below (T63.setTop (mkF m 13 #[.val (.ref a9_0)] [(.ref a9_0), (.int w_expert_a9_0), (.ref w_name_a9_0), (.ref b51), (.ref b51)])) t
    exact k
  obtain ⟨T64, X64, e64, st64⟩ := getF X63 hx hZ hown (host := "") (Or.inl (hw _ (List.mem_of_getElem? (i := 46) rfl))) Via.refl e63 f54 (g := (mkF m 13 #[.val (.ref a9_0)] [(.ref a9_0), (.int w_expert_a9_0), (.ref w_name_a9_0), (.ref b51), (.ref b51)])) rfl rfl (hb hby d9_13)
  refine own_by (T' := T64) (g' := (mkF m 16 #[.val (.ref a9_0)] [(.int w_certificates_a9_0), (.int w_expert_a9_0), (.ref w_name_a9_0), (.ref b51), (.ref b51)])) st64 ?_
  refine own_by (T' := T64) (g' := (mkF m 19 #[.val (.ref a9_0)] [(.ref a9_0), (.int (w_certificates_a9_0 - (1 : Int32))), (.int w_expert_a9_0), (.ref w_name_a9_0), (.ref b51), (.ref b51)])) (fun t k => ?_) ?_
  · show Steps p.tables e below (T64.setTop (mkF m 16 #[.val (.ref a9_0)] [(.int w_certificates_a9_0), (.int w_expert_a9_0), (.ref w_name_a9_0), (.ref b51), (.ref b51)])) t
    refine XS.iconst X64.here hx rfl (hb hby d9_16) ?_
    show Steps p.tables e below (T64.setTop (mkF m 17 #[.val (.ref a9_0)] [(.int (1 : Int32)), (.int w_certificates_a9_0), (.int w_expert_a9_0), (.ref w_name_a9_0), (.ref b51), (.ref b51)])) t
    refine XS.isub X64.here hx rfl (hb hby d9_17) rfl ?_
    show Steps p.tables e below (T64.setTop (mkF m 18 #[.val (.ref a9_0)] [(.int (w_certificates_a9_0 - (1 : Int32))), (.int w_expert_a9_0), (.ref w_name_a9_0), (.ref b51), (.ref b51)])) t
    refine XS.aloadN X64.here hx rfl (hb hby d9_18) rfl rfl ?_
    show Steps p.tables e below (T64.setTop (mkF m 19 #[.val (.ref a9_0)] [(.ref a9_0), (.int (w_certificates_a9_0 - (1 : Int32))), (.int w_expert_a9_0), (.ref w_name_a9_0), (.ref b51), (.ref b51)])) t
    exact k
  obtain ⟨T65, X65, e65, st65⟩ := getF X64 hx hZ hown (host := "") (Or.inl (hw _ (List.mem_of_getElem? (i := 48) rfl))) Via.refl e64 f55 (g := (mkF m 19 #[.val (.ref a9_0)] [(.ref a9_0), (.int (w_certificates_a9_0 - (1 : Int32))), (.int w_expert_a9_0), (.ref w_name_a9_0), (.ref b51), (.ref b51)])) rfl rfl (hb hby d9_19)
  refine own_by (T' := T65) (g' := (mkF m 22 #[.val (.ref a9_0)] [(.int w_awards_a9_0), (.int (w_certificates_a9_0 - (1 : Int32))), (.int w_expert_a9_0), (.ref w_name_a9_0), (.ref b51), (.ref b51)])) st65 ?_
  obtain ⟨v66, _, ⟨T66, L66, k66, n66⟩, -, X66, ⟨Lc66, hQ66, l66, y66, z66⟩, st66⟩ := X65.specialBack hx (y := (⟨"com/example/topping_out/toppingout/game/Player", "<init>", "(Ljava/lang/String;ZII)V"⟩ : MethodName)) rfl hown (mvT hZ (hw _ (List.mem_of_getElem? (i := 56) rfl))) (mvT hZ (hw _ (List.mem_of_getElem? (i := 34) rfl))) (mvT hZ (hw _ (List.mem_of_getElem? (i := 35) rfl))) (by decide) (backOf (W := 1) (own_rm7 l Z a0 hw [] b51 w_name_a9_0 w_expert_a9_0 (w_certificates_a9_0 - (1 : Int32)) w_awards_a9_0 .null (.int (0 : Int32)) (.int (0 : Int32)) (.int (0 : Int32)) h51 n0 Z57 A51 f58 gn_b51 f59 f60 f61) hZ (hw _ (List.mem_of_getElem? (i := 35) rfl)) (hw _ (List.mem_of_getElem? (i := 32) rfl)) (by decide) (by decide)) (g := (mkF m 22 #[.val (.ref a9_0)] [(.int w_awards_a9_0), (.int (w_certificates_a9_0 - (1 : Int32))), (.int w_expert_a9_0), (.ref w_name_a9_0), (.ref b51), (.ref b51)])) rfl (by rw [hml]; rfl) (Steps.refl _) (a := b51) (argsL := [(.ref w_name_a9_0), (.int w_expert_a9_0), (.int (w_certificates_a9_0 - (1 : Int32))), (.int w_awards_a9_0)]) (rest := [(.ref b51)]) (lenOf pd__Ljava_lang_String_ZII_V rfl) rfl (by show 2 * 0 + _ ≤ _; exact Nat.le_of_eq rfl) (hb hby d9_22) (fun _ _ => ⟨rfl, e65, (by decide : 1 + 0 ≤ _), (by decide : 4 + 0 ≤ _)⟩)
  dsimp only [Pt.U, Pt.locs, Pt.cells, Pt.slots] at X66 l66 y66 z66 st66 hQ66
  subst l66 y66 z66
  obtain ⟨rfl, M66, K66, f67, f68, f69, f70, f71⟩ := hQ66
  have f72 := f52.keep K66 (ninS ne_a9_0_b51 nin0)
  have f73 := f53.keep K66 (ninS ne_a9_0_b51 nin0)
  have f74 := f54.keep K66 (ninS ne_a9_0_b51 nin0)
  have f75 := f55.keep K66 (ninS ne_a9_0_b51 nin0)
  have f76 := A51.keep K66
  have K77 : Keep h0 T66.heap [] := K56.trans K66 (allS (Or.inr sz_b51) all0)
  have Z78 := Nat.le_trans Z57 K66.1
  have N79 := Fr.app N0 M66
  refine own_via (T' := T66) (g' := (mkF m 25 #[.val (.ref a9_0)] [(.ref b51)])) st66 ?_
  exact own_retR X66 hx Bd.returns rfl rfl rfl (hb hby d9_25) hlk (by decide) (by decide) ⟨b51, rfl, N79, K77, sz_b51, gn_b51, f67, f68, f69, f70, f71⟩
theorem d10_0 : decode prog_6_method_10_code 0 = .ok (.aload_n 0, 1) := by decide +kernel
theorem d10_1 : decode prog_6_method_10_code 1 = .ok (.getfield 7, 3) := by decide +kernel
theorem d10_4 : decode prog_6_method_10_code 4 = .ok (.areturn, 1) := by decide +kernel
def own_F10 (a10_0 : Addr) (w_name_a10_0 : Addr) : Value := (.ref w_name_a10_0)
theorem own_ef10 (m : MethodId) (x0 : Addr) : entryFrame m #[(.ref x0)] 1 = mkF m 0 #[.val (.ref x0)] [] := by first | (simp [entryFrame, mkF, argsToLocals, Value.category]; done) | rfl
def own_Q10 (r : Value) (h0 : Heap) (n0 : Nat) (v : Option Value) (h : Heap) (L : List Loc) : Prop := v = some r ∧ Fr n0 L ∧ h = h0
set_option maxRecDepth 65536 in
set_option maxHeartbeats 40000000 in
theorem own_rm10 (l : Launch) (Z : State) (a0 : Array Value) (hw : ∀ d ∈ tables_1, d.before a0 Z = true) (ws : List Jvm.Cond) (a10_0 : Addr) (w_name_a10_0 : Addr) (h0 : Heap) (n0 : Nat) (Z0 : n0 ≤ h0.size) (F_name_a10_0 : Fld Z h0 a10_0 "com/example/topping_out/toppingout/game/Player" "name" "Ljava/lang/String;" (.ref w_name_a10_0)) :
    MetFree l (⟨"com/example/topping_out/toppingout/game/Player", "name", "()Ljava/lang/String;"⟩ : MethodName) (head1 (Jvm.Cond.code (⟨"com/example/topping_out/toppingout/game/Player", "name", "()Ljava/lang/String;"⟩ : MethodName) prog_6_method_10_code 1 (some (.object "java/lang/String")) :: ws) ({ frames := 0, cells := 0, slots := 0, locals := 0 } : Room)) (fun a U => a = #[(.ref a10_0)] ∧ Z.Warmed39 U.vm ∧ U.heap = h0) (fun _ _ _ _ _ => True) (fun _ U o U' => ∃ v L, o = .returned v ∧ own_Q10 (own_F10 a10_0 w_name_a10_0) h0 n0 v U'.heap L ∧ FrameEnd U o U' L ({ frames := 0, cells := 0, slots := 0, locals := 0 } : Room).cells ({ frames := 0, cells := 0, slots := 0, locals := 0 } : Room).slots) := by
  refine MetFree.of_bodySF (plainFor_of_name pn_com_example_topping_out_toppingout_game_Player) hisR ?_
  intro p e s m args below meth c s₁ Bd hml0 hP hK
  obtain ⟨rfl, hZ, hh⟩ := hP
  have hx := Bd.exec
  have hby := Bd.bytes
  have hlk : meth.locks = false := BodyLoose.notSynchronized Bd
  have hml : c.maxLocals = 1 := hml0
  have hown : s.vm.findClass "com/example/topping_out/toppingout/game/Player" = some m.cls := findClass_of_methodNamed Bd.named
  have hnm := (name_of_methodNamed Bd.named Bd.method).1
  have X0 : Stand p l e ({ frames := 0, cells := 0, slots := 0, locals := 0 } : Room) s m #[(.ref a10_0)] below meth c s₁ [] 0 0 := Stand.of_body Bd
  have e0 : s₁.heap = h0 := by rw [← hh, Bd.state]; rfl
  have N0 := Fr.nil n0
  show own_Go p e below (own_P s below ({ frames := 0, cells := 0, slots := 0, locals := 0 } : Room) (own_Q10 (own_F10 a10_0 w_name_a10_0) h0 n0)) s₁ (entryFrame m #[(.ref a10_0)] 1)
  refine own_in (own_ef10 m a10_0) ?_
  refine own_by (T' := s₁) (g' := (mkF m 1 #[.val (.ref a10_0)] [(.ref a10_0)])) (fun t k => ?_) ?_
  · show Steps p.tables e below (s₁.setTop (mkF m 0 #[.val (.ref a10_0)] [])) t
    refine XS.aloadN X0.here hx rfl (hb hby d10_0) rfl rfl ?_
    show Steps p.tables e below (s₁.setTop (mkF m 1 #[.val (.ref a10_0)] [(.ref a10_0)])) t
    exact k
  obtain ⟨T80, X80, e80, st80⟩ := getF X0 hx hZ hown (host := "") (Or.inl (hw _ (List.mem_of_getElem? (i := 42) rfl))) Via.refl e0 F_name_a10_0 (g := (mkF m 1 #[.val (.ref a10_0)] [(.ref a10_0)])) rfl rfl (hb hby d10_1)
  refine own_by (T' := T80) (g' := (mkF m 4 #[.val (.ref a10_0)] [(.ref w_name_a10_0)])) st80 ?_
  rw [show own_F10 a10_0 w_name_a10_0 = (.ref w_name_a10_0) from rfl]
  exact own_retR X80 hx Bd.returns rfl rfl rfl (hb hby d10_4) hlk (by decide) (by decide) ⟨rfl, N0, e80⟩
theorem d12_0 : decode prog_6_method_11_code 0 = .ok (.aload_n 0, 1) := by decide +kernel
theorem d12_1 : decode prog_6_method_11_code 1 = .ok (.getfield 13, 3) := by decide +kernel
theorem d12_4 : decode prog_6_method_11_code 4 = .ok (.ireturn, 1) := by decide +kernel
def own_F12 (w_expert_a12_0 : Int32) : Int32 := (nar .boolean w_expert_a12_0)
theorem own_ef12 (m : MethodId) (x0 : Addr) : entryFrame m #[(.ref x0)] 1 = mkF m 0 #[.val (.ref x0)] [] := by first | (simp [entryFrame, mkF, argsToLocals, Value.category]; done) | rfl
def own_Q12 (r : Int32) (h0 : Heap) (n0 : Nat) (v : Option Value) (h : Heap) (L : List Loc) : Prop := v = some (.int r) ∧ Fr n0 L ∧ h = h0
set_option maxRecDepth 65536 in
set_option maxHeartbeats 40000000 in
theorem own_rm12 (l : Launch) (Z : State) (a0 : Array Value) (hw : ∀ d ∈ tables_1, d.before a0 Z = true) (ws : List Jvm.Cond) (a12_0 : Addr) (w_expert_a12_0 : Int32) (h0 : Heap) (n0 : Nat) (Z0 : n0 ≤ h0.size) (F_expert_a12_0 : Fld Z h0 a12_0 "com/example/topping_out/toppingout/game/Player" "expert" "Z" (.int w_expert_a12_0)) :
    MetFree l (⟨"com/example/topping_out/toppingout/game/Player", "expert", "()Z"⟩ : MethodName) (head1 (Jvm.Cond.code (⟨"com/example/topping_out/toppingout/game/Player", "expert", "()Z"⟩ : MethodName) prog_6_method_11_code 1 (some .boolean) :: ws) ({ frames := 0, cells := 0, slots := 0, locals := 0 } : Room)) (fun a U => a = #[(.ref a12_0)] ∧ Z.Warmed39 U.vm ∧ U.heap = h0) (fun _ _ _ _ _ => True) (fun _ U o U' => ∃ v L, o = .returned v ∧ own_Q12 (own_F12 w_expert_a12_0) h0 n0 v U'.heap L ∧ FrameEnd U o U' L ({ frames := 0, cells := 0, slots := 0, locals := 0 } : Room).cells ({ frames := 0, cells := 0, slots := 0, locals := 0 } : Room).slots) := by
  refine MetFree.of_bodySF (plainFor_of_name pn_com_example_topping_out_toppingout_game_Player) hisR ?_
  intro p e s m args below meth c s₁ Bd hml0 hP hK
  obtain ⟨rfl, hZ, hh⟩ := hP
  have hx := Bd.exec
  have hby := Bd.bytes
  have hlk : meth.locks = false := BodyLoose.notSynchronized Bd
  have hml : c.maxLocals = 1 := hml0
  have hown : s.vm.findClass "com/example/topping_out/toppingout/game/Player" = some m.cls := findClass_of_methodNamed Bd.named
  have hnm := (name_of_methodNamed Bd.named Bd.method).1
  have X0 : Stand p l e ({ frames := 0, cells := 0, slots := 0, locals := 0 } : Room) s m #[(.ref a12_0)] below meth c s₁ [] 0 0 := Stand.of_body Bd
  have e0 : s₁.heap = h0 := by rw [← hh, Bd.state]; rfl
  have N0 := Fr.nil n0
  show own_Go p e below (own_P s below ({ frames := 0, cells := 0, slots := 0, locals := 0 } : Room) (own_Q12 (own_F12 w_expert_a12_0) h0 n0)) s₁ (entryFrame m #[(.ref a12_0)] 1)
  refine own_in (own_ef12 m a12_0) ?_
  refine own_by (T' := s₁) (g' := (mkF m 1 #[.val (.ref a12_0)] [(.ref a12_0)])) (fun t k => ?_) ?_
  · show Steps p.tables e below (s₁.setTop (mkF m 0 #[.val (.ref a12_0)] [])) t
    refine XS.aloadN X0.here hx rfl (hb hby d12_0) rfl rfl ?_
    show Steps p.tables e below (s₁.setTop (mkF m 1 #[.val (.ref a12_0)] [(.ref a12_0)])) t
    exact k
  obtain ⟨T81, X81, e81, st81⟩ := getF X0 hx hZ hown (host := "") (Or.inl (hw _ (List.mem_of_getElem? (i := 44) rfl))) Via.refl e0 F_expert_a12_0 (g := (mkF m 1 #[.val (.ref a12_0)] [(.ref a12_0)])) rfl rfl (hb hby d12_1)
  refine own_by (T' := T81) (g' := (mkF m 4 #[.val (.ref a12_0)] [(.int w_expert_a12_0)])) st81 ?_
  rw [show own_F12 w_expert_a12_0 = (nar .boolean w_expert_a12_0) from rfl]
  exact own_retN X81 hx (t := .boolean) Bd.returns (by simp) (hb hby d12_4) hlk (by decide) (by decide) ⟨rfl, N0, e81⟩
theorem d13_0 : decode prog_6_method_12_code 0 = .ok (.aload_n 0, 1) := by decide +kernel
theorem d13_1 : decode prog_6_method_12_code 1 = .ok (.getfield 17, 3) := by decide +kernel
theorem d13_4 : decode prog_6_method_12_code 4 = .ok (.ireturn, 1) := by decide +kernel
def own_F13 (w_certificates_a13_0 : Int32) : Int32 := w_certificates_a13_0
theorem own_ef13 (m : MethodId) (x0 : Addr) : entryFrame m #[(.ref x0)] 1 = mkF m 0 #[.val (.ref x0)] [] := by first | (simp [entryFrame, mkF, argsToLocals, Value.category]; done) | rfl
def own_Q13 (r : Int32) (h0 : Heap) (n0 : Nat) (v : Option Value) (h : Heap) (L : List Loc) : Prop := v = some (.int r) ∧ Fr n0 L ∧ h = h0
set_option maxRecDepth 65536 in
set_option maxHeartbeats 40000000 in
theorem own_rm13 (l : Launch) (Z : State) (a0 : Array Value) (hw : ∀ d ∈ tables_1, d.before a0 Z = true) (ws : List Jvm.Cond) (a13_0 : Addr) (w_certificates_a13_0 : Int32) (h0 : Heap) (n0 : Nat) (Z0 : n0 ≤ h0.size) (F_certificates_a13_0 : Fld Z h0 a13_0 "com/example/topping_out/toppingout/game/Player" "certificates" "I" (.int w_certificates_a13_0)) :
    MetFree l (⟨"com/example/topping_out/toppingout/game/Player", "certificates", "()I"⟩ : MethodName) (head1 (Jvm.Cond.code (⟨"com/example/topping_out/toppingout/game/Player", "certificates", "()I"⟩ : MethodName) prog_6_method_12_code 1 (some .int) :: ws) ({ frames := 0, cells := 0, slots := 0, locals := 0 } : Room)) (fun a U => a = #[(.ref a13_0)] ∧ Z.Warmed39 U.vm ∧ U.heap = h0) (fun _ _ _ _ _ => True) (fun _ U o U' => ∃ v L, o = .returned v ∧ own_Q13 (own_F13 w_certificates_a13_0) h0 n0 v U'.heap L ∧ FrameEnd U o U' L ({ frames := 0, cells := 0, slots := 0, locals := 0 } : Room).cells ({ frames := 0, cells := 0, slots := 0, locals := 0 } : Room).slots) := by
  refine MetFree.of_bodySF (plainFor_of_name pn_com_example_topping_out_toppingout_game_Player) hisR ?_
  intro p e s m args below meth c s₁ Bd hml0 hP hK
  obtain ⟨rfl, hZ, hh⟩ := hP
  have hx := Bd.exec
  have hby := Bd.bytes
  have hlk : meth.locks = false := BodyLoose.notSynchronized Bd
  have hml : c.maxLocals = 1 := hml0
  have hown : s.vm.findClass "com/example/topping_out/toppingout/game/Player" = some m.cls := findClass_of_methodNamed Bd.named
  have hnm := (name_of_methodNamed Bd.named Bd.method).1
  have X0 : Stand p l e ({ frames := 0, cells := 0, slots := 0, locals := 0 } : Room) s m #[(.ref a13_0)] below meth c s₁ [] 0 0 := Stand.of_body Bd
  have e0 : s₁.heap = h0 := by rw [← hh, Bd.state]; rfl
  have N0 := Fr.nil n0
  show own_Go p e below (own_P s below ({ frames := 0, cells := 0, slots := 0, locals := 0 } : Room) (own_Q13 (own_F13 w_certificates_a13_0) h0 n0)) s₁ (entryFrame m #[(.ref a13_0)] 1)
  refine own_in (own_ef13 m a13_0) ?_
  refine own_by (T' := s₁) (g' := (mkF m 1 #[.val (.ref a13_0)] [(.ref a13_0)])) (fun t k => ?_) ?_
  · show Steps p.tables e below (s₁.setTop (mkF m 0 #[.val (.ref a13_0)] [])) t
    refine XS.aloadN X0.here hx rfl (hb hby d13_0) rfl rfl ?_
    show Steps p.tables e below (s₁.setTop (mkF m 1 #[.val (.ref a13_0)] [(.ref a13_0)])) t
    exact k
  obtain ⟨T82, X82, e82, st82⟩ := getF X0 hx hZ hown (host := "") (Or.inl (hw _ (List.mem_of_getElem? (i := 46) rfl))) Via.refl e0 F_certificates_a13_0 (g := (mkF m 1 #[.val (.ref a13_0)] [(.ref a13_0)])) rfl rfl (hb hby d13_1)
  refine own_by (T' := T82) (g' := (mkF m 4 #[.val (.ref a13_0)] [(.int w_certificates_a13_0)])) st82 ?_
  rw [show own_F13 w_certificates_a13_0 = w_certificates_a13_0 from rfl]
  exact own_retI X82 hx Bd.returns (hb hby d13_4) hlk (by decide) (by decide) ⟨rfl, N0, e82⟩
theorem d14_0 : decode prog_6_method_13_code 0 = .ok (.aload_n 0, 1) := by decide +kernel
theorem d14_1 : decode prog_6_method_13_code 1 = .ok (.getfield 21, 3) := by decide +kernel
theorem d14_4 : decode prog_6_method_13_code 4 = .ok (.ireturn, 1) := by decide +kernel
def own_F14 (w_awards_a14_0 : Int32) : Int32 := w_awards_a14_0
theorem own_ef14 (m : MethodId) (x0 : Addr) : entryFrame m #[(.ref x0)] 1 = mkF m 0 #[.val (.ref x0)] [] := by first | (simp [entryFrame, mkF, argsToLocals, Value.category]; done) | rfl
def own_Q14 (r : Int32) (h0 : Heap) (n0 : Nat) (v : Option Value) (h : Heap) (L : List Loc) : Prop := v = some (.int r) ∧ Fr n0 L ∧ h = h0
set_option maxRecDepth 65536 in
set_option maxHeartbeats 40000000 in
theorem own_rm14 (l : Launch) (Z : State) (a0 : Array Value) (hw : ∀ d ∈ tables_1, d.before a0 Z = true) (ws : List Jvm.Cond) (a14_0 : Addr) (w_awards_a14_0 : Int32) (h0 : Heap) (n0 : Nat) (Z0 : n0 ≤ h0.size) (F_awards_a14_0 : Fld Z h0 a14_0 "com/example/topping_out/toppingout/game/Player" "awards" "I" (.int w_awards_a14_0)) :
    MetFree l (⟨"com/example/topping_out/toppingout/game/Player", "awards", "()I"⟩ : MethodName) (head1 (Jvm.Cond.code (⟨"com/example/topping_out/toppingout/game/Player", "awards", "()I"⟩ : MethodName) prog_6_method_13_code 1 (some .int) :: ws) ({ frames := 0, cells := 0, slots := 0, locals := 0 } : Room)) (fun a U => a = #[(.ref a14_0)] ∧ Z.Warmed39 U.vm ∧ U.heap = h0) (fun _ _ _ _ _ => True) (fun _ U o U' => ∃ v L, o = .returned v ∧ own_Q14 (own_F14 w_awards_a14_0) h0 n0 v U'.heap L ∧ FrameEnd U o U' L ({ frames := 0, cells := 0, slots := 0, locals := 0 } : Room).cells ({ frames := 0, cells := 0, slots := 0, locals := 0 } : Room).slots) := by
  refine MetFree.of_bodySF (plainFor_of_name pn_com_example_topping_out_toppingout_game_Player) hisR ?_
  intro p e s m args below meth c s₁ Bd hml0 hP hK
  obtain ⟨rfl, hZ, hh⟩ := hP
  have hx := Bd.exec
  have hby := Bd.bytes
  have hlk : meth.locks = false := BodyLoose.notSynchronized Bd
  have hml : c.maxLocals = 1 := hml0
  have hown : s.vm.findClass "com/example/topping_out/toppingout/game/Player" = some m.cls := findClass_of_methodNamed Bd.named
  have hnm := (name_of_methodNamed Bd.named Bd.method).1
  have X0 : Stand p l e ({ frames := 0, cells := 0, slots := 0, locals := 0 } : Room) s m #[(.ref a14_0)] below meth c s₁ [] 0 0 := Stand.of_body Bd
  have e0 : s₁.heap = h0 := by rw [← hh, Bd.state]; rfl
  have N0 := Fr.nil n0
  show own_Go p e below (own_P s below ({ frames := 0, cells := 0, slots := 0, locals := 0 } : Room) (own_Q14 (own_F14 w_awards_a14_0) h0 n0)) s₁ (entryFrame m #[(.ref a14_0)] 1)
  refine own_in (own_ef14 m a14_0) ?_
  refine own_by (T' := s₁) (g' := (mkF m 1 #[.val (.ref a14_0)] [(.ref a14_0)])) (fun t k => ?_) ?_
  · show Steps p.tables e below (s₁.setTop (mkF m 0 #[.val (.ref a14_0)] [])) t
    refine XS.aloadN X0.here hx rfl (hb hby d14_0) rfl rfl ?_
    show Steps p.tables e below (s₁.setTop (mkF m 1 #[.val (.ref a14_0)] [(.ref a14_0)])) t
    exact k
  obtain ⟨T83, X83, e83, st83⟩ := getF X0 hx hZ hown (host := "") (Or.inl (hw _ (List.mem_of_getElem? (i := 48) rfl))) Via.refl e0 F_awards_a14_0 (g := (mkF m 1 #[.val (.ref a14_0)] [(.ref a14_0)])) rfl rfl (hb hby d14_1)
  refine own_by (T' := T83) (g' := (mkF m 4 #[.val (.ref a14_0)] [(.int w_awards_a14_0)])) st83 ?_
  rw [show own_F14 w_awards_a14_0 = w_awards_a14_0 from rfl]
  exact own_retI X83 hx Bd.returns (hb hby d14_4) hlk (by decide) (by decide) ⟨rfl, N0, e83⟩
theorem d15_0 : decode prog_6_method_5_code 0 = .ok (.aload_n 0, 1) := by decide +kernel
theorem d15_1 : decode prog_6_method_5_code 1 = .ok (.getfield 17, 3) := by decide +kernel
theorem d15_4 : decode prog_6_method_5_code 4 = .ok (.ifCond .ne 7, 3) := by decide +kernel
theorem d15_7 : decode prog_6_method_5_code 7 = .ok (.iconst 1, 1) := by decide +kernel
theorem d15_8 : decode prog_6_method_5_code 8 = .ok (.goto 4, 3) := by decide +kernel
theorem d15_11 : decode prog_6_method_5_code 11 = .ok (.iconst 0, 1) := by decide +kernel
theorem d15_12 : decode prog_6_method_5_code 12 = .ok (.ireturn, 1) := by decide +kernel
def own_F15 (w_certificates_a15_0 : Int32) : Int32 := (if w_certificates_a15_0 = (0 : Int32) then (1 : Int32) else (0 : Int32))
theorem own_ef15 (m : MethodId) (x0 : Addr) : entryFrame m #[(.ref x0)] 1 = mkF m 0 #[.val (.ref x0)] [] := by first | (simp [entryFrame, mkF, argsToLocals, Value.category]; done) | rfl
def own_Q15 (r : Int32) (h0 : Heap) (n0 : Nat) (v : Option Value) (h : Heap) (L : List Loc) : Prop := v = some (.int r) ∧ Fr n0 L ∧ h = h0
set_option maxRecDepth 65536 in
set_option maxHeartbeats 40000000 in
theorem own_rm15 (l : Launch) (Z : State) (a0 : Array Value) (hw : ∀ d ∈ tables_1, d.before a0 Z = true) (ws : List Jvm.Cond) (a15_0 : Addr) (w_certificates_a15_0 : Int32) (h0 : Heap) (n0 : Nat) (Z0 : n0 ≤ h0.size) (F_certificates_a15_0 : Fld Z h0 a15_0 "com/example/topping_out/toppingout/game/Player" "certificates" "I" (.int w_certificates_a15_0)) :
    MetFree l (⟨"com/example/topping_out/toppingout/game/Player", "out", "()Z"⟩ : MethodName) (head1 (Jvm.Cond.code (⟨"com/example/topping_out/toppingout/game/Player", "out", "()Z"⟩ : MethodName) prog_6_method_5_code 1 (some .boolean) :: ws) ({ frames := 0, cells := 0, slots := 0, locals := 0 } : Room)) (fun a U => a = #[(.ref a15_0)] ∧ Z.Warmed39 U.vm ∧ U.heap = h0) (fun _ _ _ _ _ => True) (fun _ U o U' => ∃ v L, o = .returned v ∧ own_Q15 (own_F15 w_certificates_a15_0) h0 n0 v U'.heap L ∧ FrameEnd U o U' L ({ frames := 0, cells := 0, slots := 0, locals := 0 } : Room).cells ({ frames := 0, cells := 0, slots := 0, locals := 0 } : Room).slots) := by
  refine MetFree.of_bodySF (plainFor_of_name pn_com_example_topping_out_toppingout_game_Player) hisR ?_
  intro p e s m args below meth c s₁ Bd hml0 hP hK
  obtain ⟨rfl, hZ, hh⟩ := hP
  have hx := Bd.exec
  have hby := Bd.bytes
  have hlk : meth.locks = false := BodyLoose.notSynchronized Bd
  have hml : c.maxLocals = 1 := hml0
  have hown : s.vm.findClass "com/example/topping_out/toppingout/game/Player" = some m.cls := findClass_of_methodNamed Bd.named
  have hnm := (name_of_methodNamed Bd.named Bd.method).1
  have X0 : Stand p l e ({ frames := 0, cells := 0, slots := 0, locals := 0 } : Room) s m #[(.ref a15_0)] below meth c s₁ [] 0 0 := Stand.of_body Bd
  have e0 : s₁.heap = h0 := by rw [← hh, Bd.state]; rfl
  have N0 := Fr.nil n0
  show own_Go p e below (own_P s below ({ frames := 0, cells := 0, slots := 0, locals := 0 } : Room) (own_Q15 (own_F15 w_certificates_a15_0) h0 n0)) s₁ (entryFrame m #[(.ref a15_0)] 1)
  refine own_in (own_ef15 m a15_0) ?_
  refine own_by (T' := s₁) (g' := (mkF m 1 #[.val (.ref a15_0)] [(.ref a15_0)])) (fun t k => ?_) ?_
  · show Steps p.tables e below (s₁.setTop (mkF m 0 #[.val (.ref a15_0)] [])) t
    refine XS.aloadN X0.here hx rfl (hb hby d15_0) rfl rfl ?_
    show Steps p.tables e below (s₁.setTop (mkF m 1 #[.val (.ref a15_0)] [(.ref a15_0)])) t
    exact k
  obtain ⟨T84, X84, e84, st84⟩ := getF X0 hx hZ hown (host := "") (Or.inl (hw _ (List.mem_of_getElem? (i := 46) rfl))) Via.refl e0 F_certificates_a15_0 (g := (mkF m 1 #[.val (.ref a15_0)] [(.ref a15_0)])) rfl rfl (hb hby d15_1)
  refine own_by (T' := T84) (g' := (mkF m 4 #[.val (.ref a15_0)] [(.int w_certificates_a15_0)])) st84 ?_
  by_cases hc85 : w_certificates_a15_0 = (0 : Int32)
  · skip
    refine own_by (T' := T84) (g' := (mkF m 12 #[.val (.ref a15_0)] [(.int (1 : Int32))])) (fun t k => ?_) ?_
    · show Steps p.tables e below (T84.setTop (mkF m 4 #[.val (.ref a15_0)] [(.int w_certificates_a15_0)])) t
      refine XS.ifNo X84.here hx rfl (hb hby d15_4) rfl ((if0 _ _).trans (teq hc85).2) ?_
      show Steps p.tables e below (T84.setTop (mkF m 7 #[.val (.ref a15_0)] [])) t
      refine XS.iconst X84.here hx rfl (hb hby d15_7) ?_
      show Steps p.tables e below (T84.setTop (mkF m 8 #[.val (.ref a15_0)] [(.int (1 : Int32))])) t
      refine XS.goto X84.here hx rfl (pc0 := 8) (pc' := 12) rfl (hb hby d15_8) (by decide) (by decide) ?_
      show Steps p.tables e below (T84.setTop (mkF m 12 #[.val (.ref a15_0)] [(.int (1 : Int32))])) t
      exact k
    rw [show own_F15 w_certificates_a15_0 = (1 : Int32) from ((if_pos hc85).trans rfl)]
    exact own_retN X84 hx (t := .boolean) Bd.returns (by simp) (hb hby d15_12) hlk (by decide) (by decide) ⟨rfl, N0, e84⟩
  · skip
    refine own_by (T' := T84) (g' := (mkF m 12 #[.val (.ref a15_0)] [(.int (0 : Int32))])) (fun t k => ?_) ?_
    · show Steps p.tables e below (T84.setTop (mkF m 4 #[.val (.ref a15_0)] [(.int w_certificates_a15_0)])) t
      refine XS.ifYes X84.here hx rfl (pc0 := 4) (pc' := 11) rfl (hb hby d15_4) rfl ((if0 _ _).trans (feq hc85).2) (by decide) (by decide) ?_
      show Steps p.tables e below (T84.setTop (mkF m 11 #[.val (.ref a15_0)] [])) t
      refine XS.iconst X84.here hx rfl (hb hby d15_11) ?_
      show Steps p.tables e below (T84.setTop (mkF m 12 #[.val (.ref a15_0)] [(.int (0 : Int32))])) t
      exact k
    rw [show own_F15 w_certificates_a15_0 = (0 : Int32) from ((if_neg hc85).trans rfl)]
    exact own_retN X84 hx (t := .boolean) Bd.returns (by simp) (hb hby d15_12) hlk (by decide) (by decide) ⟨rfl, N0, e84⟩
theorem d11_0 : decode jdk_42_method_66_code 0 = .ok (.aload_n 0, 1) := by decide +kernel
theorem d11_1 : decode jdk_42_method_66_code 1 = .ok (.aload_n 1, 1) := by decide +kernel
theorem d11_2 : decode jdk_42_method_66_code 2 = .ok (.if_acmp .ne 5, 3) := by decide +kernel
theorem d11_5 : decode jdk_42_method_66_code 5 = .ok (.iconst 1, 1) := by decide +kernel
theorem d11_6 : decode jdk_42_method_66_code 6 = .ok (.ireturn, 1) := by decide +kernel
theorem pn_java_lang_String : plainName "java/lang/String" = true := by first | (simp [plainName, overriddenIn]; done) | decide +kernel
def own_F11s  : Int32 := (1 : Int32)
theorem own_ef11s (m : MethodId) (x1 : Addr) : entryFrame m #[(.ref x1), (.ref x1)] 3 = mkF m 0 #[.val (.ref x1), .val (.ref x1), .unset] [] := by first | (simp [entryFrame, mkF, argsToLocals, Value.category]; done) | rfl
def own_Q11s (r : Int32) (h0 : Heap) (n0 : Nat) (v : Option Value) (h : Heap) (L : List Loc) : Prop := v = some (.int r) ∧ Fr n0 L ∧ h = h0
set_option maxRecDepth 65536 in
set_option maxHeartbeats 40000000 in
theorem own_rm11s (l : Launch) (Z : State) (a0 : Array Value) (hw : ∀ d ∈ tables_1, d.before a0 Z = true) (ws : List Jvm.Cond) (a11s_0 : Addr) (h0 : Heap) (n0 : Nat) (Z0 : n0 ≤ h0.size) :
    MetFree l (⟨"java/lang/String", "equals", "(Ljava/lang/Object;)Z"⟩ : MethodName) (head1 (Jvm.Cond.code (⟨"java/lang/String", "equals", "(Ljava/lang/Object;)Z"⟩ : MethodName) jdk_42_method_66_code 3 (some .boolean) :: ws) ({ frames := 0, cells := 0, slots := 0, locals := 0 } : Room)) (fun a U => a = #[(.ref a11s_0), (.ref a11s_0)] ∧ Z.Warmed39 U.vm ∧ U.heap = h0) (fun _ _ _ _ _ => True) (fun _ U o U' => ∃ v L, o = .returned v ∧ own_Q11s (own_F11s) h0 n0 v U'.heap L ∧ FrameEnd U o U' L ({ frames := 0, cells := 0, slots := 0, locals := 0 } : Room).cells ({ frames := 0, cells := 0, slots := 0, locals := 0 } : Room).slots) := by
  refine MetFree.of_bodySF (plainFor_of_name pn_java_lang_String) hisR ?_
  intro p e s m args below meth c s₁ Bd hml0 hP hK
  obtain ⟨rfl, hZ, hh⟩ := hP
  have hx := Bd.exec
  have hby := Bd.bytes
  have hlk : meth.locks = false := BodyLoose.notSynchronized Bd
  have hml : c.maxLocals = 3 := hml0
  have hown : s.vm.findClass "java/lang/String" = some m.cls := findClass_of_methodNamed Bd.named
  have hnm := (name_of_methodNamed Bd.named Bd.method).1
  have X0 : Stand p l e ({ frames := 0, cells := 0, slots := 0, locals := 0 } : Room) s m #[(.ref a11s_0), (.ref a11s_0)] below meth c s₁ [] 0 0 := Stand.of_body Bd
  have e0 : s₁.heap = h0 := by rw [← hh, Bd.state]; rfl
  have N0 := Fr.nil n0
  show own_Go p e below (own_P s below ({ frames := 0, cells := 0, slots := 0, locals := 0 } : Room) (own_Q11s (own_F11s) h0 n0)) s₁ (entryFrame m #[(.ref a11s_0), (.ref a11s_0)] 3)
  refine own_in (own_ef11s m a11s_0) ?_
  refine own_by (T' := s₁) (g' := (mkF m 6 #[.val (.ref a11s_0), .val (.ref a11s_0), .unset] [(.int (1 : Int32))])) (fun t k => ?_) ?_
  · show Steps p.tables e below (s₁.setTop (mkF m 0 #[.val (.ref a11s_0), .val (.ref a11s_0), .unset] [])) t
    refine XS.aloadN X0.here hx rfl (hb hby d11_0) rfl rfl ?_
    show Steps p.tables e below (s₁.setTop (mkF m 1 #[.val (.ref a11s_0), .val (.ref a11s_0), .unset] [(.ref a11s_0)])) t
    refine XS.aloadN X0.here hx rfl (hb hby d11_1) rfl rfl ?_
    show Steps p.tables e below (s₁.setTop (mkF m 2 #[.val (.ref a11s_0), .val (.ref a11s_0), .unset] [(.ref a11s_0), (.ref a11s_0)])) t
    refine Jvm.RoadKit.acmp (g := (mkF m 2 #[.val (.ref a11s_0), .val (.ref a11s_0), .unset] [(.ref a11s_0), (.ref a11s_0)])) X0 hx rfl rfl rfl (pc0 := 2) (pc' := 5) (same := true) rfl (hb hby d11_2) rfl (decide_eq_true rfl) (by decide) (by decide) ?_
    show Steps p.tables e below (s₁.setTop (mkF m 5 #[.val (.ref a11s_0), .val (.ref a11s_0), .unset] [])) t
    refine XS.iconst X0.here hx rfl (hb hby d11_5) ?_
    show Steps p.tables e below (s₁.setTop (mkF m 6 #[.val (.ref a11s_0), .val (.ref a11s_0), .unset] [(.int (1 : Int32))])) t
    exact k
  rw [show own_F11s = (1 : Int32) from rfl]
  exact own_retN X0 hx (t := .boolean) Bd.returns (by simp) (hb hby d11_6) hlk (by decide) (by decide) ⟨rfl, N0, e0⟩
theorem pd___C_V : parseMethodDescriptor "([C)V" = some ⟨[(.array .char)], none⟩ := by decide +kernel
theorem pd___Lcom_example_topping_out_toppingout_game_Player_ : parseMethodDescriptor "()Lcom/example/topping_out/toppingout/game/Player;" = some ⟨[], some (.object "com/example/topping_out/toppingout/game/Player")⟩ := by decide +kernel
theorem pd___Ljava_lang_String_ : parseMethodDescriptor "()Ljava/lang/String;" = some ⟨[], some (.object "java/lang/String")⟩ := by decide +kernel
theorem pd__Ljava_lang_Object__Z : parseMethodDescriptor "(Ljava/lang/Object;)Z" = some ⟨[(.object "java/lang/Object")], some .boolean⟩ := by decide +kernel
theorem pd___Z : parseMethodDescriptor "()Z" = some ⟨[], some .boolean⟩ := by decide +kernel
theorem pd___I : parseMethodDescriptor "()I" = some ⟨[], some .int⟩ := by decide +kernel
theorem pn_com_example_topping_out_toppingout_game_PlayerLessACertificatePinLaw : plainName "com/example/topping_out/toppingout/game/PlayerLessACertificatePinLaw" = true := by first | (simp [plainName, overriddenIn]; done) | decide +kernel
def own_F0_175_7 (p0_0 : Int32) (p0_1 : Int32) (p0_2 : Int32) (p0_3 : Int32) (p0_4 : Int32) (i126 : Int32) (i181 : Int32) (i186 : Int32) (i191 : Int32) (i196 : Int32) (i199 : Int32) (i204 : Int32) : Int32 := (if (own_F11s) = (0 : Int32) then (0 : Int32) else (if i181 = (0 : Int32) then (0 : Int32) else (if i186 = (0 : Int32) then (0 : Int32) else (if i191 = (0 : Int32) then (0 : Int32) else (if i199 = (0 : Int32) then (0 : Int32) else (if i204 = (0 : Int32) then (0 : Int32) else (1 : Int32)))))))
def own_F0_159_6 (p0_0 : Int32) (p0_1 : Int32) (p0_2 : Int32) (p0_3 : Int32) (p0_4 : Int32) (i126 : Int32) (i181 : Int32) (i186 : Int32) (i191 : Int32) (i196 : Int32) (i199 : Int32) : Int32 := (if (own_F13 p0_3) = p0_3 then (own_F0_175_7 p0_0 p0_1 p0_2 p0_3 p0_4 i126 i181 i186 i191 i196 i199 (1 : Int32)) else (own_F0_175_7 p0_0 p0_1 p0_2 p0_3 p0_4 i126 i181 i186 i191 i196 i199 (0 : Int32)))
def own_F0_151_5 (p0_0 : Int32) (p0_1 : Int32) (p0_2 : Int32) (p0_3 : Int32) (p0_4 : Int32) (i126 : Int32) (i181 : Int32) (i186 : Int32) (i191 : Int32) (i196 : Int32) : Int32 := (if (own_F15 (p0_3 - (1 : Int32))) = i196 then (own_F0_159_6 p0_0 p0_1 p0_2 p0_3 p0_4 i126 i181 i186 i191 i196 (1 : Int32)) else (own_F0_159_6 p0_0 p0_1 p0_2 p0_3 p0_4 i126 i181 i186 i191 i196 (0 : Int32)))
def own_F0_134_4 (p0_0 : Int32) (p0_1 : Int32) (p0_2 : Int32) (p0_3 : Int32) (p0_4 : Int32) (i126 : Int32) (i181 : Int32) (i186 : Int32) (i191 : Int32) : Int32 := (if p0_3 = (1 : Int32) then (own_F0_151_5 p0_0 p0_1 p0_2 p0_3 p0_4 i126 i181 i186 i191 (1 : Int32)) else (own_F0_151_5 p0_0 p0_1 p0_2 p0_3 p0_4 i126 i181 i186 i191 (0 : Int32)))
def own_F0_117_3 (p0_0 : Int32) (p0_1 : Int32) (p0_2 : Int32) (p0_3 : Int32) (p0_4 : Int32) (i126 : Int32) (i181 : Int32) (i186 : Int32) : Int32 := (if (own_F14 p0_4) = p0_4 then (own_F0_134_4 p0_0 p0_1 p0_2 p0_3 p0_4 i126 i181 i186 (1 : Int32)) else (own_F0_134_4 p0_0 p0_1 p0_2 p0_3 p0_4 i126 i181 i186 (0 : Int32)))
def own_F0_99_2 (p0_0 : Int32) (p0_1 : Int32) (p0_2 : Int32) (p0_3 : Int32) (p0_4 : Int32) (i126 : Int32) (i181 : Int32) : Int32 := (if (own_F13 (p0_3 - (1 : Int32))) = (p0_3 - (1 : Int32)) then (own_F0_117_3 p0_0 p0_1 p0_2 p0_3 p0_4 i126 i181 (1 : Int32)) else (own_F0_117_3 p0_0 p0_1 p0_2 p0_3 p0_4 i126 i181 (0 : Int32)))
def own_F0_47_1 (p0_0 : Int32) (p0_1 : Int32) (p0_2 : Int32) (p0_3 : Int32) (p0_4 : Int32) (i126 : Int32) : Int32 := (if (own_F12 (nar .boolean (nar .boolean i126))) = i126 then (own_F0_99_2 p0_0 p0_1 p0_2 p0_3 p0_4 i126 (1 : Int32)) else (own_F0_99_2 p0_0 p0_1 p0_2 p0_3 p0_4 i126 (0 : Int32)))
def own_F0 (p0_0 : Int32) (p0_1 : Int32) (p0_2 : Int32) (p0_3 : Int32) (p0_4 : Int32) : Int32 := (if (p0_2 &&& (1 : Int32)) = (0 : Int32) then (own_F0_47_1 p0_0 p0_1 p0_2 p0_3 p0_4 (0 : Int32)) else (own_F0_47_1 p0_0 p0_1 p0_2 p0_3 p0_4 (1 : Int32)))
theorem own_ef0 (m : MethodId) (x0 : Int32) (x1 : Int32) (x2 : Int32) (x3 : Int32) (x4 : Int32) : entryFrame m #[(.int x0), (.int x1), (.int x2), (.int x3), (.int x4)] maxLocals = mkF m 0 #[.val (.int x0), .val (.int x1), .val (.int x2), .val (.int x3), .val (.int x4), .unset, .unset, .unset, .unset, .unset, .unset, .unset, .unset, .unset, .unset, .unset] [] := by first | (simp [entryFrame, mkF, argsToLocals, Value.category, maxLocals]; done) | rfl
def own_Q0 (r : Int32) (h0 : Heap) (n0 : Nat) (v : Option Value) (h : Heap) (L : List Loc) : Prop := v = some (.int r) ∧ Fr n0 L
set_option maxRecDepth 65536 in
set_option maxHeartbeats 40000000 in
theorem own_rm0 (l : Launch) (Z : State) (a0 : Array Value) (hw : ∀ d ∈ tables_1, d.before a0 Z = true) (ws : List Jvm.Cond) (p0_0 : Int32) (p0_1 : Int32) (p0_2 : Int32) (p0_3 : Int32) (p0_4 : Int32) (cs : Int32) (h0 : Heap) (n0 : Nat) (Z0 : n0 ≤ h0.size) (O0 : Old Z n0 h0) (SC : Sta Z Z.heap "java/lang/String" "COMPACT_STRINGS" "Z" (.int cs)) (HCS : ¬ (cs = (0 : Int32))) :
    MetFree l x (head1 (Jvm.Cond.code x code maxLocals ret :: ws) room_1) (fun a U => a = #[(.int p0_0), (.int p0_1), (.int p0_2), (.int p0_3), (.int p0_4)] ∧ Z.Warmed39 U.vm ∧ U.heap = h0) (fun _ _ _ _ _ => True) (fun _ U o U' => ∃ v L, o = .returned v ∧ own_Q0 (own_F0 p0_0 p0_1 p0_2 p0_3 p0_4) h0 n0 v U'.heap L ∧ FrameEnd U o U' L room_1.cells room_1.slots) := by
  refine MetFree.of_bodySF (plainFor_of_name pn_com_example_topping_out_toppingout_game_PlayerLessACertificatePinLaw) hisR ?_
  intro p e s m args below meth c s₁ Bd hml0 hP hK
  obtain ⟨rfl, hZ, hh⟩ := hP
  have hx := Bd.exec
  have hby := Bd.bytes
  have hlk : meth.locks = false := BodyLoose.notSynchronized Bd
  have hml : c.maxLocals = 16 := hml0
  have hown : s.vm.findClass "com/example/topping_out/toppingout/game/PlayerLessACertificatePinLaw" = some m.cls := findClass_of_methodNamed Bd.named
  have hnm := (name_of_methodNamed Bd.named Bd.method).1
  have X0 : Stand p l e room_1 s m #[(.int p0_0), (.int p0_1), (.int p0_2), (.int p0_3), (.int p0_4)] below meth c s₁ [] 0 0 := Stand.of_body Bd
  have e0 : s₁.heap = h0 := by rw [← hh, Bd.state]; rfl
  have N0 := Fr.nil n0
  show own_Go p e below (own_P s below room_1 (own_Q0 (own_F0 p0_0 p0_1 p0_2 p0_3 p0_4) h0 n0)) s₁ (entryFrame m #[(.int p0_0), (.int p0_1), (.int p0_2), (.int p0_3), (.int p0_4)] maxLocals)
  refine own_in (own_ef0 m p0_0 p0_1 p0_2 p0_3 p0_4) ?_
  refine own_by (T' := s₁) (g' := (mkF m 1 #[.val (.int p0_0), .val (.int p0_1), .val (.int p0_2), .val (.int p0_3), .val (.int p0_4), .unset, .unset, .unset, .unset, .unset, .unset, .unset, .unset, .unset, .unset, .unset] [(.int (2 : Int32))])) (fun t k => ?_) ?_
  · show Steps p.tables e below (s₁.setTop (mkF m 0 #[.val (.int p0_0), .val (.int p0_1), .val (.int p0_2), .val (.int p0_3), .val (.int p0_4), .unset, .unset, .unset, .unset, .unset, .unset, .unset, .unset, .unset, .unset, .unset] [])) t
    refine XS.iconst X0.here hx rfl (hb hby at_0) ?_
    show Steps p.tables e below (s₁.setTop (mkF m 1 #[.val (.int p0_0), .val (.int p0_1), .val (.int p0_2), .val (.int p0_3), .val (.int p0_4), .unset, .unset, .unset, .unset, .unset, .unset, .unset, .unset, .unset, .unset, .unset] [(.int (2 : Int32))])) t
    exact k
  obtain ⟨T86, h86, k86, X86, e86, E86, A86, st86⟩ := newP X0 hx hZ (hw _ (List.mem_of_getElem? (i := 0) rfl)) e0 (g := (mkF m 1 #[.val (.int p0_0), .val (.int p0_1), .val (.int p0_2), .val (.int p0_3), .val (.int p0_4), .unset, .unset, .unset, .unset, .unset, .unset, .unset, .unset, .unset, .unset, .unset] [(.int (2 : Int32))])) rfl (hb hby at_1) rfl (by decide) (cap := 2) (by decide) (by decide) (by decide) (by decide)
  obtain ⟨b86, g86⟩ : ∃ z, z = h0.size := ⟨_, rfl⟩
  rw [← g86] at A86 st86
  have gn_b86 : n0 ≤ b86 := Nat.le_trans Z0 (Nat.le_of_eq g86.symm)
  have sz_b86 : h0.size ≤ b86 := Nat.le_trans (Keep.refl h0 []).1 (Nat.le_of_eq g86.symm)
  have K87 : Keep h0 h86 [] := (Keep.refl h0 []).ext E86
  have O88 := O0.ext E86
  have Z89 := Nat.le_trans Z0 E86.1
  have f90 : Arv Z h86 b86 k86 .char (2 : Int32) [(.int (0 : Int32)), (.int (0 : Int32))] (.int (0 : Int32)) := (Arv.new A86 (by decide)).pad (pad_rep [] (.int (0 : Int32)) 2)
  refine own_by (T' := T86) (g' := (mkF m 3 #[.val (.int p0_0), .val (.int p0_1), .val (.int p0_2), .val (.int p0_3), .val (.int p0_4), .unset, .unset, .unset, .unset, .unset, .unset, .unset, .unset, .unset, .unset, .unset] [(.ref b86)])) st86 ?_
  refine own_by (T' := T86) (g' := (mkF m 14 #[.val (.int p0_0), .val (.int p0_1), .val (.int p0_2), .val (.int p0_3), .val (.int p0_4), .val (.ref b86), .unset, .unset, .unset, .unset, .unset, .unset, .unset, .unset, .unset, .unset] [(.int ((p0_0 &&& (255 : Int32)).toUInt32.toUInt16.toUInt32.toInt32)), (.int (0 : Int32)), (.ref b86)])) (fun t k => ?_) ?_
  · show Steps p.tables e below (T86.setTop (mkF m 3 #[.val (.int p0_0), .val (.int p0_1), .val (.int p0_2), .val (.int p0_3), .val (.int p0_4), .unset, .unset, .unset, .unset, .unset, .unset, .unset, .unset, .unset, .unset, .unset] [(.ref b86)])) t
    refine XS.astore X86.here hx rfl (hb hby at_3) rfl rfl (l' := #[.val (.int p0_0), .val (.int p0_1), .val (.int p0_2), .val (.int p0_3), .val (.int p0_4), .val (.ref b86), .unset, .unset, .unset, .unset, .unset, .unset, .unset, .unset, .unset, .unset]) rfl ?_
    show Steps p.tables e below (T86.setTop (mkF m 5 #[.val (.int p0_0), .val (.int p0_1), .val (.int p0_2), .val (.int p0_3), .val (.int p0_4), .val (.ref b86), .unset, .unset, .unset, .unset, .unset, .unset, .unset, .unset, .unset, .unset] [])) t
    refine XS.aload X86.here hx rfl (hb hby at_5) rfl rfl ?_
    show Steps p.tables e below (T86.setTop (mkF m 7 #[.val (.int p0_0), .val (.int p0_1), .val (.int p0_2), .val (.int p0_3), .val (.int p0_4), .val (.ref b86), .unset, .unset, .unset, .unset, .unset, .unset, .unset, .unset, .unset, .unset] [(.ref b86)])) t
    refine XS.iconst X86.here hx rfl (hb hby at_7) ?_
    show Steps p.tables e below (T86.setTop (mkF m 8 #[.val (.int p0_0), .val (.int p0_1), .val (.int p0_2), .val (.int p0_3), .val (.int p0_4), .val (.ref b86), .unset, .unset, .unset, .unset, .unset, .unset, .unset, .unset, .unset, .unset] [(.int (0 : Int32)), (.ref b86)])) t
    refine XS.iloadN X86.here hx rfl (hb hby at_8) rfl ?_
    show Steps p.tables e below (T86.setTop (mkF m 9 #[.val (.int p0_0), .val (.int p0_1), .val (.int p0_2), .val (.int p0_3), .val (.int p0_4), .val (.ref b86), .unset, .unset, .unset, .unset, .unset, .unset, .unset, .unset, .unset, .unset] [(.int p0_0), (.int (0 : Int32)), (.ref b86)])) t
    refine XS.sipush X86.here hx rfl (hb hby at_9) ?_
    show Steps p.tables e below (T86.setTop (mkF m 12 #[.val (.int p0_0), .val (.int p0_1), .val (.int p0_2), .val (.int p0_3), .val (.int p0_4), .val (.ref b86), .unset, .unset, .unset, .unset, .unset, .unset, .unset, .unset, .unset, .unset] [(.int (255 : Int32)), (.int p0_0), (.int (0 : Int32)), (.ref b86)])) t
    refine XS.iand X86.here hx rfl (hb hby at_12) rfl ?_
    show Steps p.tables e below (T86.setTop (mkF m 13 #[.val (.int p0_0), .val (.int p0_1), .val (.int p0_2), .val (.int p0_3), .val (.int p0_4), .val (.ref b86), .unset, .unset, .unset, .unset, .unset, .unset, .unset, .unset, .unset, .unset] [(.int (p0_0 &&& (255 : Int32))), (.int (0 : Int32)), (.ref b86)])) t
    refine XS.i2c X86.here hx rfl (hb hby at_13) rfl ?_
    show Steps p.tables e below (T86.setTop (mkF m 14 #[.val (.int p0_0), .val (.int p0_1), .val (.int p0_2), .val (.int p0_3), .val (.int p0_4), .val (.ref b86), .unset, .unset, .unset, .unset, .unset, .unset, .unset, .unset, .unset, .unset] [(.int ((p0_0 &&& (255 : Int32)).toUInt32.toUInt16.toUInt32.toInt32)), (.int (0 : Int32)), (.ref b86)])) t
    exact k
  obtain ⟨cl91, Ar91, q91, S91, N91, H91, G91⟩ := f90
  obtain ⟨T92, h92, X92, e92, W92, st92⟩ := stC X86 hx hZ e86 Ar91 (j := (0 : Int32)) (inb_of S91 ⟨by decide, by decide⟩) (g := (mkF m 14 #[.val (.int p0_0), .val (.int p0_1), .val (.int p0_2), .val (.int p0_3), .val (.int p0_4), .val (.ref b86), .unset, .unset, .unset, .unset, .unset, .unset, .unset, .unset, .unset, .unset] [(.int ((p0_0 &&& (255 : Int32)).toUInt32.toUInt16.toUInt32.toInt32)), (.int (0 : Int32)), (.ref b86)])) rfl rfl (hb hby at_14)
  have f93 : Arv Z h92 b86 k86 .char (2 : Int32) [(.int (nar .char ((p0_0 &&& (255 : Int32)).toUInt32.toUInt16.toUInt32.toInt32))), (.int (0 : Int32))] (.int (0 : Int32)) := Arv.set Ar91 q91 S91 N91 H91 G91 (fits_nar_char _) W92 0 rfl (Nat.le_of_ble_eq_true rfl)
  have K95 : Keep h0 h92 [] := K87.wr W92 (Or.inr sz_b86)
  have N96 := Fr.snoc X92 N0 gn_b86
  have O97 := O88.wr W92 gn_b86
  have Z98 := (Nat.le_trans Z89 (Keep.of_wr W92).1)
  refine own_by (T' := T92) (g' := (mkF m 15 #[.val (.int p0_0), .val (.int p0_1), .val (.int p0_2), .val (.int p0_3), .val (.int p0_4), .val (.ref b86), .unset, .unset, .unset, .unset, .unset, .unset, .unset, .unset, .unset, .unset] [])) st92 ?_
  refine own_by (T' := T92) (g' := (mkF m 24 #[.val (.int p0_0), .val (.int p0_1), .val (.int p0_2), .val (.int p0_3), .val (.int p0_4), .val (.ref b86), .unset, .unset, .unset, .unset, .unset, .unset, .unset, .unset, .unset, .unset] [(.int ((p0_1 &&& (255 : Int32)).toUInt32.toUInt16.toUInt32.toInt32)), (.int (1 : Int32)), (.ref b86)])) (fun t k => ?_) ?_
  · show Steps p.tables e below (T92.setTop (mkF m 15 #[.val (.int p0_0), .val (.int p0_1), .val (.int p0_2), .val (.int p0_3), .val (.int p0_4), .val (.ref b86), .unset, .unset, .unset, .unset, .unset, .unset, .unset, .unset, .unset, .unset] [])) t
    refine XS.aload X92.here hx rfl (hb hby at_15) rfl rfl ?_
    show Steps p.tables e below (T92.setTop (mkF m 17 #[.val (.int p0_0), .val (.int p0_1), .val (.int p0_2), .val (.int p0_3), .val (.int p0_4), .val (.ref b86), .unset, .unset, .unset, .unset, .unset, .unset, .unset, .unset, .unset, .unset] [(.ref b86)])) t
    refine XS.iconst X92.here hx rfl (hb hby at_17) ?_
    show Steps p.tables e below (T92.setTop (mkF m 18 #[.val (.int p0_0), .val (.int p0_1), .val (.int p0_2), .val (.int p0_3), .val (.int p0_4), .val (.ref b86), .unset, .unset, .unset, .unset, .unset, .unset, .unset, .unset, .unset, .unset] [(.int (1 : Int32)), (.ref b86)])) t
    refine XS.iloadN X92.here hx rfl (hb hby at_18) rfl ?_
    show Steps p.tables e below (T92.setTop (mkF m 19 #[.val (.int p0_0), .val (.int p0_1), .val (.int p0_2), .val (.int p0_3), .val (.int p0_4), .val (.ref b86), .unset, .unset, .unset, .unset, .unset, .unset, .unset, .unset, .unset, .unset] [(.int p0_1), (.int (1 : Int32)), (.ref b86)])) t
    refine XS.sipush X92.here hx rfl (hb hby at_19) ?_
    show Steps p.tables e below (T92.setTop (mkF m 22 #[.val (.int p0_0), .val (.int p0_1), .val (.int p0_2), .val (.int p0_3), .val (.int p0_4), .val (.ref b86), .unset, .unset, .unset, .unset, .unset, .unset, .unset, .unset, .unset, .unset] [(.int (255 : Int32)), (.int p0_1), (.int (1 : Int32)), (.ref b86)])) t
    refine XS.iand X92.here hx rfl (hb hby at_22) rfl ?_
    show Steps p.tables e below (T92.setTop (mkF m 23 #[.val (.int p0_0), .val (.int p0_1), .val (.int p0_2), .val (.int p0_3), .val (.int p0_4), .val (.ref b86), .unset, .unset, .unset, .unset, .unset, .unset, .unset, .unset, .unset, .unset] [(.int (p0_1 &&& (255 : Int32))), (.int (1 : Int32)), (.ref b86)])) t
    refine XS.i2c X92.here hx rfl (hb hby at_23) rfl ?_
    show Steps p.tables e below (T92.setTop (mkF m 24 #[.val (.int p0_0), .val (.int p0_1), .val (.int p0_2), .val (.int p0_3), .val (.int p0_4), .val (.ref b86), .unset, .unset, .unset, .unset, .unset, .unset, .unset, .unset, .unset, .unset] [(.int ((p0_1 &&& (255 : Int32)).toUInt32.toUInt16.toUInt32.toInt32)), (.int (1 : Int32)), (.ref b86)])) t
    exact k
  obtain ⟨cl99, Ar99, q99, S99, N99, H99, G99⟩ := f93
  obtain ⟨T100, h100, X100, e100, W100, st100⟩ := stC X92 hx hZ e92 Ar99 (j := (1 : Int32)) (inb_of S99 ⟨by decide, by decide⟩) (g := (mkF m 24 #[.val (.int p0_0), .val (.int p0_1), .val (.int p0_2), .val (.int p0_3), .val (.int p0_4), .val (.ref b86), .unset, .unset, .unset, .unset, .unset, .unset, .unset, .unset, .unset, .unset] [(.int ((p0_1 &&& (255 : Int32)).toUInt32.toUInt16.toUInt32.toInt32)), (.int (1 : Int32)), (.ref b86)])) rfl rfl (hb hby at_24)
  have f101 : Arv Z h100 b86 k86 .char (2 : Int32) [(.int (nar .char ((p0_0 &&& (255 : Int32)).toUInt32.toUInt16.toUInt32.toInt32))), (.int (nar .char ((p0_1 &&& (255 : Int32)).toUInt32.toUInt16.toUInt32.toInt32)))] (.int (0 : Int32)) := Arv.set Ar99 q99 S99 N99 H99 G99 (fits_nar_char _) W100 1 rfl (Nat.le_of_ble_eq_true rfl)
  have K103 : Keep h0 h100 [] := K95.wr W100 (Or.inr sz_b86)
  have N104 := Fr.snoc X100 N96 gn_b86
  have O105 := O97.wr W100 gn_b86
  have Z106 := (Nat.le_trans Z98 (Keep.of_wr W100).1)
  refine own_by (T' := T100) (g' := (mkF m 25 #[.val (.int p0_0), .val (.int p0_1), .val (.int p0_2), .val (.int p0_3), .val (.int p0_4), .val (.ref b86), .unset, .unset, .unset, .unset, .unset, .unset, .unset, .unset, .unset, .unset] [])) st100 ?_
  obtain ⟨T107, h107, X107, e107, E107, A107, D107, -, st107⟩ := newO X100 hx hZ hown (hw _ (List.mem_of_getElem? (i := 1) rfl)) (hw _ (List.mem_of_getElem? (i := 2) rfl)) (hw _ (List.mem_of_getElem? (i := 3) rfl)) e100 (g := (mkF m 25 #[.val (.int p0_0), .val (.int p0_1), .val (.int p0_2), .val (.int p0_3), .val (.int p0_4), .val (.ref b86), .unset, .unset, .unset, .unset, .unset, .unset, .unset, .unset, .unset, .unset] [])) rfl (hb hby at_25) (by decide) (by decide)
  obtain ⟨b107, g107⟩ : ∃ z, z = h100.size := ⟨_, rfl⟩
  rw [← g107] at A107 D107 st107
  have gn_b107 : n0 ≤ b107 := Nat.le_trans Z106 (Nat.le_of_eq g107.symm)
  have sz_b107 : h0.size ≤ b107 := Nat.le_trans K103.1 (Nat.le_of_eq g107.symm)
  have ne_b86_b107 : b86 ≠ b107 := Nat.ne_of_lt (Nat.lt_of_lt_of_le f101.lt (Nat.le_of_eq g107.symm))
  have f108 := f101.ext E107
  have K109 : Keep h0 h107 [] := K103.ext E107
  have O110 := O105.ext E107
  have Z111 := Nat.le_trans Z106 E107.1
  have f112 : Fld Z h107 b107 "java/lang/String" "coder" "B" (.int (0 : Int32)) := D107 (Or.inr (hw _ (List.mem_of_getElem? (i := 27) rfl))) (ty := .byte) (by decide)
  have f113 : Fld Z h107 b107 "java/lang/String" "value" "[B" .null := D107 (Or.inr (hw _ (List.mem_of_getElem? (i := 29) rfl))) (ty := (.array .byte)) (by decide)
  refine own_by (T' := T107) (g' := (mkF m 28 #[.val (.int p0_0), .val (.int p0_1), .val (.int p0_2), .val (.int p0_3), .val (.int p0_4), .val (.ref b86), .unset, .unset, .unset, .unset, .unset, .unset, .unset, .unset, .unset, .unset] [(.ref b107)])) st107 ?_
  refine own_by (T' := T107) (g' := (mkF m 31 #[.val (.int p0_0), .val (.int p0_1), .val (.int p0_2), .val (.int p0_3), .val (.int p0_4), .val (.ref b86), .unset, .unset, .unset, .unset, .unset, .unset, .unset, .unset, .unset, .unset] [(.ref b86), (.ref b107), (.ref b107)])) (fun t k => ?_) ?_
  · show Steps p.tables e below (T107.setTop (mkF m 28 #[.val (.int p0_0), .val (.int p0_1), .val (.int p0_2), .val (.int p0_3), .val (.int p0_4), .val (.ref b86), .unset, .unset, .unset, .unset, .unset, .unset, .unset, .unset, .unset, .unset] [(.ref b107)])) t
    refine XS.dup X107.here hx rfl (hb hby at_28) rfl rfl ?_
    show Steps p.tables e below (T107.setTop (mkF m 29 #[.val (.int p0_0), .val (.int p0_1), .val (.int p0_2), .val (.int p0_3), .val (.int p0_4), .val (.ref b86), .unset, .unset, .unset, .unset, .unset, .unset, .unset, .unset, .unset, .unset] [(.ref b107), (.ref b107)])) t
    refine XS.aload X107.here hx rfl (hb hby at_29) rfl rfl ?_
    show Steps p.tables e below (T107.setTop (mkF m 31 #[.val (.int p0_0), .val (.int p0_1), .val (.int p0_2), .val (.int p0_3), .val (.int p0_4), .val (.ref b86), .unset, .unset, .unset, .unset, .unset, .unset, .unset, .unset, .unset, .unset] [(.ref b86), (.ref b107), (.ref b107)])) t
    exact k
  have hws114 : ∀ d ∈ StrChars.Road.words, d.before a0 Z = true := fun d hd => hw d ((by decide +kernel : ∀ d ∈ StrChars.Road.words, d ∈ tables_1) d hd)
  have hp114 : ∀ c ∈ ([(nar .char ((p0_0 &&& (255 : Int32)).toUInt32.toUInt16.toUInt32.toInt32)), (nar .char ((p0_1 &&& (255 : Int32)).toUInt32.toUInt16.toUInt32.toInt32))] : List Int32), ¬ c < 0 ∧ ¬ (255 : Int32) < c := by
    intro c hc
    simp only [List.mem_cons, List.not_mem_nil, or_false] at hc
    rcases hc with rfl | rfl
    · exact own_ch p0_0
    · exact own_ch p0_1
  obtain ⟨v114, _, ⟨T114, L114, k114, n114⟩, -, X114, ⟨Lc114, hQ114, l114, y114, z114⟩, st114⟩ := X107.specialBack hx (y := (⟨"java/lang/String", "<init>", "([C)V"⟩ : MethodName)) rfl hown (mvT hZ (hw _ (List.mem_of_getElem? (i := 4) rfl))) (mvT hZ (hw _ (List.mem_of_getElem? (i := 5) rfl))) (mvT hZ (hw _ (List.mem_of_getElem? (i := 6) rfl))) (by decide) (StrChars.Road.backV (W := 1) hZ hws114 (kI := 4) (hw _ (List.mem_of_getElem? (i := 2) rfl)) (cs := ([(nar .char ((p0_0 &&& (255 : Int32)).toUInt32.toUInt16.toUInt32.toInt32)), (nar .char ((p0_1 &&& (255 : Int32)).toUInt32.toUInt16.toUInt32.toInt32))] : List Int32)) (bs := ([(nar .char ((p0_0 &&& (255 : Int32)).toUInt32.toUInt16.toUInt32.toInt32)), (nar .char ((p0_1 &&& (255 : Int32)).toUInt32.toUInt16.toUInt32.toInt32))] : List Int32).map (fun c => c.toInt8.toInt32)) (n := 2) gn_b107 Z111 A107 f113 f112 f108 (SC.ext O110.2) HCS rfl rfl (by decide) (by decide) hp114 rfl (by decide) (by decide)) (g := (mkF m 31 #[.val (.int p0_0), .val (.int p0_1), .val (.int p0_2), .val (.int p0_3), .val (.int p0_4), .val (.ref b86), .unset, .unset, .unset, .unset, .unset, .unset, .unset, .unset, .unset, .unset] [(.ref b86), (.ref b107), (.ref b107)])) rfl (by rw [hml]; rfl) (Steps.refl _) (a := b107) (argsL := [(.ref b86)]) (rest := [(.ref b107)]) (lenOf pd___C_V rfl) rfl (by show 2 * 0 + _ ≤ _; exact Nat.le_of_eq rfl) (hb hby at_31) (fun _ _ => ⟨rfl, e107, (by decide : 2 + 1 ≤ _), (by decide : 6 + 2 ≤ _)⟩)
  dsimp only [Pt.U, Pt.locs, Pt.cells, Pt.slots] at X114 l114 y114 z114 st114 hQ114
  subst l114 y114 z114
  obtain ⟨rfl, M114, K114, f115, f116, b114, kb114, gn114, sz114, nt114, f117, f118⟩ := hQ114
  have f119 := f108.keep K114 (ninS ne_b86_b107 nin0)
  have f120 := A107.keep K114
  have K121 : Keep h0 T114.heap [] := K109.trans K114 (allS (Or.inr sz_b107) all0)
  have O122 := O110.keep K114 (allS gn_b107 all0)
  have Z123 := Nat.le_trans Z111 K114.1
  have sz_b114 : h0.size ≤ b114 := Nat.le_trans K109.1 sz114
  have ne_b86_b114 : b86 ≠ b114 := Nat.ne_of_lt (Nat.lt_of_lt_of_le f108.lt sz114)
  have ne_b107_b114 : b107 ≠ b114 := Nat.ne_of_lt (Nat.lt_of_lt_of_le f113.lt sz114)
  have N124 := Fr.app N104 M114
  refine own_via (T' := T114) (g' := (mkF m 34 #[.val (.int p0_0), .val (.int p0_1), .val (.int p0_2), .val (.int p0_3), .val (.int p0_4), .val (.ref b86), .unset, .unset, .unset, .unset, .unset, .unset, .unset, .unset, .unset, .unset] [(.ref b107)])) st114 ?_
  refine own_by (T' := T114) (g' := (mkF m 39 #[.val (.int p0_0), .val (.int p0_1), .val (.int p0_2), .val (.int p0_3), .val (.int p0_4), .val (.ref b86), .val (.ref b107), .unset, .unset, .unset, .unset, .unset, .unset, .unset, .unset, .unset] [(.int (p0_2 &&& (1 : Int32)))])) (fun t k => ?_) ?_
  · show Steps p.tables e below (T114.setTop (mkF m 34 #[.val (.int p0_0), .val (.int p0_1), .val (.int p0_2), .val (.int p0_3), .val (.int p0_4), .val (.ref b86), .unset, .unset, .unset, .unset, .unset, .unset, .unset, .unset, .unset, .unset] [(.ref b107)])) t
    refine XS.astore X114.here hx rfl (hb hby at_34) rfl rfl (l' := #[.val (.int p0_0), .val (.int p0_1), .val (.int p0_2), .val (.int p0_3), .val (.int p0_4), .val (.ref b86), .val (.ref b107), .unset, .unset, .unset, .unset, .unset, .unset, .unset, .unset, .unset]) rfl ?_
    show Steps p.tables e below (T114.setTop (mkF m 36 #[.val (.int p0_0), .val (.int p0_1), .val (.int p0_2), .val (.int p0_3), .val (.int p0_4), .val (.ref b86), .val (.ref b107), .unset, .unset, .unset, .unset, .unset, .unset, .unset, .unset, .unset] [])) t
    refine XS.iloadN X114.here hx rfl (hb hby at_36) rfl ?_
    show Steps p.tables e below (T114.setTop (mkF m 37 #[.val (.int p0_0), .val (.int p0_1), .val (.int p0_2), .val (.int p0_3), .val (.int p0_4), .val (.ref b86), .val (.ref b107), .unset, .unset, .unset, .unset, .unset, .unset, .unset, .unset, .unset] [(.int p0_2)])) t
    refine XS.iconst X114.here hx rfl (hb hby at_37) ?_
    show Steps p.tables e below (T114.setTop (mkF m 38 #[.val (.int p0_0), .val (.int p0_1), .val (.int p0_2), .val (.int p0_3), .val (.int p0_4), .val (.ref b86), .val (.ref b107), .unset, .unset, .unset, .unset, .unset, .unset, .unset, .unset, .unset] [(.int (1 : Int32)), (.int p0_2)])) t
    refine XS.iand X114.here hx rfl (hb hby at_38) rfl ?_
    show Steps p.tables e below (T114.setTop (mkF m 39 #[.val (.int p0_0), .val (.int p0_1), .val (.int p0_2), .val (.int p0_3), .val (.int p0_4), .val (.ref b86), .val (.ref b107), .unset, .unset, .unset, .unset, .unset, .unset, .unset, .unset, .unset] [(.int (p0_2 &&& (1 : Int32)))])) t
    exact k
  have J0_1 : ∀ (T127 : State) (L127 : List Loc) (i126 : Int32), Stand p l e room_1 s m #[(.int p0_0), (.int p0_1), (.int p0_2), (.int p0_3), (.int p0_4)] below meth c T127 L127 3 8 → T127.heap = T114.heap → Fr n0 L127 → own_Go p e below (own_P s below room_1 (own_Q0 (own_F0_47_1 p0_0 p0_1 p0_2 p0_3 p0_4 i126) h0 n0)) T127 (mkF m 47 #[.val (.int p0_0), .val (.int p0_1), .val (.int p0_2), .val (.int p0_3), .val (.int p0_4), .val (.ref b86), .val (.ref b107), .unset, .unset, .unset, .unset, .unset, .unset, .unset, .unset, .unset] [(.int i126)]) := by
    intro T127 L127 i126 X127 e127 N127
    refine own_by (T' := T127) (g' := (mkF m 49 #[.val (.int p0_0), .val (.int p0_1), .val (.int p0_2), .val (.int p0_3), .val (.int p0_4), .val (.ref b86), .val (.ref b107), .val (.int i126), .unset, .unset, .unset, .unset, .unset, .unset, .unset, .unset] [])) (fun t k => ?_) ?_
    · show Steps p.tables e below (T127.setTop (mkF m 47 #[.val (.int p0_0), .val (.int p0_1), .val (.int p0_2), .val (.int p0_3), .val (.int p0_4), .val (.ref b86), .val (.ref b107), .unset, .unset, .unset, .unset, .unset, .unset, .unset, .unset, .unset] [(.int i126)])) t
      refine XS.istore X127.here hx rfl (hb hby at_47) rfl (l' := #[.val (.int p0_0), .val (.int p0_1), .val (.int p0_2), .val (.int p0_3), .val (.int p0_4), .val (.ref b86), .val (.ref b107), .val (.int i126), .unset, .unset, .unset, .unset, .unset, .unset, .unset, .unset]) rfl ?_
      show Steps p.tables e below (T127.setTop (mkF m 49 #[.val (.int p0_0), .val (.int p0_1), .val (.int p0_2), .val (.int p0_3), .val (.int p0_4), .val (.ref b86), .val (.ref b107), .val (.int i126), .unset, .unset, .unset, .unset, .unset, .unset, .unset, .unset] [])) t
      exact k
    obtain ⟨T128, h128, X128, e128, E128, A128, D128, -, st128⟩ := newO X127 hx hZ hown (hw _ (List.mem_of_getElem? (i := 30) rfl)) (hw _ (List.mem_of_getElem? (i := 31) rfl)) (hw _ (List.mem_of_getElem? (i := 32) rfl)) e127 (g := (mkF m 49 #[.val (.int p0_0), .val (.int p0_1), .val (.int p0_2), .val (.int p0_3), .val (.int p0_4), .val (.ref b86), .val (.ref b107), .val (.int i126), .unset, .unset, .unset, .unset, .unset, .unset, .unset, .unset] [])) rfl (hb hby at_49) (by decide) (by decide)
    obtain ⟨b128, g128⟩ : ∃ z, z = T114.heap.size := ⟨_, rfl⟩
    rw [← g128] at A128 D128 st128
    have gn_b128 : n0 ≤ b128 := Nat.le_trans Z123 (Nat.le_of_eq g128.symm)
    have sz_b128 : h0.size ≤ b128 := Nat.le_trans K121.1 (Nat.le_of_eq g128.symm)
    have ne_b86_b128 : b86 ≠ b128 := Nat.ne_of_lt (Nat.lt_of_lt_of_le f119.lt (Nat.le_of_eq g128.symm))
    have ne_b107_b128 : b107 ≠ b128 := Nat.ne_of_lt (Nat.lt_of_lt_of_le f117.lt (Nat.le_of_eq g128.symm))
    have f129 := f119.ext E128
    have f130 := f115.ext E128
    have f131 := f116.ext E128
    have f132 := f117.ext E128
    have K133 : Keep h0 h128 [] := K121.ext E128
    have O134 := O122.ext E128
    have Z135 := Nat.le_trans Z123 E128.1
    have f136 : Fld Z h128 b128 "com/example/topping_out/toppingout/game/Player" "name" "Ljava/lang/String;" .null := D128 (Or.inr (hw _ (List.mem_of_getElem? (i := 43) rfl))) (ty := (.object "java/lang/String")) (by decide)
    have f137 : Fld Z h128 b128 "com/example/topping_out/toppingout/game/Player" "expert" "Z" (.int (0 : Int32)) := D128 (Or.inr (hw _ (List.mem_of_getElem? (i := 45) rfl))) (ty := .boolean) (by decide)
    have f138 : Fld Z h128 b128 "com/example/topping_out/toppingout/game/Player" "certificates" "I" (.int (0 : Int32)) := D128 (Or.inr (hw _ (List.mem_of_getElem? (i := 47) rfl))) (ty := .int) (by decide)
    have f139 : Fld Z h128 b128 "com/example/topping_out/toppingout/game/Player" "awards" "I" (.int (0 : Int32)) := D128 (Or.inr (hw _ (List.mem_of_getElem? (i := 49) rfl))) (ty := .int) (by decide)
    refine own_by (T' := T128) (g' := (mkF m 52 #[.val (.int p0_0), .val (.int p0_1), .val (.int p0_2), .val (.int p0_3), .val (.int p0_4), .val (.ref b86), .val (.ref b107), .val (.int i126), .unset, .unset, .unset, .unset, .unset, .unset, .unset, .unset] [(.ref b128)])) st128 ?_
    refine own_by (T' := T128) (g' := (mkF m 60 #[.val (.int p0_0), .val (.int p0_1), .val (.int p0_2), .val (.int p0_3), .val (.int p0_4), .val (.ref b86), .val (.ref b107), .val (.int i126), .unset, .unset, .unset, .unset, .unset, .unset, .unset, .unset] [(.int p0_4), (.int p0_3), (.int i126), (.ref b107), (.ref b128), (.ref b128)])) (fun t k => ?_) ?_
    · show Steps p.tables e below (T128.setTop (mkF m 52 #[.val (.int p0_0), .val (.int p0_1), .val (.int p0_2), .val (.int p0_3), .val (.int p0_4), .val (.ref b86), .val (.ref b107), .val (.int i126), .unset, .unset, .unset, .unset, .unset, .unset, .unset, .unset] [(.ref b128)])) t
      refine XS.dup X128.here hx rfl (hb hby at_52) rfl rfl ?_
      show Steps p.tables e below (T128.setTop (mkF m 53 #[.val (.int p0_0), .val (.int p0_1), .val (.int p0_2), .val (.int p0_3), .val (.int p0_4), .val (.ref b86), .val (.ref b107), .val (.int i126), .unset, .unset, .unset, .unset, .unset, .unset, .unset, .unset] [(.ref b128), (.ref b128)])) t
      refine XS.aload X128.here hx rfl (hb hby at_53) rfl rfl ?_
      show Steps p.tables e below (T128.setTop (mkF m 55 #[.val (.int p0_0), .val (.int p0_1), .val (.int p0_2), .val (.int p0_3), .val (.int p0_4), .val (.ref b86), .val (.ref b107), .val (.int i126), .unset, .unset, .unset, .unset, .unset, .unset, .unset, .unset] [(.ref b107), (.ref b128), (.ref b128)])) t
      refine XS.iload X128.here hx rfl (hb hby at_55) rfl ?_
      show Steps p.tables e below (T128.setTop (mkF m 57 #[.val (.int p0_0), .val (.int p0_1), .val (.int p0_2), .val (.int p0_3), .val (.int p0_4), .val (.ref b86), .val (.ref b107), .val (.int i126), .unset, .unset, .unset, .unset, .unset, .unset, .unset, .unset] [(.int i126), (.ref b107), (.ref b128), (.ref b128)])) t
      refine XS.iloadN X128.here hx rfl (hb hby at_57) rfl ?_
      show Steps p.tables e below (T128.setTop (mkF m 58 #[.val (.int p0_0), .val (.int p0_1), .val (.int p0_2), .val (.int p0_3), .val (.int p0_4), .val (.ref b86), .val (.ref b107), .val (.int i126), .unset, .unset, .unset, .unset, .unset, .unset, .unset, .unset] [(.int p0_3), (.int i126), (.ref b107), (.ref b128), (.ref b128)])) t
      refine XS.iload X128.here hx rfl (hb hby at_58) rfl ?_
      show Steps p.tables e below (T128.setTop (mkF m 60 #[.val (.int p0_0), .val (.int p0_1), .val (.int p0_2), .val (.int p0_3), .val (.int p0_4), .val (.ref b86), .val (.ref b107), .val (.int i126), .unset, .unset, .unset, .unset, .unset, .unset, .unset, .unset] [(.int p0_4), (.int p0_3), (.int i126), (.ref b107), (.ref b128), (.ref b128)])) t
      exact k
    obtain ⟨v140, _, ⟨T140, L140, k140, n140⟩, -, X140, ⟨Lc140, hQ140, l140, y140, z140⟩, st140⟩ := X128.specialBack hx (y := (⟨"com/example/topping_out/toppingout/game/Player", "<init>", "(Ljava/lang/String;ZII)V"⟩ : MethodName)) rfl hown (mvT hZ (hw _ (List.mem_of_getElem? (i := 33) rfl))) (mvT hZ (hw _ (List.mem_of_getElem? (i := 34) rfl))) (mvT hZ (hw _ (List.mem_of_getElem? (i := 35) rfl))) (by decide) (backOf (W := 1) (own_rm7 l Z a0 hw [] b128 b107 i126 p0_3 p0_4 .null (.int (0 : Int32)) (.int (0 : Int32)) (.int (0 : Int32)) h128 n0 Z135 A128 f136 gn_b128 f137 f138 f139) hZ (hw _ (List.mem_of_getElem? (i := 35) rfl)) (hw _ (List.mem_of_getElem? (i := 32) rfl)) (by decide) (by decide)) (g := (mkF m 60 #[.val (.int p0_0), .val (.int p0_1), .val (.int p0_2), .val (.int p0_3), .val (.int p0_4), .val (.ref b86), .val (.ref b107), .val (.int i126), .unset, .unset, .unset, .unset, .unset, .unset, .unset, .unset] [(.int p0_4), (.int p0_3), (.int i126), (.ref b107), (.ref b128), (.ref b128)])) rfl (by rw [hml]; rfl) (Steps.refl _) (a := b128) (argsL := [(.ref b107), (.int i126), (.int p0_3), (.int p0_4)]) (rest := [(.ref b128)]) (lenOf pd__Ljava_lang_String_ZII_V rfl) rfl (by show 2 * 0 + _ ≤ _; exact Nat.le_of_eq rfl) (hb hby at_60) (fun _ _ => ⟨rfl, e128, (by decide : 4 + 0 ≤ _), (by decide : 12 + 0 ≤ _)⟩)
    dsimp only [Pt.U, Pt.locs, Pt.cells, Pt.slots] at X140 l140 y140 z140 st140 hQ140
    subst l140 y140 z140
    obtain ⟨rfl, M140, K140, f141, f142, f143, f144, f145⟩ := hQ140
    have f146 := f129.keep K140 (ninS ne_b86_b128 nin0)
    have f147 := f130.keep K140
    have f148 := f131.keep K140 (ninS ne_b107_b128 nin0)
    have f149 := f132.keep K140 (ninS ne_b107_b128 nin0)
    have f150 := A128.keep K140
    have K151 : Keep h0 T140.heap [] := K133.trans K140 (allS (Or.inr sz_b128) all0)
    have O152 := O134.keep K140 (allS gn_b128 all0)
    have Z153 := Nat.le_trans Z135 K140.1
    have N154 := Fr.app N127 M140
    refine own_via (T' := T140) (g' := (mkF m 63 #[.val (.int p0_0), .val (.int p0_1), .val (.int p0_2), .val (.int p0_3), .val (.int p0_4), .val (.ref b86), .val (.ref b107), .val (.int i126), .unset, .unset, .unset, .unset, .unset, .unset, .unset, .unset] [(.ref b128)])) st140 ?_
    refine own_by (T' := T140) (g' := (mkF m 67 #[.val (.int p0_0), .val (.int p0_1), .val (.int p0_2), .val (.int p0_3), .val (.int p0_4), .val (.ref b86), .val (.ref b107), .val (.int i126), .val (.ref b128), .unset, .unset, .unset, .unset, .unset, .unset, .unset] [(.ref b128)])) (fun t k => ?_) ?_
    · show Steps p.tables e below (T140.setTop (mkF m 63 #[.val (.int p0_0), .val (.int p0_1), .val (.int p0_2), .val (.int p0_3), .val (.int p0_4), .val (.ref b86), .val (.ref b107), .val (.int i126), .unset, .unset, .unset, .unset, .unset, .unset, .unset, .unset] [(.ref b128)])) t
      refine XS.astore X140.here hx rfl (hb hby at_63) rfl rfl (l' := #[.val (.int p0_0), .val (.int p0_1), .val (.int p0_2), .val (.int p0_3), .val (.int p0_4), .val (.ref b86), .val (.ref b107), .val (.int i126), .val (.ref b128), .unset, .unset, .unset, .unset, .unset, .unset, .unset]) rfl ?_
      show Steps p.tables e below (T140.setTop (mkF m 65 #[.val (.int p0_0), .val (.int p0_1), .val (.int p0_2), .val (.int p0_3), .val (.int p0_4), .val (.ref b86), .val (.ref b107), .val (.int i126), .val (.ref b128), .unset, .unset, .unset, .unset, .unset, .unset, .unset] [])) t
      refine XS.aload X140.here hx rfl (hb hby at_65) rfl rfl ?_
      show Steps p.tables e below (T140.setTop (mkF m 67 #[.val (.int p0_0), .val (.int p0_1), .val (.int p0_2), .val (.int p0_3), .val (.int p0_4), .val (.ref b86), .val (.ref b107), .val (.int i126), .val (.ref b128), .unset, .unset, .unset, .unset, .unset, .unset, .unset] [(.ref b128)])) t
      exact k
    obtain ⟨cq155, kq155, q155a, q155b, q155c⟩ := isOf hZ rfl f141
    obtain ⟨v155, _, ⟨T155, L155, k155, n155⟩, -, X155, ⟨Lc155, hQ155, l155, y155, z155⟩, st155⟩ := X140.virtualBack hx (y := (⟨"com/example/topping_out/toppingout/game/Player", "lessACertificate", "()Lcom/example/topping_out/toppingout/game/Player;"⟩ : MethodName)) (z := (⟨"com/example/topping_out/toppingout/game/Player", "lessACertificate", "()Lcom/example/topping_out/toppingout/game/Player;"⟩ : MethodName)) hown (mvT hZ (hw _ (List.mem_of_getElem? (i := 50) rfl))) (mvT hZ (hw _ (List.mem_of_getElem? (i := 51) rfl))) (notFace_of_selects (args := #[]) (mvT hZ (hw _ (List.mem_of_getElem? (i := 53) rfl)))) (mvT hZ (hw _ (List.mem_of_getElem? (i := 53) rfl))) (mvT hZ (hw _ (List.mem_of_getElem? (i := 52) rfl))) (by decide) (backOf (W := 0) (own_rm9 l Z a0 hw [] b128 b107 (nar .boolean i126) p0_3 p0_4 T140.heap n0 Z153 f142 f143 f144 f145) hZ (hw _ (List.mem_of_getElem? (i := 54) rfl)) (hw _ (List.mem_of_getElem? (i := 32) rfl)) (by decide) (by decide)) q155a q155c (g := (mkF m 67 #[.val (.int p0_0), .val (.int p0_1), .val (.int p0_2), .val (.int p0_3), .val (.int p0_4), .val (.ref b86), .val (.ref b107), .val (.int i126), .val (.ref b128), .unset, .unset, .unset, .unset, .unset, .unset, .unset] [(.ref b128)])) rfl (by rw [hml]; rfl) (Steps.refl _) (argsL := []) (rest := []) (lenOf pd___Lcom_example_topping_out_toppingout_game_Player_ rfl) rfl (by show 2 * 0 + _ ≤ _; exact Nat.le_of_eq rfl) (hb hby at_67) (fun _ _ => ⟨rfl, rfl, (by decide : 4 + 1 ≤ _), (by decide : 12 + 4 ≤ _)⟩)
    dsimp only [Pt.U, Pt.locs, Pt.cells, Pt.slots] at X155 l155 y155 z155 st155 hQ155
    subst l155 y155 z155
    obtain ⟨b155, rfl, M155, K155, sz155, gn155, f156, f157, f158, f159, f160⟩ := hQ155
    have f161 := f146.keep K155 nin0
    have f162 := f147.keep K155
    have f163 := f148.keep K155 nin0
    have f164 := f149.keep K155 nin0
    have f165 := f141.keep K155
    have f166 := f142.keep K155 nin0
    have f167 := f143.keep K155 nin0
    have f168 := f144.keep K155 nin0
    have f169 := f145.keep K155 nin0
    have K170 : Keep h0 T155.heap [] := K151.trans K155 all0
    have O171 := O152.keep K155 all0
    have Z172 := Nat.le_trans Z153 K155.1
    have sz_b155 : h0.size ≤ b155 := Nat.le_trans K151.1 sz155
    have ne_b86_b155 : b86 ≠ b155 := Nat.ne_of_lt (Nat.lt_of_lt_of_le f146.lt sz155)
    have ne_b107_b155 : b107 ≠ b155 := Nat.ne_of_lt (Nat.lt_of_lt_of_le f149.lt sz155)
    have ne_b128_b155 : b128 ≠ b155 := Nat.ne_of_lt (Nat.lt_of_lt_of_le f145.lt sz155)
    have N173 := Fr.app N154 M155
    refine own_via (T' := T155) (g' := (mkF m 70 #[.val (.int p0_0), .val (.int p0_1), .val (.int p0_2), .val (.int p0_3), .val (.int p0_4), .val (.ref b86), .val (.ref b107), .val (.int i126), .val (.ref b128), .unset, .unset, .unset, .unset, .unset, .unset, .unset] [(.ref b155)])) st155 ?_
    refine own_by (T' := T155) (g' := (mkF m 74 #[.val (.int p0_0), .val (.int p0_1), .val (.int p0_2), .val (.int p0_3), .val (.int p0_4), .val (.ref b86), .val (.ref b107), .val (.int i126), .val (.ref b128), .val (.ref b155), .unset, .unset, .unset, .unset, .unset, .unset] [(.ref b155)])) (fun t k => ?_) ?_
    · show Steps p.tables e below (T155.setTop (mkF m 70 #[.val (.int p0_0), .val (.int p0_1), .val (.int p0_2), .val (.int p0_3), .val (.int p0_4), .val (.ref b86), .val (.ref b107), .val (.int i126), .val (.ref b128), .unset, .unset, .unset, .unset, .unset, .unset, .unset] [(.ref b155)])) t
      refine XS.astore X155.here hx rfl (hb hby at_70) rfl rfl (l' := #[.val (.int p0_0), .val (.int p0_1), .val (.int p0_2), .val (.int p0_3), .val (.int p0_4), .val (.ref b86), .val (.ref b107), .val (.int i126), .val (.ref b128), .val (.ref b155), .unset, .unset, .unset, .unset, .unset, .unset]) rfl ?_
      show Steps p.tables e below (T155.setTop (mkF m 72 #[.val (.int p0_0), .val (.int p0_1), .val (.int p0_2), .val (.int p0_3), .val (.int p0_4), .val (.ref b86), .val (.ref b107), .val (.int i126), .val (.ref b128), .val (.ref b155), .unset, .unset, .unset, .unset, .unset, .unset] [])) t
      refine XS.aload X155.here hx rfl (hb hby at_72) rfl rfl ?_
      show Steps p.tables e below (T155.setTop (mkF m 74 #[.val (.int p0_0), .val (.int p0_1), .val (.int p0_2), .val (.int p0_3), .val (.int p0_4), .val (.ref b86), .val (.ref b107), .val (.int i126), .val (.ref b128), .val (.ref b155), .unset, .unset, .unset, .unset, .unset, .unset] [(.ref b155)])) t
      exact k
    obtain ⟨cq174, kq174, q174a, q174b, q174c⟩ := isOf hZ rfl f156
    obtain ⟨v174, _, ⟨T174, L174, k174, n174⟩, -, X174, ⟨Lc174, hQ174, l174, y174, z174⟩, st174⟩ := X155.virtualBack hx (y := (⟨"com/example/topping_out/toppingout/game/Player", "name", "()Ljava/lang/String;"⟩ : MethodName)) (z := (⟨"com/example/topping_out/toppingout/game/Player", "name", "()Ljava/lang/String;"⟩ : MethodName)) hown (mvT hZ (hw _ (List.mem_of_getElem? (i := 57) rfl))) (mvT hZ (hw _ (List.mem_of_getElem? (i := 58) rfl))) (notFace_of_selects (args := #[]) (mvT hZ (hw _ (List.mem_of_getElem? (i := 60) rfl)))) (mvT hZ (hw _ (List.mem_of_getElem? (i := 60) rfl))) (mvT hZ (hw _ (List.mem_of_getElem? (i := 59) rfl))) (by decide) (backOf (W := 0) (own_rm10 l Z a0 hw [] b155 b107 T155.heap n0 Z172 f157) hZ (hw _ (List.mem_of_getElem? (i := 61) rfl)) (hw _ (List.mem_of_getElem? (i := 32) rfl)) (by decide) (by decide)) q174a q174c (g := (mkF m 74 #[.val (.int p0_0), .val (.int p0_1), .val (.int p0_2), .val (.int p0_3), .val (.int p0_4), .val (.ref b86), .val (.ref b107), .val (.int i126), .val (.ref b128), .val (.ref b155), .unset, .unset, .unset, .unset, .unset, .unset] [(.ref b155)])) rfl (by rw [hml]; rfl) (Steps.refl _) (argsL := []) (rest := []) (lenOf pd___Ljava_lang_String_ rfl) rfl (by show 2 * 0 + _ ≤ _; exact Nat.le_of_eq rfl) (hb hby at_74) (fun _ _ => ⟨rfl, rfl, (by decide : 5 + 0 ≤ _), (by decide : 16 + 0 ≤ _)⟩)
    dsimp only [Pt.U, Pt.locs, Pt.cells, Pt.slots] at X174 l174 y174 z174 st174 hQ174
    subst l174 y174 z174
    obtain ⟨hv174, M174, e174⟩ := hQ174
    have N175 := Fr.app N173 M174
    obtain rfl : v174 = some (.ref b107) := hv174.trans (congrArg some rfl)
    refine own_via (T' := T174) (g' := (mkF m 77 #[.val (.int p0_0), .val (.int p0_1), .val (.int p0_2), .val (.int p0_3), .val (.int p0_4), .val (.ref b86), .val (.ref b107), .val (.int i126), .val (.ref b128), .val (.ref b155), .unset, .unset, .unset, .unset, .unset, .unset] [(.ref b107)])) st174 ?_
    refine own_by (T' := T174) (g' := (mkF m 79 #[.val (.int p0_0), .val (.int p0_1), .val (.int p0_2), .val (.int p0_3), .val (.int p0_4), .val (.ref b86), .val (.ref b107), .val (.int i126), .val (.ref b128), .val (.ref b155), .unset, .unset, .unset, .unset, .unset, .unset] [(.ref b107), (.ref b107)])) (fun t k => ?_) ?_
    · show Steps p.tables e below (T174.setTop (mkF m 77 #[.val (.int p0_0), .val (.int p0_1), .val (.int p0_2), .val (.int p0_3), .val (.int p0_4), .val (.ref b86), .val (.ref b107), .val (.int i126), .val (.ref b128), .val (.ref b155), .unset, .unset, .unset, .unset, .unset, .unset] [(.ref b107)])) t
      refine XS.aload X174.here hx rfl (hb hby at_77) rfl rfl ?_
      show Steps p.tables e below (T174.setTop (mkF m 79 #[.val (.int p0_0), .val (.int p0_1), .val (.int p0_2), .val (.int p0_3), .val (.int p0_4), .val (.ref b86), .val (.ref b107), .val (.int i126), .val (.ref b128), .val (.ref b155), .unset, .unset, .unset, .unset, .unset, .unset] [(.ref b107), (.ref b107)])) t
      exact k
    obtain ⟨cq176, kq176, q176a, q176b, q176c⟩ := isOf hZ e174 f162
    obtain ⟨v176, _, ⟨T176, L176, k176, n176⟩, -, X176, ⟨Lc176, hQ176, l176, y176, z176⟩, st176⟩ := X174.virtualBack hx (y := (⟨"java/lang/String", "equals", "(Ljava/lang/Object;)Z"⟩ : MethodName)) (z := (⟨"java/lang/String", "equals", "(Ljava/lang/Object;)Z"⟩ : MethodName)) hown (mvT hZ (hw _ (List.mem_of_getElem? (i := 62) rfl))) (mvT hZ (hw _ (List.mem_of_getElem? (i := 63) rfl))) (notFace_of_selects (args := #[]) (mvT hZ (hw _ (List.mem_of_getElem? (i := 65) rfl)))) (mvT hZ (hw _ (List.mem_of_getElem? (i := 65) rfl))) (mvT hZ (hw _ (List.mem_of_getElem? (i := 64) rfl))) (by decide) (backOf (W := 0) (own_rm11s l Z a0 hw [] b107 T155.heap n0 Z172) hZ (hw _ (List.mem_of_getElem? (i := 66) rfl)) (hw _ (List.mem_of_getElem? (i := 3) rfl)) (by decide) (by decide)) q176a q176c (g := (mkF m 79 #[.val (.int p0_0), .val (.int p0_1), .val (.int p0_2), .val (.int p0_3), .val (.int p0_4), .val (.ref b86), .val (.ref b107), .val (.int i126), .val (.ref b128), .val (.ref b155), .unset, .unset, .unset, .unset, .unset, .unset] [(.ref b107), (.ref b107)])) rfl (by rw [hml]; rfl) (Steps.refl _) (argsL := [(.ref b107)]) (rest := []) (lenOf pd__Ljava_lang_Object__Z rfl) rfl (by show 2 * 0 + _ ≤ _; exact Nat.le_of_eq rfl) (hb hby at_79) (fun _ _ => ⟨rfl, e174, (by decide : 5 + 0 ≤ _), (by decide : 16 + 0 ≤ _)⟩)
    dsimp only [Pt.U, Pt.locs, Pt.cells, Pt.slots] at X176 l176 y176 z176 st176 hQ176
    subst l176 y176 z176
    obtain ⟨rfl, M176, e176⟩ := hQ176
    have N177 := Fr.app N175 M176
    refine own_via (T' := T176) (g' := (mkF m 82 #[.val (.int p0_0), .val (.int p0_1), .val (.int p0_2), .val (.int p0_3), .val (.int p0_4), .val (.ref b86), .val (.ref b107), .val (.int i126), .val (.ref b128), .val (.ref b155), .unset, .unset, .unset, .unset, .unset, .unset] [(.int (own_F11s))])) st176 ?_
    refine own_by (T' := T176) (g' := (mkF m 86 #[.val (.int p0_0), .val (.int p0_1), .val (.int p0_2), .val (.int p0_3), .val (.int p0_4), .val (.ref b86), .val (.ref b107), .val (.int i126), .val (.ref b128), .val (.ref b155), .val (.int (own_F11s)), .unset, .unset, .unset, .unset, .unset] [(.ref b155)])) (fun t k => ?_) ?_
    · show Steps p.tables e below (T176.setTop (mkF m 82 #[.val (.int p0_0), .val (.int p0_1), .val (.int p0_2), .val (.int p0_3), .val (.int p0_4), .val (.ref b86), .val (.ref b107), .val (.int i126), .val (.ref b128), .val (.ref b155), .unset, .unset, .unset, .unset, .unset, .unset] [(.int (own_F11s))])) t
      refine XS.istore X176.here hx rfl (hb hby at_82) rfl (l' := #[.val (.int p0_0), .val (.int p0_1), .val (.int p0_2), .val (.int p0_3), .val (.int p0_4), .val (.ref b86), .val (.ref b107), .val (.int i126), .val (.ref b128), .val (.ref b155), .val (.int (own_F11s)), .unset, .unset, .unset, .unset, .unset]) rfl ?_
      show Steps p.tables e below (T176.setTop (mkF m 84 #[.val (.int p0_0), .val (.int p0_1), .val (.int p0_2), .val (.int p0_3), .val (.int p0_4), .val (.ref b86), .val (.ref b107), .val (.int i126), .val (.ref b128), .val (.ref b155), .val (.int (own_F11s)), .unset, .unset, .unset, .unset, .unset] [])) t
      refine XS.aload X176.here hx rfl (hb hby at_84) rfl rfl ?_
      show Steps p.tables e below (T176.setTop (mkF m 86 #[.val (.int p0_0), .val (.int p0_1), .val (.int p0_2), .val (.int p0_3), .val (.int p0_4), .val (.ref b86), .val (.ref b107), .val (.int i126), .val (.ref b128), .val (.ref b155), .val (.int (own_F11s)), .unset, .unset, .unset, .unset, .unset] [(.ref b155)])) t
      exact k
    obtain ⟨cq178, kq178, q178a, q178b, q178c⟩ := isOf hZ e176 f156
    obtain ⟨v178, _, ⟨T178, L178, k178, n178⟩, -, X178, ⟨Lc178, hQ178, l178, y178, z178⟩, st178⟩ := X176.virtualBack hx (y := (⟨"com/example/topping_out/toppingout/game/Player", "expert", "()Z"⟩ : MethodName)) (z := (⟨"com/example/topping_out/toppingout/game/Player", "expert", "()Z"⟩ : MethodName)) hown (mvT hZ (hw _ (List.mem_of_getElem? (i := 67) rfl))) (mvT hZ (hw _ (List.mem_of_getElem? (i := 68) rfl))) (notFace_of_selects (args := #[]) (mvT hZ (hw _ (List.mem_of_getElem? (i := 70) rfl)))) (mvT hZ (hw _ (List.mem_of_getElem? (i := 70) rfl))) (mvT hZ (hw _ (List.mem_of_getElem? (i := 69) rfl))) (by decide) (backOf (W := 0) (own_rm12 l Z a0 hw [] b155 (nar .boolean (nar .boolean i126)) T155.heap n0 Z172 f158) hZ (hw _ (List.mem_of_getElem? (i := 71) rfl)) (hw _ (List.mem_of_getElem? (i := 32) rfl)) (by decide) (by decide)) q178a q178c (g := (mkF m 86 #[.val (.int p0_0), .val (.int p0_1), .val (.int p0_2), .val (.int p0_3), .val (.int p0_4), .val (.ref b86), .val (.ref b107), .val (.int i126), .val (.ref b128), .val (.ref b155), .val (.int (own_F11s)), .unset, .unset, .unset, .unset, .unset] [(.ref b155)])) rfl (by rw [hml]; rfl) (Steps.refl _) (argsL := []) (rest := []) (lenOf pd___Z rfl) rfl (by show 2 * 0 + _ ≤ _; exact Nat.le_of_eq rfl) (hb hby at_86) (fun _ _ => ⟨rfl, e176, (by decide : 5 + 0 ≤ _), (by decide : 16 + 0 ≤ _)⟩)
    dsimp only [Pt.U, Pt.locs, Pt.cells, Pt.slots] at X178 l178 y178 z178 st178 hQ178
    subst l178 y178 z178
    obtain ⟨rfl, M178, e178⟩ := hQ178
    have N179 := Fr.app N177 M178
    refine own_via (T' := T178) (g' := (mkF m 89 #[.val (.int p0_0), .val (.int p0_1), .val (.int p0_2), .val (.int p0_3), .val (.int p0_4), .val (.ref b86), .val (.ref b107), .val (.int i126), .val (.ref b128), .val (.ref b155), .val (.int (own_F11s)), .unset, .unset, .unset, .unset, .unset] [(.int (own_F12 (nar .boolean (nar .boolean i126))))])) st178 ?_
    refine own_by (T' := T178) (g' := (mkF m 91 #[.val (.int p0_0), .val (.int p0_1), .val (.int p0_2), .val (.int p0_3), .val (.int p0_4), .val (.ref b86), .val (.ref b107), .val (.int i126), .val (.ref b128), .val (.ref b155), .val (.int (own_F11s)), .unset, .unset, .unset, .unset, .unset] [(.int i126), (.int (own_F12 (nar .boolean (nar .boolean i126))))])) (fun t k => ?_) ?_
    · show Steps p.tables e below (T178.setTop (mkF m 89 #[.val (.int p0_0), .val (.int p0_1), .val (.int p0_2), .val (.int p0_3), .val (.int p0_4), .val (.ref b86), .val (.ref b107), .val (.int i126), .val (.ref b128), .val (.ref b155), .val (.int (own_F11s)), .unset, .unset, .unset, .unset, .unset] [(.int (own_F12 (nar .boolean (nar .boolean i126))))])) t
      refine XS.iload X178.here hx rfl (hb hby at_89) rfl ?_
      show Steps p.tables e below (T178.setTop (mkF m 91 #[.val (.int p0_0), .val (.int p0_1), .val (.int p0_2), .val (.int p0_3), .val (.int p0_4), .val (.ref b86), .val (.ref b107), .val (.int i126), .val (.ref b128), .val (.ref b155), .val (.int (own_F11s)), .unset, .unset, .unset, .unset, .unset] [(.int i126), (.int (own_F12 (nar .boolean (nar .boolean i126))))])) t
      exact k
    have J0_2 : ∀ (T182 : State) (L182 : List Loc) (i181 : Int32), Stand p l e room_1 s m #[(.int p0_0), (.int p0_1), (.int p0_2), (.int p0_3), (.int p0_4)] below meth c T182 L182 5 16 → T182.heap = T155.heap → Fr n0 L182 → own_Go p e below (own_P s below room_1 (own_Q0 (own_F0_99_2 p0_0 p0_1 p0_2 p0_3 p0_4 i126 i181) h0 n0)) T182 (mkF m 99 #[.val (.int p0_0), .val (.int p0_1), .val (.int p0_2), .val (.int p0_3), .val (.int p0_4), .val (.ref b86), .val (.ref b107), .val (.int i126), .val (.ref b128), .val (.ref b155), .val (.int (own_F11s)), .unset, .unset, .unset, .unset, .unset] [(.int i181)]) := by
      intro T182 L182 i181 X182 e182 N182
      refine own_by (T' := T182) (g' := (mkF m 103 #[.val (.int p0_0), .val (.int p0_1), .val (.int p0_2), .val (.int p0_3), .val (.int p0_4), .val (.ref b86), .val (.ref b107), .val (.int i126), .val (.ref b128), .val (.ref b155), .val (.int (own_F11s)), .val (.int i181), .unset, .unset, .unset, .unset] [(.ref b155)])) (fun t k => ?_) ?_
      · show Steps p.tables e below (T182.setTop (mkF m 99 #[.val (.int p0_0), .val (.int p0_1), .val (.int p0_2), .val (.int p0_3), .val (.int p0_4), .val (.ref b86), .val (.ref b107), .val (.int i126), .val (.ref b128), .val (.ref b155), .val (.int (own_F11s)), .unset, .unset, .unset, .unset, .unset] [(.int i181)])) t
        refine XS.istore X182.here hx rfl (hb hby at_99) rfl (l' := #[.val (.int p0_0), .val (.int p0_1), .val (.int p0_2), .val (.int p0_3), .val (.int p0_4), .val (.ref b86), .val (.ref b107), .val (.int i126), .val (.ref b128), .val (.ref b155), .val (.int (own_F11s)), .val (.int i181), .unset, .unset, .unset, .unset]) rfl ?_
        show Steps p.tables e below (T182.setTop (mkF m 101 #[.val (.int p0_0), .val (.int p0_1), .val (.int p0_2), .val (.int p0_3), .val (.int p0_4), .val (.ref b86), .val (.ref b107), .val (.int i126), .val (.ref b128), .val (.ref b155), .val (.int (own_F11s)), .val (.int i181), .unset, .unset, .unset, .unset] [])) t
        refine XS.aload X182.here hx rfl (hb hby at_101) rfl rfl ?_
        show Steps p.tables e below (T182.setTop (mkF m 103 #[.val (.int p0_0), .val (.int p0_1), .val (.int p0_2), .val (.int p0_3), .val (.int p0_4), .val (.ref b86), .val (.ref b107), .val (.int i126), .val (.ref b128), .val (.ref b155), .val (.int (own_F11s)), .val (.int i181), .unset, .unset, .unset, .unset] [(.ref b155)])) t
        exact k
      obtain ⟨cq183, kq183, q183a, q183b, q183c⟩ := isOf hZ e182 f156
      obtain ⟨v183, _, ⟨T183, L183, k183, n183⟩, -, X183, ⟨Lc183, hQ183, l183, y183, z183⟩, st183⟩ := X182.virtualBack hx (y := (⟨"com/example/topping_out/toppingout/game/Player", "certificates", "()I"⟩ : MethodName)) (z := (⟨"com/example/topping_out/toppingout/game/Player", "certificates", "()I"⟩ : MethodName)) hown (mvT hZ (hw _ (List.mem_of_getElem? (i := 72) rfl))) (mvT hZ (hw _ (List.mem_of_getElem? (i := 73) rfl))) (notFace_of_selects (args := #[]) (mvT hZ (hw _ (List.mem_of_getElem? (i := 75) rfl)))) (mvT hZ (hw _ (List.mem_of_getElem? (i := 75) rfl))) (mvT hZ (hw _ (List.mem_of_getElem? (i := 74) rfl))) (by decide) (backOf (W := 0) (own_rm13 l Z a0 hw [] b155 (p0_3 - (1 : Int32)) T155.heap n0 Z172 f159) hZ (hw _ (List.mem_of_getElem? (i := 76) rfl)) (hw _ (List.mem_of_getElem? (i := 32) rfl)) (by decide) (by decide)) q183a q183c (g := (mkF m 103 #[.val (.int p0_0), .val (.int p0_1), .val (.int p0_2), .val (.int p0_3), .val (.int p0_4), .val (.ref b86), .val (.ref b107), .val (.int i126), .val (.ref b128), .val (.ref b155), .val (.int (own_F11s)), .val (.int i181), .unset, .unset, .unset, .unset] [(.ref b155)])) rfl (by rw [hml]; rfl) (Steps.refl _) (argsL := []) (rest := []) (lenOf pd___I rfl) rfl (by show 2 * 0 + _ ≤ _; exact Nat.le_of_eq rfl) (hb hby at_103) (fun _ _ => ⟨rfl, e182, (by decide : 5 + 0 ≤ _), (by decide : 16 + 0 ≤ _)⟩)
      dsimp only [Pt.U, Pt.locs, Pt.cells, Pt.slots] at X183 l183 y183 z183 st183 hQ183
      subst l183 y183 z183
      obtain ⟨rfl, M183, e183⟩ := hQ183
      have N184 := Fr.app N182 M183
      refine own_via (T' := T183) (g' := (mkF m 106 #[.val (.int p0_0), .val (.int p0_1), .val (.int p0_2), .val (.int p0_3), .val (.int p0_4), .val (.ref b86), .val (.ref b107), .val (.int i126), .val (.ref b128), .val (.ref b155), .val (.int (own_F11s)), .val (.int i181), .unset, .unset, .unset, .unset] [(.int (own_F13 (p0_3 - (1 : Int32))))])) st183 ?_
      refine own_by (T' := T183) (g' := (mkF m 109 #[.val (.int p0_0), .val (.int p0_1), .val (.int p0_2), .val (.int p0_3), .val (.int p0_4), .val (.ref b86), .val (.ref b107), .val (.int i126), .val (.ref b128), .val (.ref b155), .val (.int (own_F11s)), .val (.int i181), .unset, .unset, .unset, .unset] [(.int (p0_3 - (1 : Int32))), (.int (own_F13 (p0_3 - (1 : Int32))))])) (fun t k => ?_) ?_
      · show Steps p.tables e below (T183.setTop (mkF m 106 #[.val (.int p0_0), .val (.int p0_1), .val (.int p0_2), .val (.int p0_3), .val (.int p0_4), .val (.ref b86), .val (.ref b107), .val (.int i126), .val (.ref b128), .val (.ref b155), .val (.int (own_F11s)), .val (.int i181), .unset, .unset, .unset, .unset] [(.int (own_F13 (p0_3 - (1 : Int32))))])) t
        refine XS.iloadN X183.here hx rfl (hb hby at_106) rfl ?_
        show Steps p.tables e below (T183.setTop (mkF m 107 #[.val (.int p0_0), .val (.int p0_1), .val (.int p0_2), .val (.int p0_3), .val (.int p0_4), .val (.ref b86), .val (.ref b107), .val (.int i126), .val (.ref b128), .val (.ref b155), .val (.int (own_F11s)), .val (.int i181), .unset, .unset, .unset, .unset] [(.int p0_3), (.int (own_F13 (p0_3 - (1 : Int32))))])) t
        refine XS.iconst X183.here hx rfl (hb hby at_107) ?_
        show Steps p.tables e below (T183.setTop (mkF m 108 #[.val (.int p0_0), .val (.int p0_1), .val (.int p0_2), .val (.int p0_3), .val (.int p0_4), .val (.ref b86), .val (.ref b107), .val (.int i126), .val (.ref b128), .val (.ref b155), .val (.int (own_F11s)), .val (.int i181), .unset, .unset, .unset, .unset] [(.int (1 : Int32)), (.int p0_3), (.int (own_F13 (p0_3 - (1 : Int32))))])) t
        refine XS.isub X183.here hx rfl (hb hby at_108) rfl ?_
        show Steps p.tables e below (T183.setTop (mkF m 109 #[.val (.int p0_0), .val (.int p0_1), .val (.int p0_2), .val (.int p0_3), .val (.int p0_4), .val (.ref b86), .val (.ref b107), .val (.int i126), .val (.ref b128), .val (.ref b155), .val (.int (own_F11s)), .val (.int i181), .unset, .unset, .unset, .unset] [(.int (p0_3 - (1 : Int32))), (.int (own_F13 (p0_3 - (1 : Int32))))])) t
        exact k
      have J0_3 : ∀ (T187 : State) (L187 : List Loc) (i186 : Int32), Stand p l e room_1 s m #[(.int p0_0), (.int p0_1), (.int p0_2), (.int p0_3), (.int p0_4)] below meth c T187 L187 5 16 → T187.heap = T155.heap → Fr n0 L187 → own_Go p e below (own_P s below room_1 (own_Q0 (own_F0_117_3 p0_0 p0_1 p0_2 p0_3 p0_4 i126 i181 i186) h0 n0)) T187 (mkF m 117 #[.val (.int p0_0), .val (.int p0_1), .val (.int p0_2), .val (.int p0_3), .val (.int p0_4), .val (.ref b86), .val (.ref b107), .val (.int i126), .val (.ref b128), .val (.ref b155), .val (.int (own_F11s)), .val (.int i181), .unset, .unset, .unset, .unset] [(.int i186)]) := by
        intro T187 L187 i186 X187 e187 N187
        refine own_by (T' := T187) (g' := (mkF m 121 #[.val (.int p0_0), .val (.int p0_1), .val (.int p0_2), .val (.int p0_3), .val (.int p0_4), .val (.ref b86), .val (.ref b107), .val (.int i126), .val (.ref b128), .val (.ref b155), .val (.int (own_F11s)), .val (.int i181), .val (.int i186), .unset, .unset, .unset] [(.ref b155)])) (fun t k => ?_) ?_
        · show Steps p.tables e below (T187.setTop (mkF m 117 #[.val (.int p0_0), .val (.int p0_1), .val (.int p0_2), .val (.int p0_3), .val (.int p0_4), .val (.ref b86), .val (.ref b107), .val (.int i126), .val (.ref b128), .val (.ref b155), .val (.int (own_F11s)), .val (.int i181), .unset, .unset, .unset, .unset] [(.int i186)])) t
          refine XS.istore X187.here hx rfl (hb hby at_117) rfl (l' := #[.val (.int p0_0), .val (.int p0_1), .val (.int p0_2), .val (.int p0_3), .val (.int p0_4), .val (.ref b86), .val (.ref b107), .val (.int i126), .val (.ref b128), .val (.ref b155), .val (.int (own_F11s)), .val (.int i181), .val (.int i186), .unset, .unset, .unset]) rfl ?_
          show Steps p.tables e below (T187.setTop (mkF m 119 #[.val (.int p0_0), .val (.int p0_1), .val (.int p0_2), .val (.int p0_3), .val (.int p0_4), .val (.ref b86), .val (.ref b107), .val (.int i126), .val (.ref b128), .val (.ref b155), .val (.int (own_F11s)), .val (.int i181), .val (.int i186), .unset, .unset, .unset] [])) t
          refine XS.aload X187.here hx rfl (hb hby at_119) rfl rfl ?_
          show Steps p.tables e below (T187.setTop (mkF m 121 #[.val (.int p0_0), .val (.int p0_1), .val (.int p0_2), .val (.int p0_3), .val (.int p0_4), .val (.ref b86), .val (.ref b107), .val (.int i126), .val (.ref b128), .val (.ref b155), .val (.int (own_F11s)), .val (.int i181), .val (.int i186), .unset, .unset, .unset] [(.ref b155)])) t
          exact k
        obtain ⟨cq188, kq188, q188a, q188b, q188c⟩ := isOf hZ e187 f156
        obtain ⟨v188, _, ⟨T188, L188, k188, n188⟩, -, X188, ⟨Lc188, hQ188, l188, y188, z188⟩, st188⟩ := X187.virtualBack hx (y := (⟨"com/example/topping_out/toppingout/game/Player", "awards", "()I"⟩ : MethodName)) (z := (⟨"com/example/topping_out/toppingout/game/Player", "awards", "()I"⟩ : MethodName)) hown (mvT hZ (hw _ (List.mem_of_getElem? (i := 77) rfl))) (mvT hZ (hw _ (List.mem_of_getElem? (i := 78) rfl))) (notFace_of_selects (args := #[]) (mvT hZ (hw _ (List.mem_of_getElem? (i := 80) rfl)))) (mvT hZ (hw _ (List.mem_of_getElem? (i := 80) rfl))) (mvT hZ (hw _ (List.mem_of_getElem? (i := 79) rfl))) (by decide) (backOf (W := 0) (own_rm14 l Z a0 hw [] b155 p0_4 T155.heap n0 Z172 f160) hZ (hw _ (List.mem_of_getElem? (i := 81) rfl)) (hw _ (List.mem_of_getElem? (i := 32) rfl)) (by decide) (by decide)) q188a q188c (g := (mkF m 121 #[.val (.int p0_0), .val (.int p0_1), .val (.int p0_2), .val (.int p0_3), .val (.int p0_4), .val (.ref b86), .val (.ref b107), .val (.int i126), .val (.ref b128), .val (.ref b155), .val (.int (own_F11s)), .val (.int i181), .val (.int i186), .unset, .unset, .unset] [(.ref b155)])) rfl (by rw [hml]; rfl) (Steps.refl _) (argsL := []) (rest := []) (lenOf pd___I rfl) rfl (by show 2 * 0 + _ ≤ _; exact Nat.le_of_eq rfl) (hb hby at_121) (fun _ _ => ⟨rfl, e187, (by decide : 5 + 0 ≤ _), (by decide : 16 + 0 ≤ _)⟩)
        dsimp only [Pt.U, Pt.locs, Pt.cells, Pt.slots] at X188 l188 y188 z188 st188 hQ188
        subst l188 y188 z188
        obtain ⟨rfl, M188, e188⟩ := hQ188
        have N189 := Fr.app N187 M188
        refine own_via (T' := T188) (g' := (mkF m 124 #[.val (.int p0_0), .val (.int p0_1), .val (.int p0_2), .val (.int p0_3), .val (.int p0_4), .val (.ref b86), .val (.ref b107), .val (.int i126), .val (.ref b128), .val (.ref b155), .val (.int (own_F11s)), .val (.int i181), .val (.int i186), .unset, .unset, .unset] [(.int (own_F14 p0_4))])) st188 ?_
        refine own_by (T' := T188) (g' := (mkF m 126 #[.val (.int p0_0), .val (.int p0_1), .val (.int p0_2), .val (.int p0_3), .val (.int p0_4), .val (.ref b86), .val (.ref b107), .val (.int i126), .val (.ref b128), .val (.ref b155), .val (.int (own_F11s)), .val (.int i181), .val (.int i186), .unset, .unset, .unset] [(.int p0_4), (.int (own_F14 p0_4))])) (fun t k => ?_) ?_
        · show Steps p.tables e below (T188.setTop (mkF m 124 #[.val (.int p0_0), .val (.int p0_1), .val (.int p0_2), .val (.int p0_3), .val (.int p0_4), .val (.ref b86), .val (.ref b107), .val (.int i126), .val (.ref b128), .val (.ref b155), .val (.int (own_F11s)), .val (.int i181), .val (.int i186), .unset, .unset, .unset] [(.int (own_F14 p0_4))])) t
          refine XS.iload X188.here hx rfl (hb hby at_124) rfl ?_
          show Steps p.tables e below (T188.setTop (mkF m 126 #[.val (.int p0_0), .val (.int p0_1), .val (.int p0_2), .val (.int p0_3), .val (.int p0_4), .val (.ref b86), .val (.ref b107), .val (.int i126), .val (.ref b128), .val (.ref b155), .val (.int (own_F11s)), .val (.int i181), .val (.int i186), .unset, .unset, .unset] [(.int p0_4), (.int (own_F14 p0_4))])) t
          exact k
        have J0_4 : ∀ (T192 : State) (L192 : List Loc) (i191 : Int32), Stand p l e room_1 s m #[(.int p0_0), (.int p0_1), (.int p0_2), (.int p0_3), (.int p0_4)] below meth c T192 L192 5 16 → T192.heap = T155.heap → Fr n0 L192 → own_Go p e below (own_P s below room_1 (own_Q0 (own_F0_134_4 p0_0 p0_1 p0_2 p0_3 p0_4 i126 i181 i186 i191) h0 n0)) T192 (mkF m 134 #[.val (.int p0_0), .val (.int p0_1), .val (.int p0_2), .val (.int p0_3), .val (.int p0_4), .val (.ref b86), .val (.ref b107), .val (.int i126), .val (.ref b128), .val (.ref b155), .val (.int (own_F11s)), .val (.int i181), .val (.int i186), .unset, .unset, .unset] [(.int i191)]) := by
          intro T192 L192 i191 X192 e192 N192
          refine own_by (T' := T192) (g' := (mkF m 138 #[.val (.int p0_0), .val (.int p0_1), .val (.int p0_2), .val (.int p0_3), .val (.int p0_4), .val (.ref b86), .val (.ref b107), .val (.int i126), .val (.ref b128), .val (.ref b155), .val (.int (own_F11s)), .val (.int i181), .val (.int i186), .val (.int i191), .unset, .unset] [(.ref b155)])) (fun t k => ?_) ?_
          · show Steps p.tables e below (T192.setTop (mkF m 134 #[.val (.int p0_0), .val (.int p0_1), .val (.int p0_2), .val (.int p0_3), .val (.int p0_4), .val (.ref b86), .val (.ref b107), .val (.int i126), .val (.ref b128), .val (.ref b155), .val (.int (own_F11s)), .val (.int i181), .val (.int i186), .unset, .unset, .unset] [(.int i191)])) t
            refine XS.istore X192.here hx rfl (hb hby at_134) rfl (l' := #[.val (.int p0_0), .val (.int p0_1), .val (.int p0_2), .val (.int p0_3), .val (.int p0_4), .val (.ref b86), .val (.ref b107), .val (.int i126), .val (.ref b128), .val (.ref b155), .val (.int (own_F11s)), .val (.int i181), .val (.int i186), .val (.int i191), .unset, .unset]) rfl ?_
            show Steps p.tables e below (T192.setTop (mkF m 136 #[.val (.int p0_0), .val (.int p0_1), .val (.int p0_2), .val (.int p0_3), .val (.int p0_4), .val (.ref b86), .val (.ref b107), .val (.int i126), .val (.ref b128), .val (.ref b155), .val (.int (own_F11s)), .val (.int i181), .val (.int i186), .val (.int i191), .unset, .unset] [])) t
            refine XS.aload X192.here hx rfl (hb hby at_136) rfl rfl ?_
            show Steps p.tables e below (T192.setTop (mkF m 138 #[.val (.int p0_0), .val (.int p0_1), .val (.int p0_2), .val (.int p0_3), .val (.int p0_4), .val (.ref b86), .val (.ref b107), .val (.int i126), .val (.ref b128), .val (.ref b155), .val (.int (own_F11s)), .val (.int i181), .val (.int i186), .val (.int i191), .unset, .unset] [(.ref b155)])) t
            exact k
          obtain ⟨cq193, kq193, q193a, q193b, q193c⟩ := isOf hZ e192 f156
          obtain ⟨v193, _, ⟨T193, L193, k193, n193⟩, -, X193, ⟨Lc193, hQ193, l193, y193, z193⟩, st193⟩ := X192.virtualBack hx (y := (⟨"com/example/topping_out/toppingout/game/Player", "out", "()Z"⟩ : MethodName)) (z := (⟨"com/example/topping_out/toppingout/game/Player", "out", "()Z"⟩ : MethodName)) hown (mvT hZ (hw _ (List.mem_of_getElem? (i := 82) rfl))) (mvT hZ (hw _ (List.mem_of_getElem? (i := 83) rfl))) (notFace_of_selects (args := #[]) (mvT hZ (hw _ (List.mem_of_getElem? (i := 85) rfl)))) (mvT hZ (hw _ (List.mem_of_getElem? (i := 85) rfl))) (mvT hZ (hw _ (List.mem_of_getElem? (i := 84) rfl))) (by decide) (backOf (W := 0) (own_rm15 l Z a0 hw [] b155 (p0_3 - (1 : Int32)) T155.heap n0 Z172 f159) hZ (hw _ (List.mem_of_getElem? (i := 86) rfl)) (hw _ (List.mem_of_getElem? (i := 32) rfl)) (by decide) (by decide)) q193a q193c (g := (mkF m 138 #[.val (.int p0_0), .val (.int p0_1), .val (.int p0_2), .val (.int p0_3), .val (.int p0_4), .val (.ref b86), .val (.ref b107), .val (.int i126), .val (.ref b128), .val (.ref b155), .val (.int (own_F11s)), .val (.int i181), .val (.int i186), .val (.int i191), .unset, .unset] [(.ref b155)])) rfl (by rw [hml]; rfl) (Steps.refl _) (argsL := []) (rest := []) (lenOf pd___Z rfl) rfl (by show 2 * 0 + _ ≤ _; exact Nat.le_of_eq rfl) (hb hby at_138) (fun _ _ => ⟨rfl, e192, (by decide : 5 + 0 ≤ _), (by decide : 16 + 0 ≤ _)⟩)
          dsimp only [Pt.U, Pt.locs, Pt.cells, Pt.slots] at X193 l193 y193 z193 st193 hQ193
          subst l193 y193 z193
          obtain ⟨rfl, M193, e193⟩ := hQ193
          have N194 := Fr.app N192 M193
          refine own_via (T' := T193) (g' := (mkF m 141 #[.val (.int p0_0), .val (.int p0_1), .val (.int p0_2), .val (.int p0_3), .val (.int p0_4), .val (.ref b86), .val (.ref b107), .val (.int i126), .val (.ref b128), .val (.ref b155), .val (.int (own_F11s)), .val (.int i181), .val (.int i186), .val (.int i191), .unset, .unset] [(.int (own_F15 (p0_3 - (1 : Int32))))])) st193 ?_
          refine own_by (T' := T193) (g' := (mkF m 143 #[.val (.int p0_0), .val (.int p0_1), .val (.int p0_2), .val (.int p0_3), .val (.int p0_4), .val (.ref b86), .val (.ref b107), .val (.int i126), .val (.ref b128), .val (.ref b155), .val (.int (own_F11s)), .val (.int i181), .val (.int i186), .val (.int i191), .unset, .unset] [(.int (1 : Int32)), (.int p0_3), (.int (own_F15 (p0_3 - (1 : Int32))))])) (fun t k => ?_) ?_
          · show Steps p.tables e below (T193.setTop (mkF m 141 #[.val (.int p0_0), .val (.int p0_1), .val (.int p0_2), .val (.int p0_3), .val (.int p0_4), .val (.ref b86), .val (.ref b107), .val (.int i126), .val (.ref b128), .val (.ref b155), .val (.int (own_F11s)), .val (.int i181), .val (.int i186), .val (.int i191), .unset, .unset] [(.int (own_F15 (p0_3 - (1 : Int32))))])) t
            refine XS.iloadN X193.here hx rfl (hb hby at_141) rfl ?_
            show Steps p.tables e below (T193.setTop (mkF m 142 #[.val (.int p0_0), .val (.int p0_1), .val (.int p0_2), .val (.int p0_3), .val (.int p0_4), .val (.ref b86), .val (.ref b107), .val (.int i126), .val (.ref b128), .val (.ref b155), .val (.int (own_F11s)), .val (.int i181), .val (.int i186), .val (.int i191), .unset, .unset] [(.int p0_3), (.int (own_F15 (p0_3 - (1 : Int32))))])) t
            refine XS.iconst X193.here hx rfl (hb hby at_142) ?_
            show Steps p.tables e below (T193.setTop (mkF m 143 #[.val (.int p0_0), .val (.int p0_1), .val (.int p0_2), .val (.int p0_3), .val (.int p0_4), .val (.ref b86), .val (.ref b107), .val (.int i126), .val (.ref b128), .val (.ref b155), .val (.int (own_F11s)), .val (.int i181), .val (.int i186), .val (.int i191), .unset, .unset] [(.int (1 : Int32)), (.int p0_3), (.int (own_F15 (p0_3 - (1 : Int32))))])) t
            exact k
          have J0_5 : ∀ (T197 : State) (L197 : List Loc) (i196 : Int32), Stand p l e room_1 s m #[(.int p0_0), (.int p0_1), (.int p0_2), (.int p0_3), (.int p0_4)] below meth c T197 L197 5 16 → T197.heap = T155.heap → Fr n0 L197 → own_Go p e below (own_P s below room_1 (own_Q0 (own_F0_151_5 p0_0 p0_1 p0_2 p0_3 p0_4 i126 i181 i186 i191 i196) h0 n0)) T197 (mkF m 151 #[.val (.int p0_0), .val (.int p0_1), .val (.int p0_2), .val (.int p0_3), .val (.int p0_4), .val (.ref b86), .val (.ref b107), .val (.int i126), .val (.ref b128), .val (.ref b155), .val (.int (own_F11s)), .val (.int i181), .val (.int i186), .val (.int i191), .unset, .unset] [(.int i196), (.int (own_F15 (p0_3 - (1 : Int32))))]) := by
            intro T197 L197 i196 X197 e197 N197
            have J0_6 : ∀ (T200 : State) (L200 : List Loc) (i199 : Int32), Stand p l e room_1 s m #[(.int p0_0), (.int p0_1), (.int p0_2), (.int p0_3), (.int p0_4)] below meth c T200 L200 5 16 → T200.heap = T155.heap → Fr n0 L200 → own_Go p e below (own_P s below room_1 (own_Q0 (own_F0_159_6 p0_0 p0_1 p0_2 p0_3 p0_4 i126 i181 i186 i191 i196 i199) h0 n0)) T200 (mkF m 159 #[.val (.int p0_0), .val (.int p0_1), .val (.int p0_2), .val (.int p0_3), .val (.int p0_4), .val (.ref b86), .val (.ref b107), .val (.int i126), .val (.ref b128), .val (.ref b155), .val (.int (own_F11s)), .val (.int i181), .val (.int i186), .val (.int i191), .unset, .unset] [(.int i199)]) := by
              intro T200 L200 i199 X200 e200 N200
              refine own_by (T' := T200) (g' := (mkF m 163 #[.val (.int p0_0), .val (.int p0_1), .val (.int p0_2), .val (.int p0_3), .val (.int p0_4), .val (.ref b86), .val (.ref b107), .val (.int i126), .val (.ref b128), .val (.ref b155), .val (.int (own_F11s)), .val (.int i181), .val (.int i186), .val (.int i191), .val (.int i199), .unset] [(.ref b128)])) (fun t k => ?_) ?_
              · show Steps p.tables e below (T200.setTop (mkF m 159 #[.val (.int p0_0), .val (.int p0_1), .val (.int p0_2), .val (.int p0_3), .val (.int p0_4), .val (.ref b86), .val (.ref b107), .val (.int i126), .val (.ref b128), .val (.ref b155), .val (.int (own_F11s)), .val (.int i181), .val (.int i186), .val (.int i191), .unset, .unset] [(.int i199)])) t
                refine XS.istore X200.here hx rfl (hb hby at_159) rfl (l' := #[.val (.int p0_0), .val (.int p0_1), .val (.int p0_2), .val (.int p0_3), .val (.int p0_4), .val (.ref b86), .val (.ref b107), .val (.int i126), .val (.ref b128), .val (.ref b155), .val (.int (own_F11s)), .val (.int i181), .val (.int i186), .val (.int i191), .val (.int i199), .unset]) rfl ?_
                show Steps p.tables e below (T200.setTop (mkF m 161 #[.val (.int p0_0), .val (.int p0_1), .val (.int p0_2), .val (.int p0_3), .val (.int p0_4), .val (.ref b86), .val (.ref b107), .val (.int i126), .val (.ref b128), .val (.ref b155), .val (.int (own_F11s)), .val (.int i181), .val (.int i186), .val (.int i191), .val (.int i199), .unset] [])) t
                refine XS.aload X200.here hx rfl (hb hby at_161) rfl rfl ?_
                show Steps p.tables e below (T200.setTop (mkF m 163 #[.val (.int p0_0), .val (.int p0_1), .val (.int p0_2), .val (.int p0_3), .val (.int p0_4), .val (.ref b86), .val (.ref b107), .val (.int i126), .val (.ref b128), .val (.ref b155), .val (.int (own_F11s)), .val (.int i181), .val (.int i186), .val (.int i191), .val (.int i199), .unset] [(.ref b128)])) t
                exact k
              obtain ⟨cq201, kq201, q201a, q201b, q201c⟩ := isOf hZ e200 f165
              obtain ⟨v201, _, ⟨T201, L201, k201, n201⟩, -, X201, ⟨Lc201, hQ201, l201, y201, z201⟩, st201⟩ := X200.virtualBack hx (y := (⟨"com/example/topping_out/toppingout/game/Player", "certificates", "()I"⟩ : MethodName)) (z := (⟨"com/example/topping_out/toppingout/game/Player", "certificates", "()I"⟩ : MethodName)) hown (mvT hZ (hw _ (List.mem_of_getElem? (i := 72) rfl))) (mvT hZ (hw _ (List.mem_of_getElem? (i := 73) rfl))) (notFace_of_selects (args := #[]) (mvT hZ (hw _ (List.mem_of_getElem? (i := 75) rfl)))) (mvT hZ (hw _ (List.mem_of_getElem? (i := 75) rfl))) (mvT hZ (hw _ (List.mem_of_getElem? (i := 74) rfl))) (by decide) (backOf (W := 0) (own_rm13 l Z a0 hw [] b128 p0_3 T155.heap n0 Z172 f168) hZ (hw _ (List.mem_of_getElem? (i := 76) rfl)) (hw _ (List.mem_of_getElem? (i := 32) rfl)) (by decide) (by decide)) q201a q201c (g := (mkF m 163 #[.val (.int p0_0), .val (.int p0_1), .val (.int p0_2), .val (.int p0_3), .val (.int p0_4), .val (.ref b86), .val (.ref b107), .val (.int i126), .val (.ref b128), .val (.ref b155), .val (.int (own_F11s)), .val (.int i181), .val (.int i186), .val (.int i191), .val (.int i199), .unset] [(.ref b128)])) rfl (by rw [hml]; rfl) (Steps.refl _) (argsL := []) (rest := []) (lenOf pd___I rfl) rfl (by show 2 * 0 + _ ≤ _; exact Nat.le_of_eq rfl) (hb hby at_163) (fun _ _ => ⟨rfl, e200, (by decide : 5 + 0 ≤ _), (by decide : 16 + 0 ≤ _)⟩)
              dsimp only [Pt.U, Pt.locs, Pt.cells, Pt.slots] at X201 l201 y201 z201 st201 hQ201
              subst l201 y201 z201
              obtain ⟨rfl, M201, e201⟩ := hQ201
              have N202 := Fr.app N200 M201
              refine own_via (T' := T201) (g' := (mkF m 166 #[.val (.int p0_0), .val (.int p0_1), .val (.int p0_2), .val (.int p0_3), .val (.int p0_4), .val (.ref b86), .val (.ref b107), .val (.int i126), .val (.ref b128), .val (.ref b155), .val (.int (own_F11s)), .val (.int i181), .val (.int i186), .val (.int i191), .val (.int i199), .unset] [(.int (own_F13 p0_3))])) st201 ?_
              refine own_by (T' := T201) (g' := (mkF m 167 #[.val (.int p0_0), .val (.int p0_1), .val (.int p0_2), .val (.int p0_3), .val (.int p0_4), .val (.ref b86), .val (.ref b107), .val (.int i126), .val (.ref b128), .val (.ref b155), .val (.int (own_F11s)), .val (.int i181), .val (.int i186), .val (.int i191), .val (.int i199), .unset] [(.int p0_3), (.int (own_F13 p0_3))])) (fun t k => ?_) ?_
              · show Steps p.tables e below (T201.setTop (mkF m 166 #[.val (.int p0_0), .val (.int p0_1), .val (.int p0_2), .val (.int p0_3), .val (.int p0_4), .val (.ref b86), .val (.ref b107), .val (.int i126), .val (.ref b128), .val (.ref b155), .val (.int (own_F11s)), .val (.int i181), .val (.int i186), .val (.int i191), .val (.int i199), .unset] [(.int (own_F13 p0_3))])) t
                refine XS.iloadN X201.here hx rfl (hb hby at_166) rfl ?_
                show Steps p.tables e below (T201.setTop (mkF m 167 #[.val (.int p0_0), .val (.int p0_1), .val (.int p0_2), .val (.int p0_3), .val (.int p0_4), .val (.ref b86), .val (.ref b107), .val (.int i126), .val (.ref b128), .val (.ref b155), .val (.int (own_F11s)), .val (.int i181), .val (.int i186), .val (.int i191), .val (.int i199), .unset] [(.int p0_3), (.int (own_F13 p0_3))])) t
                exact k
              have J0_7 : ∀ (T205 : State) (L205 : List Loc) (i204 : Int32), Stand p l e room_1 s m #[(.int p0_0), (.int p0_1), (.int p0_2), (.int p0_3), (.int p0_4)] below meth c T205 L205 5 16 → T205.heap = T155.heap → Fr n0 L205 → own_Go p e below (own_P s below room_1 (own_Q0 (own_F0_175_7 p0_0 p0_1 p0_2 p0_3 p0_4 i126 i181 i186 i191 i196 i199 i204) h0 n0)) T205 (mkF m 175 #[.val (.int p0_0), .val (.int p0_1), .val (.int p0_2), .val (.int p0_3), .val (.int p0_4), .val (.ref b86), .val (.ref b107), .val (.int i126), .val (.ref b128), .val (.ref b155), .val (.int (own_F11s)), .val (.int i181), .val (.int i186), .val (.int i191), .val (.int i199), .unset] [(.int i204)]) := by
                intro T205 L205 i204 X205 e205 N205
                refine own_by (T' := T205) (g' := (mkF m 179 #[.val (.int p0_0), .val (.int p0_1), .val (.int p0_2), .val (.int p0_3), .val (.int p0_4), .val (.ref b86), .val (.ref b107), .val (.int i126), .val (.ref b128), .val (.ref b155), .val (.int (own_F11s)), .val (.int i181), .val (.int i186), .val (.int i191), .val (.int i199), .val (.int i204)] [(.int (own_F11s))])) (fun t k => ?_) ?_
                · show Steps p.tables e below (T205.setTop (mkF m 175 #[.val (.int p0_0), .val (.int p0_1), .val (.int p0_2), .val (.int p0_3), .val (.int p0_4), .val (.ref b86), .val (.ref b107), .val (.int i126), .val (.ref b128), .val (.ref b155), .val (.int (own_F11s)), .val (.int i181), .val (.int i186), .val (.int i191), .val (.int i199), .unset] [(.int i204)])) t
                  refine XS.istore X205.here hx rfl (hb hby at_175) rfl (l' := #[.val (.int p0_0), .val (.int p0_1), .val (.int p0_2), .val (.int p0_3), .val (.int p0_4), .val (.ref b86), .val (.ref b107), .val (.int i126), .val (.ref b128), .val (.ref b155), .val (.int (own_F11s)), .val (.int i181), .val (.int i186), .val (.int i191), .val (.int i199), .val (.int i204)]) rfl ?_
                  show Steps p.tables e below (T205.setTop (mkF m 177 #[.val (.int p0_0), .val (.int p0_1), .val (.int p0_2), .val (.int p0_3), .val (.int p0_4), .val (.ref b86), .val (.ref b107), .val (.int i126), .val (.ref b128), .val (.ref b155), .val (.int (own_F11s)), .val (.int i181), .val (.int i186), .val (.int i191), .val (.int i199), .val (.int i204)] [])) t
                  refine XS.iload X205.here hx rfl (hb hby at_177) rfl ?_
                  show Steps p.tables e below (T205.setTop (mkF m 179 #[.val (.int p0_0), .val (.int p0_1), .val (.int p0_2), .val (.int p0_3), .val (.int p0_4), .val (.ref b86), .val (.ref b107), .val (.int i126), .val (.ref b128), .val (.ref b155), .val (.int (own_F11s)), .val (.int i181), .val (.int i186), .val (.int i191), .val (.int i199), .val (.int i204)] [(.int (own_F11s))])) t
                  exact k
                by_cases hc206 : (own_F11s) = (0 : Int32)
                · skip
                  refine own_by (T' := T205) (g' := (mkF m 212 #[.val (.int p0_0), .val (.int p0_1), .val (.int p0_2), .val (.int p0_3), .val (.int p0_4), .val (.ref b86), .val (.ref b107), .val (.int i126), .val (.ref b128), .val (.ref b155), .val (.int (own_F11s)), .val (.int i181), .val (.int i186), .val (.int i191), .val (.int i199), .val (.int i204)] [(.int (0 : Int32))])) (fun t k => ?_) ?_
                  · show Steps p.tables e below (T205.setTop (mkF m 179 #[.val (.int p0_0), .val (.int p0_1), .val (.int p0_2), .val (.int p0_3), .val (.int p0_4), .val (.ref b86), .val (.ref b107), .val (.int i126), .val (.ref b128), .val (.ref b155), .val (.int (own_F11s)), .val (.int i181), .val (.int i186), .val (.int i191), .val (.int i199), .val (.int i204)] [(.int (own_F11s))])) t
                    refine XS.ifYes X205.here hx rfl (pc0 := 179) (pc' := 211) rfl (hb hby at_179) rfl ((if0 _ _).trans (teq hc206).1) (by decide) (by decide) ?_
                    show Steps p.tables e below (T205.setTop (mkF m 211 #[.val (.int p0_0), .val (.int p0_1), .val (.int p0_2), .val (.int p0_3), .val (.int p0_4), .val (.ref b86), .val (.ref b107), .val (.int i126), .val (.ref b128), .val (.ref b155), .val (.int (own_F11s)), .val (.int i181), .val (.int i186), .val (.int i191), .val (.int i199), .val (.int i204)] [])) t
                    refine XS.iconst X205.here hx rfl (hb hby at_211) ?_
                    show Steps p.tables e below (T205.setTop (mkF m 212 #[.val (.int p0_0), .val (.int p0_1), .val (.int p0_2), .val (.int p0_3), .val (.int p0_4), .val (.ref b86), .val (.ref b107), .val (.int i126), .val (.ref b128), .val (.ref b155), .val (.int (own_F11s)), .val (.int i181), .val (.int i186), .val (.int i191), .val (.int i199), .val (.int i204)] [(.int (0 : Int32))])) t
                    exact k
                  rw [show own_F0_175_7 p0_0 p0_1 p0_2 p0_3 p0_4 i126 i181 i186 i191 i196 i199 i204 = (0 : Int32) from ((if_pos hc206).trans rfl)]
                  exact own_retN X205 hx (t := .boolean) Bd.returns (by simp) (hb hby at_212) hlk (by decide) (by decide) ⟨rfl, N205⟩
                · skip
                  refine own_by (T' := T205) (g' := (mkF m 184 #[.val (.int p0_0), .val (.int p0_1), .val (.int p0_2), .val (.int p0_3), .val (.int p0_4), .val (.ref b86), .val (.ref b107), .val (.int i126), .val (.ref b128), .val (.ref b155), .val (.int (own_F11s)), .val (.int i181), .val (.int i186), .val (.int i191), .val (.int i199), .val (.int i204)] [(.int i181)])) (fun t k => ?_) ?_
                  · show Steps p.tables e below (T205.setTop (mkF m 179 #[.val (.int p0_0), .val (.int p0_1), .val (.int p0_2), .val (.int p0_3), .val (.int p0_4), .val (.ref b86), .val (.ref b107), .val (.int i126), .val (.ref b128), .val (.ref b155), .val (.int (own_F11s)), .val (.int i181), .val (.int i186), .val (.int i191), .val (.int i199), .val (.int i204)] [(.int (own_F11s))])) t
                    refine XS.ifNo X205.here hx rfl (hb hby at_179) rfl ((if0 _ _).trans (feq hc206).1) ?_
                    show Steps p.tables e below (T205.setTop (mkF m 182 #[.val (.int p0_0), .val (.int p0_1), .val (.int p0_2), .val (.int p0_3), .val (.int p0_4), .val (.ref b86), .val (.ref b107), .val (.int i126), .val (.ref b128), .val (.ref b155), .val (.int (own_F11s)), .val (.int i181), .val (.int i186), .val (.int i191), .val (.int i199), .val (.int i204)] [])) t
                    refine XS.iload X205.here hx rfl (hb hby at_182) rfl ?_
                    show Steps p.tables e below (T205.setTop (mkF m 184 #[.val (.int p0_0), .val (.int p0_1), .val (.int p0_2), .val (.int p0_3), .val (.int p0_4), .val (.ref b86), .val (.ref b107), .val (.int i126), .val (.ref b128), .val (.ref b155), .val (.int (own_F11s)), .val (.int i181), .val (.int i186), .val (.int i191), .val (.int i199), .val (.int i204)] [(.int i181)])) t
                    exact k
                  by_cases hc212 : i181 = (0 : Int32)
                  · skip
                    refine own_by (T' := T205) (g' := (mkF m 212 #[.val (.int p0_0), .val (.int p0_1), .val (.int p0_2), .val (.int p0_3), .val (.int p0_4), .val (.ref b86), .val (.ref b107), .val (.int i126), .val (.ref b128), .val (.ref b155), .val (.int (own_F11s)), .val (.int i181), .val (.int i186), .val (.int i191), .val (.int i199), .val (.int i204)] [(.int (0 : Int32))])) (fun t k => ?_) ?_
                    · show Steps p.tables e below (T205.setTop (mkF m 184 #[.val (.int p0_0), .val (.int p0_1), .val (.int p0_2), .val (.int p0_3), .val (.int p0_4), .val (.ref b86), .val (.ref b107), .val (.int i126), .val (.ref b128), .val (.ref b155), .val (.int (own_F11s)), .val (.int i181), .val (.int i186), .val (.int i191), .val (.int i199), .val (.int i204)] [(.int i181)])) t
                      refine XS.ifYes X205.here hx rfl (pc0 := 184) (pc' := 211) rfl (hb hby at_184) rfl ((if0 _ _).trans (teq hc212).1) (by decide) (by decide) ?_
                      show Steps p.tables e below (T205.setTop (mkF m 211 #[.val (.int p0_0), .val (.int p0_1), .val (.int p0_2), .val (.int p0_3), .val (.int p0_4), .val (.ref b86), .val (.ref b107), .val (.int i126), .val (.ref b128), .val (.ref b155), .val (.int (own_F11s)), .val (.int i181), .val (.int i186), .val (.int i191), .val (.int i199), .val (.int i204)] [])) t
                      refine XS.iconst X205.here hx rfl (hb hby at_211) ?_
                      show Steps p.tables e below (T205.setTop (mkF m 212 #[.val (.int p0_0), .val (.int p0_1), .val (.int p0_2), .val (.int p0_3), .val (.int p0_4), .val (.ref b86), .val (.ref b107), .val (.int i126), .val (.ref b128), .val (.ref b155), .val (.int (own_F11s)), .val (.int i181), .val (.int i186), .val (.int i191), .val (.int i199), .val (.int i204)] [(.int (0 : Int32))])) t
                      exact k
                    rw [show own_F0_175_7 p0_0 p0_1 p0_2 p0_3 p0_4 i126 i181 i186 i191 i196 i199 i204 = (0 : Int32) from ((if_neg hc206).trans ((if_pos hc212).trans rfl))]
                    exact own_retN X205 hx (t := .boolean) Bd.returns (by simp) (hb hby at_212) hlk (by decide) (by decide) ⟨rfl, N205⟩
                  · skip
                    refine own_by (T' := T205) (g' := (mkF m 189 #[.val (.int p0_0), .val (.int p0_1), .val (.int p0_2), .val (.int p0_3), .val (.int p0_4), .val (.ref b86), .val (.ref b107), .val (.int i126), .val (.ref b128), .val (.ref b155), .val (.int (own_F11s)), .val (.int i181), .val (.int i186), .val (.int i191), .val (.int i199), .val (.int i204)] [(.int i186)])) (fun t k => ?_) ?_
                    · show Steps p.tables e below (T205.setTop (mkF m 184 #[.val (.int p0_0), .val (.int p0_1), .val (.int p0_2), .val (.int p0_3), .val (.int p0_4), .val (.ref b86), .val (.ref b107), .val (.int i126), .val (.ref b128), .val (.ref b155), .val (.int (own_F11s)), .val (.int i181), .val (.int i186), .val (.int i191), .val (.int i199), .val (.int i204)] [(.int i181)])) t
                      refine XS.ifNo X205.here hx rfl (hb hby at_184) rfl ((if0 _ _).trans (feq hc212).1) ?_
                      show Steps p.tables e below (T205.setTop (mkF m 187 #[.val (.int p0_0), .val (.int p0_1), .val (.int p0_2), .val (.int p0_3), .val (.int p0_4), .val (.ref b86), .val (.ref b107), .val (.int i126), .val (.ref b128), .val (.ref b155), .val (.int (own_F11s)), .val (.int i181), .val (.int i186), .val (.int i191), .val (.int i199), .val (.int i204)] [])) t
                      refine XS.iload X205.here hx rfl (hb hby at_187) rfl ?_
                      show Steps p.tables e below (T205.setTop (mkF m 189 #[.val (.int p0_0), .val (.int p0_1), .val (.int p0_2), .val (.int p0_3), .val (.int p0_4), .val (.ref b86), .val (.ref b107), .val (.int i126), .val (.ref b128), .val (.ref b155), .val (.int (own_F11s)), .val (.int i181), .val (.int i186), .val (.int i191), .val (.int i199), .val (.int i204)] [(.int i186)])) t
                      exact k
                    by_cases hc217 : i186 = (0 : Int32)
                    · skip
                      refine own_by (T' := T205) (g' := (mkF m 212 #[.val (.int p0_0), .val (.int p0_1), .val (.int p0_2), .val (.int p0_3), .val (.int p0_4), .val (.ref b86), .val (.ref b107), .val (.int i126), .val (.ref b128), .val (.ref b155), .val (.int (own_F11s)), .val (.int i181), .val (.int i186), .val (.int i191), .val (.int i199), .val (.int i204)] [(.int (0 : Int32))])) (fun t k => ?_) ?_
                      · show Steps p.tables e below (T205.setTop (mkF m 189 #[.val (.int p0_0), .val (.int p0_1), .val (.int p0_2), .val (.int p0_3), .val (.int p0_4), .val (.ref b86), .val (.ref b107), .val (.int i126), .val (.ref b128), .val (.ref b155), .val (.int (own_F11s)), .val (.int i181), .val (.int i186), .val (.int i191), .val (.int i199), .val (.int i204)] [(.int i186)])) t
                        refine XS.ifYes X205.here hx rfl (pc0 := 189) (pc' := 211) rfl (hb hby at_189) rfl ((if0 _ _).trans (teq hc217).1) (by decide) (by decide) ?_
                        show Steps p.tables e below (T205.setTop (mkF m 211 #[.val (.int p0_0), .val (.int p0_1), .val (.int p0_2), .val (.int p0_3), .val (.int p0_4), .val (.ref b86), .val (.ref b107), .val (.int i126), .val (.ref b128), .val (.ref b155), .val (.int (own_F11s)), .val (.int i181), .val (.int i186), .val (.int i191), .val (.int i199), .val (.int i204)] [])) t
                        refine XS.iconst X205.here hx rfl (hb hby at_211) ?_
                        show Steps p.tables e below (T205.setTop (mkF m 212 #[.val (.int p0_0), .val (.int p0_1), .val (.int p0_2), .val (.int p0_3), .val (.int p0_4), .val (.ref b86), .val (.ref b107), .val (.int i126), .val (.ref b128), .val (.ref b155), .val (.int (own_F11s)), .val (.int i181), .val (.int i186), .val (.int i191), .val (.int i199), .val (.int i204)] [(.int (0 : Int32))])) t
                        exact k
                      rw [show own_F0_175_7 p0_0 p0_1 p0_2 p0_3 p0_4 i126 i181 i186 i191 i196 i199 i204 = (0 : Int32) from ((if_neg hc206).trans ((if_neg hc212).trans ((if_pos hc217).trans rfl)))]
                      exact own_retN X205 hx (t := .boolean) Bd.returns (by simp) (hb hby at_212) hlk (by decide) (by decide) ⟨rfl, N205⟩
                    · skip
                      refine own_by (T' := T205) (g' := (mkF m 194 #[.val (.int p0_0), .val (.int p0_1), .val (.int p0_2), .val (.int p0_3), .val (.int p0_4), .val (.ref b86), .val (.ref b107), .val (.int i126), .val (.ref b128), .val (.ref b155), .val (.int (own_F11s)), .val (.int i181), .val (.int i186), .val (.int i191), .val (.int i199), .val (.int i204)] [(.int i191)])) (fun t k => ?_) ?_
                      · show Steps p.tables e below (T205.setTop (mkF m 189 #[.val (.int p0_0), .val (.int p0_1), .val (.int p0_2), .val (.int p0_3), .val (.int p0_4), .val (.ref b86), .val (.ref b107), .val (.int i126), .val (.ref b128), .val (.ref b155), .val (.int (own_F11s)), .val (.int i181), .val (.int i186), .val (.int i191), .val (.int i199), .val (.int i204)] [(.int i186)])) t
                        refine XS.ifNo X205.here hx rfl (hb hby at_189) rfl ((if0 _ _).trans (feq hc217).1) ?_
                        show Steps p.tables e below (T205.setTop (mkF m 192 #[.val (.int p0_0), .val (.int p0_1), .val (.int p0_2), .val (.int p0_3), .val (.int p0_4), .val (.ref b86), .val (.ref b107), .val (.int i126), .val (.ref b128), .val (.ref b155), .val (.int (own_F11s)), .val (.int i181), .val (.int i186), .val (.int i191), .val (.int i199), .val (.int i204)] [])) t
                        refine XS.iload X205.here hx rfl (hb hby at_192) rfl ?_
                        show Steps p.tables e below (T205.setTop (mkF m 194 #[.val (.int p0_0), .val (.int p0_1), .val (.int p0_2), .val (.int p0_3), .val (.int p0_4), .val (.ref b86), .val (.ref b107), .val (.int i126), .val (.ref b128), .val (.ref b155), .val (.int (own_F11s)), .val (.int i181), .val (.int i186), .val (.int i191), .val (.int i199), .val (.int i204)] [(.int i191)])) t
                        exact k
                      by_cases hc221 : i191 = (0 : Int32)
                      · skip
                        refine own_by (T' := T205) (g' := (mkF m 212 #[.val (.int p0_0), .val (.int p0_1), .val (.int p0_2), .val (.int p0_3), .val (.int p0_4), .val (.ref b86), .val (.ref b107), .val (.int i126), .val (.ref b128), .val (.ref b155), .val (.int (own_F11s)), .val (.int i181), .val (.int i186), .val (.int i191), .val (.int i199), .val (.int i204)] [(.int (0 : Int32))])) (fun t k => ?_) ?_
                        · show Steps p.tables e below (T205.setTop (mkF m 194 #[.val (.int p0_0), .val (.int p0_1), .val (.int p0_2), .val (.int p0_3), .val (.int p0_4), .val (.ref b86), .val (.ref b107), .val (.int i126), .val (.ref b128), .val (.ref b155), .val (.int (own_F11s)), .val (.int i181), .val (.int i186), .val (.int i191), .val (.int i199), .val (.int i204)] [(.int i191)])) t
                          refine XS.ifYes X205.here hx rfl (pc0 := 194) (pc' := 211) rfl (hb hby at_194) rfl ((if0 _ _).trans (teq hc221).1) (by decide) (by decide) ?_
                          show Steps p.tables e below (T205.setTop (mkF m 211 #[.val (.int p0_0), .val (.int p0_1), .val (.int p0_2), .val (.int p0_3), .val (.int p0_4), .val (.ref b86), .val (.ref b107), .val (.int i126), .val (.ref b128), .val (.ref b155), .val (.int (own_F11s)), .val (.int i181), .val (.int i186), .val (.int i191), .val (.int i199), .val (.int i204)] [])) t
                          refine XS.iconst X205.here hx rfl (hb hby at_211) ?_
                          show Steps p.tables e below (T205.setTop (mkF m 212 #[.val (.int p0_0), .val (.int p0_1), .val (.int p0_2), .val (.int p0_3), .val (.int p0_4), .val (.ref b86), .val (.ref b107), .val (.int i126), .val (.ref b128), .val (.ref b155), .val (.int (own_F11s)), .val (.int i181), .val (.int i186), .val (.int i191), .val (.int i199), .val (.int i204)] [(.int (0 : Int32))])) t
                          exact k
                        rw [show own_F0_175_7 p0_0 p0_1 p0_2 p0_3 p0_4 i126 i181 i186 i191 i196 i199 i204 = (0 : Int32) from ((if_neg hc206).trans ((if_neg hc212).trans ((if_neg hc217).trans ((if_pos hc221).trans rfl))))]
                        exact own_retN X205 hx (t := .boolean) Bd.returns (by simp) (hb hby at_212) hlk (by decide) (by decide) ⟨rfl, N205⟩
                      · skip
                        refine own_by (T' := T205) (g' := (mkF m 199 #[.val (.int p0_0), .val (.int p0_1), .val (.int p0_2), .val (.int p0_3), .val (.int p0_4), .val (.ref b86), .val (.ref b107), .val (.int i126), .val (.ref b128), .val (.ref b155), .val (.int (own_F11s)), .val (.int i181), .val (.int i186), .val (.int i191), .val (.int i199), .val (.int i204)] [(.int i199)])) (fun t k => ?_) ?_
                        · show Steps p.tables e below (T205.setTop (mkF m 194 #[.val (.int p0_0), .val (.int p0_1), .val (.int p0_2), .val (.int p0_3), .val (.int p0_4), .val (.ref b86), .val (.ref b107), .val (.int i126), .val (.ref b128), .val (.ref b155), .val (.int (own_F11s)), .val (.int i181), .val (.int i186), .val (.int i191), .val (.int i199), .val (.int i204)] [(.int i191)])) t
                          refine XS.ifNo X205.here hx rfl (hb hby at_194) rfl ((if0 _ _).trans (feq hc221).1) ?_
                          show Steps p.tables e below (T205.setTop (mkF m 197 #[.val (.int p0_0), .val (.int p0_1), .val (.int p0_2), .val (.int p0_3), .val (.int p0_4), .val (.ref b86), .val (.ref b107), .val (.int i126), .val (.ref b128), .val (.ref b155), .val (.int (own_F11s)), .val (.int i181), .val (.int i186), .val (.int i191), .val (.int i199), .val (.int i204)] [])) t
                          refine XS.iload X205.here hx rfl (hb hby at_197) rfl ?_
                          show Steps p.tables e below (T205.setTop (mkF m 199 #[.val (.int p0_0), .val (.int p0_1), .val (.int p0_2), .val (.int p0_3), .val (.int p0_4), .val (.ref b86), .val (.ref b107), .val (.int i126), .val (.ref b128), .val (.ref b155), .val (.int (own_F11s)), .val (.int i181), .val (.int i186), .val (.int i191), .val (.int i199), .val (.int i204)] [(.int i199)])) t
                          exact k
                        by_cases hc224 : i199 = (0 : Int32)
                        · skip
                          refine own_by (T' := T205) (g' := (mkF m 212 #[.val (.int p0_0), .val (.int p0_1), .val (.int p0_2), .val (.int p0_3), .val (.int p0_4), .val (.ref b86), .val (.ref b107), .val (.int i126), .val (.ref b128), .val (.ref b155), .val (.int (own_F11s)), .val (.int i181), .val (.int i186), .val (.int i191), .val (.int i199), .val (.int i204)] [(.int (0 : Int32))])) (fun t k => ?_) ?_
                          · show Steps p.tables e below (T205.setTop (mkF m 199 #[.val (.int p0_0), .val (.int p0_1), .val (.int p0_2), .val (.int p0_3), .val (.int p0_4), .val (.ref b86), .val (.ref b107), .val (.int i126), .val (.ref b128), .val (.ref b155), .val (.int (own_F11s)), .val (.int i181), .val (.int i186), .val (.int i191), .val (.int i199), .val (.int i204)] [(.int i199)])) t
                            refine XS.ifYes X205.here hx rfl (pc0 := 199) (pc' := 211) rfl (hb hby at_199) rfl ((if0 _ _).trans (teq hc224).1) (by decide) (by decide) ?_
                            show Steps p.tables e below (T205.setTop (mkF m 211 #[.val (.int p0_0), .val (.int p0_1), .val (.int p0_2), .val (.int p0_3), .val (.int p0_4), .val (.ref b86), .val (.ref b107), .val (.int i126), .val (.ref b128), .val (.ref b155), .val (.int (own_F11s)), .val (.int i181), .val (.int i186), .val (.int i191), .val (.int i199), .val (.int i204)] [])) t
                            refine XS.iconst X205.here hx rfl (hb hby at_211) ?_
                            show Steps p.tables e below (T205.setTop (mkF m 212 #[.val (.int p0_0), .val (.int p0_1), .val (.int p0_2), .val (.int p0_3), .val (.int p0_4), .val (.ref b86), .val (.ref b107), .val (.int i126), .val (.ref b128), .val (.ref b155), .val (.int (own_F11s)), .val (.int i181), .val (.int i186), .val (.int i191), .val (.int i199), .val (.int i204)] [(.int (0 : Int32))])) t
                            exact k
                          rw [show own_F0_175_7 p0_0 p0_1 p0_2 p0_3 p0_4 i126 i181 i186 i191 i196 i199 i204 = (0 : Int32) from ((if_neg hc206).trans ((if_neg hc212).trans ((if_neg hc217).trans ((if_neg hc221).trans ((if_pos hc224).trans rfl)))))]
                          exact own_retN X205 hx (t := .boolean) Bd.returns (by simp) (hb hby at_212) hlk (by decide) (by decide) ⟨rfl, N205⟩
                        · skip
                          refine own_by (T' := T205) (g' := (mkF m 204 #[.val (.int p0_0), .val (.int p0_1), .val (.int p0_2), .val (.int p0_3), .val (.int p0_4), .val (.ref b86), .val (.ref b107), .val (.int i126), .val (.ref b128), .val (.ref b155), .val (.int (own_F11s)), .val (.int i181), .val (.int i186), .val (.int i191), .val (.int i199), .val (.int i204)] [(.int i204)])) (fun t k => ?_) ?_
                          · show Steps p.tables e below (T205.setTop (mkF m 199 #[.val (.int p0_0), .val (.int p0_1), .val (.int p0_2), .val (.int p0_3), .val (.int p0_4), .val (.ref b86), .val (.ref b107), .val (.int i126), .val (.ref b128), .val (.ref b155), .val (.int (own_F11s)), .val (.int i181), .val (.int i186), .val (.int i191), .val (.int i199), .val (.int i204)] [(.int i199)])) t
                            refine XS.ifNo X205.here hx rfl (hb hby at_199) rfl ((if0 _ _).trans (feq hc224).1) ?_
                            show Steps p.tables e below (T205.setTop (mkF m 202 #[.val (.int p0_0), .val (.int p0_1), .val (.int p0_2), .val (.int p0_3), .val (.int p0_4), .val (.ref b86), .val (.ref b107), .val (.int i126), .val (.ref b128), .val (.ref b155), .val (.int (own_F11s)), .val (.int i181), .val (.int i186), .val (.int i191), .val (.int i199), .val (.int i204)] [])) t
                            refine XS.iload X205.here hx rfl (hb hby at_202) rfl ?_
                            show Steps p.tables e below (T205.setTop (mkF m 204 #[.val (.int p0_0), .val (.int p0_1), .val (.int p0_2), .val (.int p0_3), .val (.int p0_4), .val (.ref b86), .val (.ref b107), .val (.int i126), .val (.ref b128), .val (.ref b155), .val (.int (own_F11s)), .val (.int i181), .val (.int i186), .val (.int i191), .val (.int i199), .val (.int i204)] [(.int i204)])) t
                            exact k
                          by_cases hc226 : i204 = (0 : Int32)
                          · skip
                            refine own_by (T' := T205) (g' := (mkF m 212 #[.val (.int p0_0), .val (.int p0_1), .val (.int p0_2), .val (.int p0_3), .val (.int p0_4), .val (.ref b86), .val (.ref b107), .val (.int i126), .val (.ref b128), .val (.ref b155), .val (.int (own_F11s)), .val (.int i181), .val (.int i186), .val (.int i191), .val (.int i199), .val (.int i204)] [(.int (0 : Int32))])) (fun t k => ?_) ?_
                            · show Steps p.tables e below (T205.setTop (mkF m 204 #[.val (.int p0_0), .val (.int p0_1), .val (.int p0_2), .val (.int p0_3), .val (.int p0_4), .val (.ref b86), .val (.ref b107), .val (.int i126), .val (.ref b128), .val (.ref b155), .val (.int (own_F11s)), .val (.int i181), .val (.int i186), .val (.int i191), .val (.int i199), .val (.int i204)] [(.int i204)])) t
                              refine XS.ifYes X205.here hx rfl (pc0 := 204) (pc' := 211) rfl (hb hby at_204) rfl ((if0 _ _).trans (teq hc226).1) (by decide) (by decide) ?_
                              show Steps p.tables e below (T205.setTop (mkF m 211 #[.val (.int p0_0), .val (.int p0_1), .val (.int p0_2), .val (.int p0_3), .val (.int p0_4), .val (.ref b86), .val (.ref b107), .val (.int i126), .val (.ref b128), .val (.ref b155), .val (.int (own_F11s)), .val (.int i181), .val (.int i186), .val (.int i191), .val (.int i199), .val (.int i204)] [])) t
                              refine XS.iconst X205.here hx rfl (hb hby at_211) ?_
                              show Steps p.tables e below (T205.setTop (mkF m 212 #[.val (.int p0_0), .val (.int p0_1), .val (.int p0_2), .val (.int p0_3), .val (.int p0_4), .val (.ref b86), .val (.ref b107), .val (.int i126), .val (.ref b128), .val (.ref b155), .val (.int (own_F11s)), .val (.int i181), .val (.int i186), .val (.int i191), .val (.int i199), .val (.int i204)] [(.int (0 : Int32))])) t
                              exact k
                            rw [show own_F0_175_7 p0_0 p0_1 p0_2 p0_3 p0_4 i126 i181 i186 i191 i196 i199 i204 = (0 : Int32) from ((if_neg hc206).trans ((if_neg hc212).trans ((if_neg hc217).trans ((if_neg hc221).trans ((if_neg hc224).trans ((if_pos hc226).trans rfl))))))]
                            exact own_retN X205 hx (t := .boolean) Bd.returns (by simp) (hb hby at_212) hlk (by decide) (by decide) ⟨rfl, N205⟩
                          · skip
                            refine own_by (T' := T205) (g' := (mkF m 212 #[.val (.int p0_0), .val (.int p0_1), .val (.int p0_2), .val (.int p0_3), .val (.int p0_4), .val (.ref b86), .val (.ref b107), .val (.int i126), .val (.ref b128), .val (.ref b155), .val (.int (own_F11s)), .val (.int i181), .val (.int i186), .val (.int i191), .val (.int i199), .val (.int i204)] [(.int (1 : Int32))])) (fun t k => ?_) ?_
                            · show Steps p.tables e below (T205.setTop (mkF m 204 #[.val (.int p0_0), .val (.int p0_1), .val (.int p0_2), .val (.int p0_3), .val (.int p0_4), .val (.ref b86), .val (.ref b107), .val (.int i126), .val (.ref b128), .val (.ref b155), .val (.int (own_F11s)), .val (.int i181), .val (.int i186), .val (.int i191), .val (.int i199), .val (.int i204)] [(.int i204)])) t
                              refine XS.ifNo X205.here hx rfl (hb hby at_204) rfl ((if0 _ _).trans (feq hc226).1) ?_
                              show Steps p.tables e below (T205.setTop (mkF m 207 #[.val (.int p0_0), .val (.int p0_1), .val (.int p0_2), .val (.int p0_3), .val (.int p0_4), .val (.ref b86), .val (.ref b107), .val (.int i126), .val (.ref b128), .val (.ref b155), .val (.int (own_F11s)), .val (.int i181), .val (.int i186), .val (.int i191), .val (.int i199), .val (.int i204)] [])) t
                              refine XS.iconst X205.here hx rfl (hb hby at_207) ?_
                              show Steps p.tables e below (T205.setTop (mkF m 208 #[.val (.int p0_0), .val (.int p0_1), .val (.int p0_2), .val (.int p0_3), .val (.int p0_4), .val (.ref b86), .val (.ref b107), .val (.int i126), .val (.ref b128), .val (.ref b155), .val (.int (own_F11s)), .val (.int i181), .val (.int i186), .val (.int i191), .val (.int i199), .val (.int i204)] [(.int (1 : Int32))])) t
                              refine XS.goto X205.here hx rfl (pc0 := 208) (pc' := 212) rfl (hb hby at_208) (by decide) (by decide) ?_
                              show Steps p.tables e below (T205.setTop (mkF m 212 #[.val (.int p0_0), .val (.int p0_1), .val (.int p0_2), .val (.int p0_3), .val (.int p0_4), .val (.ref b86), .val (.ref b107), .val (.int i126), .val (.ref b128), .val (.ref b155), .val (.int (own_F11s)), .val (.int i181), .val (.int i186), .val (.int i191), .val (.int i199), .val (.int i204)] [(.int (1 : Int32))])) t
                              exact k
                            rw [show own_F0_175_7 p0_0 p0_1 p0_2 p0_3 p0_4 i126 i181 i186 i191 i196 i199 i204 = (1 : Int32) from ((if_neg hc206).trans ((if_neg hc212).trans ((if_neg hc217).trans ((if_neg hc221).trans ((if_neg hc224).trans ((if_neg hc226).trans rfl))))))]
                            exact own_retN X205 hx (t := .boolean) Bd.returns (by simp) (hb hby at_212) hlk (by decide) (by decide) ⟨rfl, N205⟩
              by_cases hc203 : (own_F13 p0_3) = p0_3
              · skip
                refine own_by (T' := T201) (g' := (mkF m 175 #[.val (.int p0_0), .val (.int p0_1), .val (.int p0_2), .val (.int p0_3), .val (.int p0_4), .val (.ref b86), .val (.ref b107), .val (.int i126), .val (.ref b128), .val (.ref b155), .val (.int (own_F11s)), .val (.int i181), .val (.int i186), .val (.int i191), .val (.int i199), .unset] [(.int (1 : Int32))])) (fun t k => ?_) ?_
                · show Steps p.tables e below (T201.setTop (mkF m 167 #[.val (.int p0_0), .val (.int p0_1), .val (.int p0_2), .val (.int p0_3), .val (.int p0_4), .val (.ref b86), .val (.ref b107), .val (.int i126), .val (.ref b128), .val (.ref b155), .val (.int (own_F11s)), .val (.int i181), .val (.int i186), .val (.int i191), .val (.int i199), .unset] [(.int p0_3), (.int (own_F13 p0_3))])) t
                  refine XS.icmpNo X201.here hx rfl (hb hby at_167) rfl (teq hc203).2 ?_
                  show Steps p.tables e below (T201.setTop (mkF m 170 #[.val (.int p0_0), .val (.int p0_1), .val (.int p0_2), .val (.int p0_3), .val (.int p0_4), .val (.ref b86), .val (.ref b107), .val (.int i126), .val (.ref b128), .val (.ref b155), .val (.int (own_F11s)), .val (.int i181), .val (.int i186), .val (.int i191), .val (.int i199), .unset] [])) t
                  refine XS.iconst X201.here hx rfl (hb hby at_170) ?_
                  show Steps p.tables e below (T201.setTop (mkF m 171 #[.val (.int p0_0), .val (.int p0_1), .val (.int p0_2), .val (.int p0_3), .val (.int p0_4), .val (.ref b86), .val (.ref b107), .val (.int i126), .val (.ref b128), .val (.ref b155), .val (.int (own_F11s)), .val (.int i181), .val (.int i186), .val (.int i191), .val (.int i199), .unset] [(.int (1 : Int32))])) t
                  refine XS.goto X201.here hx rfl (pc0 := 171) (pc' := 175) rfl (hb hby at_171) (by decide) (by decide) ?_
                  show Steps p.tables e below (T201.setTop (mkF m 175 #[.val (.int p0_0), .val (.int p0_1), .val (.int p0_2), .val (.int p0_3), .val (.int p0_4), .val (.ref b86), .val (.ref b107), .val (.int i126), .val (.ref b128), .val (.ref b155), .val (.int (own_F11s)), .val (.int i181), .val (.int i186), .val (.int i191), .val (.int i199), .unset] [(.int (1 : Int32))])) t
                  exact k
                rw [show own_F0_159_6 p0_0 p0_1 p0_2 p0_3 p0_4 i126 i181 i186 i191 i196 i199 = (own_F0_175_7 p0_0 p0_1 p0_2 p0_3 p0_4 i126 i181 i186 i191 i196 i199 (1 : Int32)) from ((if_pos hc203).trans rfl)]
                exact J0_7 _ _ (1 : Int32) X201 e201 N202
              · skip
                refine own_by (T' := T201) (g' := (mkF m 175 #[.val (.int p0_0), .val (.int p0_1), .val (.int p0_2), .val (.int p0_3), .val (.int p0_4), .val (.ref b86), .val (.ref b107), .val (.int i126), .val (.ref b128), .val (.ref b155), .val (.int (own_F11s)), .val (.int i181), .val (.int i186), .val (.int i191), .val (.int i199), .unset] [(.int (0 : Int32))])) (fun t k => ?_) ?_
                · show Steps p.tables e below (T201.setTop (mkF m 167 #[.val (.int p0_0), .val (.int p0_1), .val (.int p0_2), .val (.int p0_3), .val (.int p0_4), .val (.ref b86), .val (.ref b107), .val (.int i126), .val (.ref b128), .val (.ref b155), .val (.int (own_F11s)), .val (.int i181), .val (.int i186), .val (.int i191), .val (.int i199), .unset] [(.int p0_3), (.int (own_F13 p0_3))])) t
                  refine XS.icmpYes X201.here hx rfl (pc0 := 167) (pc' := 174) rfl (hb hby at_167) rfl (feq hc203).2 (by decide) (by decide) ?_
                  show Steps p.tables e below (T201.setTop (mkF m 174 #[.val (.int p0_0), .val (.int p0_1), .val (.int p0_2), .val (.int p0_3), .val (.int p0_4), .val (.ref b86), .val (.ref b107), .val (.int i126), .val (.ref b128), .val (.ref b155), .val (.int (own_F11s)), .val (.int i181), .val (.int i186), .val (.int i191), .val (.int i199), .unset] [])) t
                  refine XS.iconst X201.here hx rfl (hb hby at_174) ?_
                  show Steps p.tables e below (T201.setTop (mkF m 175 #[.val (.int p0_0), .val (.int p0_1), .val (.int p0_2), .val (.int p0_3), .val (.int p0_4), .val (.ref b86), .val (.ref b107), .val (.int i126), .val (.ref b128), .val (.ref b155), .val (.int (own_F11s)), .val (.int i181), .val (.int i186), .val (.int i191), .val (.int i199), .unset] [(.int (0 : Int32))])) t
                  exact k
                rw [show own_F0_159_6 p0_0 p0_1 p0_2 p0_3 p0_4 i126 i181 i186 i191 i196 i199 = (own_F0_175_7 p0_0 p0_1 p0_2 p0_3 p0_4 i126 i181 i186 i191 i196 i199 (0 : Int32)) from ((if_neg hc203).trans rfl)]
                exact J0_7 _ _ (0 : Int32) X201 e201 N202
            by_cases hc198 : (own_F15 (p0_3 - (1 : Int32))) = i196
            · skip
              refine own_by (T' := T197) (g' := (mkF m 159 #[.val (.int p0_0), .val (.int p0_1), .val (.int p0_2), .val (.int p0_3), .val (.int p0_4), .val (.ref b86), .val (.ref b107), .val (.int i126), .val (.ref b128), .val (.ref b155), .val (.int (own_F11s)), .val (.int i181), .val (.int i186), .val (.int i191), .unset, .unset] [(.int (1 : Int32))])) (fun t k => ?_) ?_
              · show Steps p.tables e below (T197.setTop (mkF m 151 #[.val (.int p0_0), .val (.int p0_1), .val (.int p0_2), .val (.int p0_3), .val (.int p0_4), .val (.ref b86), .val (.ref b107), .val (.int i126), .val (.ref b128), .val (.ref b155), .val (.int (own_F11s)), .val (.int i181), .val (.int i186), .val (.int i191), .unset, .unset] [(.int i196), (.int (own_F15 (p0_3 - (1 : Int32))))])) t
                refine XS.icmpNo X197.here hx rfl (hb hby at_151) rfl (teq hc198).2 ?_
                show Steps p.tables e below (T197.setTop (mkF m 154 #[.val (.int p0_0), .val (.int p0_1), .val (.int p0_2), .val (.int p0_3), .val (.int p0_4), .val (.ref b86), .val (.ref b107), .val (.int i126), .val (.ref b128), .val (.ref b155), .val (.int (own_F11s)), .val (.int i181), .val (.int i186), .val (.int i191), .unset, .unset] [])) t
                refine XS.iconst X197.here hx rfl (hb hby at_154) ?_
                show Steps p.tables e below (T197.setTop (mkF m 155 #[.val (.int p0_0), .val (.int p0_1), .val (.int p0_2), .val (.int p0_3), .val (.int p0_4), .val (.ref b86), .val (.ref b107), .val (.int i126), .val (.ref b128), .val (.ref b155), .val (.int (own_F11s)), .val (.int i181), .val (.int i186), .val (.int i191), .unset, .unset] [(.int (1 : Int32))])) t
                refine XS.goto X197.here hx rfl (pc0 := 155) (pc' := 159) rfl (hb hby at_155) (by decide) (by decide) ?_
                show Steps p.tables e below (T197.setTop (mkF m 159 #[.val (.int p0_0), .val (.int p0_1), .val (.int p0_2), .val (.int p0_3), .val (.int p0_4), .val (.ref b86), .val (.ref b107), .val (.int i126), .val (.ref b128), .val (.ref b155), .val (.int (own_F11s)), .val (.int i181), .val (.int i186), .val (.int i191), .unset, .unset] [(.int (1 : Int32))])) t
                exact k
              rw [show own_F0_151_5 p0_0 p0_1 p0_2 p0_3 p0_4 i126 i181 i186 i191 i196 = (own_F0_159_6 p0_0 p0_1 p0_2 p0_3 p0_4 i126 i181 i186 i191 i196 (1 : Int32)) from ((if_pos hc198).trans rfl)]
              exact J0_6 _ _ (1 : Int32) X197 e197 N197
            · skip
              refine own_by (T' := T197) (g' := (mkF m 159 #[.val (.int p0_0), .val (.int p0_1), .val (.int p0_2), .val (.int p0_3), .val (.int p0_4), .val (.ref b86), .val (.ref b107), .val (.int i126), .val (.ref b128), .val (.ref b155), .val (.int (own_F11s)), .val (.int i181), .val (.int i186), .val (.int i191), .unset, .unset] [(.int (0 : Int32))])) (fun t k => ?_) ?_
              · show Steps p.tables e below (T197.setTop (mkF m 151 #[.val (.int p0_0), .val (.int p0_1), .val (.int p0_2), .val (.int p0_3), .val (.int p0_4), .val (.ref b86), .val (.ref b107), .val (.int i126), .val (.ref b128), .val (.ref b155), .val (.int (own_F11s)), .val (.int i181), .val (.int i186), .val (.int i191), .unset, .unset] [(.int i196), (.int (own_F15 (p0_3 - (1 : Int32))))])) t
                refine XS.icmpYes X197.here hx rfl (pc0 := 151) (pc' := 158) rfl (hb hby at_151) rfl (feq hc198).2 (by decide) (by decide) ?_
                show Steps p.tables e below (T197.setTop (mkF m 158 #[.val (.int p0_0), .val (.int p0_1), .val (.int p0_2), .val (.int p0_3), .val (.int p0_4), .val (.ref b86), .val (.ref b107), .val (.int i126), .val (.ref b128), .val (.ref b155), .val (.int (own_F11s)), .val (.int i181), .val (.int i186), .val (.int i191), .unset, .unset] [])) t
                refine XS.iconst X197.here hx rfl (hb hby at_158) ?_
                show Steps p.tables e below (T197.setTop (mkF m 159 #[.val (.int p0_0), .val (.int p0_1), .val (.int p0_2), .val (.int p0_3), .val (.int p0_4), .val (.ref b86), .val (.ref b107), .val (.int i126), .val (.ref b128), .val (.ref b155), .val (.int (own_F11s)), .val (.int i181), .val (.int i186), .val (.int i191), .unset, .unset] [(.int (0 : Int32))])) t
                exact k
              rw [show own_F0_151_5 p0_0 p0_1 p0_2 p0_3 p0_4 i126 i181 i186 i191 i196 = (own_F0_159_6 p0_0 p0_1 p0_2 p0_3 p0_4 i126 i181 i186 i191 i196 (0 : Int32)) from ((if_neg hc198).trans rfl)]
              exact J0_6 _ _ (0 : Int32) X197 e197 N197
          by_cases hc195 : p0_3 = (1 : Int32)
          · skip
            refine own_by (T' := T193) (g' := (mkF m 151 #[.val (.int p0_0), .val (.int p0_1), .val (.int p0_2), .val (.int p0_3), .val (.int p0_4), .val (.ref b86), .val (.ref b107), .val (.int i126), .val (.ref b128), .val (.ref b155), .val (.int (own_F11s)), .val (.int i181), .val (.int i186), .val (.int i191), .unset, .unset] [(.int (1 : Int32)), (.int (own_F15 (p0_3 - (1 : Int32))))])) (fun t k => ?_) ?_
            · show Steps p.tables e below (T193.setTop (mkF m 143 #[.val (.int p0_0), .val (.int p0_1), .val (.int p0_2), .val (.int p0_3), .val (.int p0_4), .val (.ref b86), .val (.ref b107), .val (.int i126), .val (.ref b128), .val (.ref b155), .val (.int (own_F11s)), .val (.int i181), .val (.int i186), .val (.int i191), .unset, .unset] [(.int (1 : Int32)), (.int p0_3), (.int (own_F15 (p0_3 - (1 : Int32))))])) t
              refine XS.icmpNo X193.here hx rfl (hb hby at_143) rfl (teq hc195).2 ?_
              show Steps p.tables e below (T193.setTop (mkF m 146 #[.val (.int p0_0), .val (.int p0_1), .val (.int p0_2), .val (.int p0_3), .val (.int p0_4), .val (.ref b86), .val (.ref b107), .val (.int i126), .val (.ref b128), .val (.ref b155), .val (.int (own_F11s)), .val (.int i181), .val (.int i186), .val (.int i191), .unset, .unset] [(.int (own_F15 (p0_3 - (1 : Int32))))])) t
              refine XS.iconst X193.here hx rfl (hb hby at_146) ?_
              show Steps p.tables e below (T193.setTop (mkF m 147 #[.val (.int p0_0), .val (.int p0_1), .val (.int p0_2), .val (.int p0_3), .val (.int p0_4), .val (.ref b86), .val (.ref b107), .val (.int i126), .val (.ref b128), .val (.ref b155), .val (.int (own_F11s)), .val (.int i181), .val (.int i186), .val (.int i191), .unset, .unset] [(.int (1 : Int32)), (.int (own_F15 (p0_3 - (1 : Int32))))])) t
              refine XS.goto X193.here hx rfl (pc0 := 147) (pc' := 151) rfl (hb hby at_147) (by decide) (by decide) ?_
              show Steps p.tables e below (T193.setTop (mkF m 151 #[.val (.int p0_0), .val (.int p0_1), .val (.int p0_2), .val (.int p0_3), .val (.int p0_4), .val (.ref b86), .val (.ref b107), .val (.int i126), .val (.ref b128), .val (.ref b155), .val (.int (own_F11s)), .val (.int i181), .val (.int i186), .val (.int i191), .unset, .unset] [(.int (1 : Int32)), (.int (own_F15 (p0_3 - (1 : Int32))))])) t
              exact k
            rw [show own_F0_134_4 p0_0 p0_1 p0_2 p0_3 p0_4 i126 i181 i186 i191 = (own_F0_151_5 p0_0 p0_1 p0_2 p0_3 p0_4 i126 i181 i186 i191 (1 : Int32)) from ((if_pos hc195).trans rfl)]
            exact J0_5 _ _ (1 : Int32) X193 e193 N194
          · skip
            refine own_by (T' := T193) (g' := (mkF m 151 #[.val (.int p0_0), .val (.int p0_1), .val (.int p0_2), .val (.int p0_3), .val (.int p0_4), .val (.ref b86), .val (.ref b107), .val (.int i126), .val (.ref b128), .val (.ref b155), .val (.int (own_F11s)), .val (.int i181), .val (.int i186), .val (.int i191), .unset, .unset] [(.int (0 : Int32)), (.int (own_F15 (p0_3 - (1 : Int32))))])) (fun t k => ?_) ?_
            · show Steps p.tables e below (T193.setTop (mkF m 143 #[.val (.int p0_0), .val (.int p0_1), .val (.int p0_2), .val (.int p0_3), .val (.int p0_4), .val (.ref b86), .val (.ref b107), .val (.int i126), .val (.ref b128), .val (.ref b155), .val (.int (own_F11s)), .val (.int i181), .val (.int i186), .val (.int i191), .unset, .unset] [(.int (1 : Int32)), (.int p0_3), (.int (own_F15 (p0_3 - (1 : Int32))))])) t
              refine XS.icmpYes X193.here hx rfl (pc0 := 143) (pc' := 150) rfl (hb hby at_143) rfl (feq hc195).2 (by decide) (by decide) ?_
              show Steps p.tables e below (T193.setTop (mkF m 150 #[.val (.int p0_0), .val (.int p0_1), .val (.int p0_2), .val (.int p0_3), .val (.int p0_4), .val (.ref b86), .val (.ref b107), .val (.int i126), .val (.ref b128), .val (.ref b155), .val (.int (own_F11s)), .val (.int i181), .val (.int i186), .val (.int i191), .unset, .unset] [(.int (own_F15 (p0_3 - (1 : Int32))))])) t
              refine XS.iconst X193.here hx rfl (hb hby at_150) ?_
              show Steps p.tables e below (T193.setTop (mkF m 151 #[.val (.int p0_0), .val (.int p0_1), .val (.int p0_2), .val (.int p0_3), .val (.int p0_4), .val (.ref b86), .val (.ref b107), .val (.int i126), .val (.ref b128), .val (.ref b155), .val (.int (own_F11s)), .val (.int i181), .val (.int i186), .val (.int i191), .unset, .unset] [(.int (0 : Int32)), (.int (own_F15 (p0_3 - (1 : Int32))))])) t
              exact k
            rw [show own_F0_134_4 p0_0 p0_1 p0_2 p0_3 p0_4 i126 i181 i186 i191 = (own_F0_151_5 p0_0 p0_1 p0_2 p0_3 p0_4 i126 i181 i186 i191 (0 : Int32)) from ((if_neg hc195).trans rfl)]
            exact J0_5 _ _ (0 : Int32) X193 e193 N194
        by_cases hc190 : (own_F14 p0_4) = p0_4
        · skip
          refine own_by (T' := T188) (g' := (mkF m 134 #[.val (.int p0_0), .val (.int p0_1), .val (.int p0_2), .val (.int p0_3), .val (.int p0_4), .val (.ref b86), .val (.ref b107), .val (.int i126), .val (.ref b128), .val (.ref b155), .val (.int (own_F11s)), .val (.int i181), .val (.int i186), .unset, .unset, .unset] [(.int (1 : Int32))])) (fun t k => ?_) ?_
          · show Steps p.tables e below (T188.setTop (mkF m 126 #[.val (.int p0_0), .val (.int p0_1), .val (.int p0_2), .val (.int p0_3), .val (.int p0_4), .val (.ref b86), .val (.ref b107), .val (.int i126), .val (.ref b128), .val (.ref b155), .val (.int (own_F11s)), .val (.int i181), .val (.int i186), .unset, .unset, .unset] [(.int p0_4), (.int (own_F14 p0_4))])) t
            refine XS.icmpNo X188.here hx rfl (hb hby at_126) rfl (teq hc190).2 ?_
            show Steps p.tables e below (T188.setTop (mkF m 129 #[.val (.int p0_0), .val (.int p0_1), .val (.int p0_2), .val (.int p0_3), .val (.int p0_4), .val (.ref b86), .val (.ref b107), .val (.int i126), .val (.ref b128), .val (.ref b155), .val (.int (own_F11s)), .val (.int i181), .val (.int i186), .unset, .unset, .unset] [])) t
            refine XS.iconst X188.here hx rfl (hb hby at_129) ?_
            show Steps p.tables e below (T188.setTop (mkF m 130 #[.val (.int p0_0), .val (.int p0_1), .val (.int p0_2), .val (.int p0_3), .val (.int p0_4), .val (.ref b86), .val (.ref b107), .val (.int i126), .val (.ref b128), .val (.ref b155), .val (.int (own_F11s)), .val (.int i181), .val (.int i186), .unset, .unset, .unset] [(.int (1 : Int32))])) t
            refine XS.goto X188.here hx rfl (pc0 := 130) (pc' := 134) rfl (hb hby at_130) (by decide) (by decide) ?_
            show Steps p.tables e below (T188.setTop (mkF m 134 #[.val (.int p0_0), .val (.int p0_1), .val (.int p0_2), .val (.int p0_3), .val (.int p0_4), .val (.ref b86), .val (.ref b107), .val (.int i126), .val (.ref b128), .val (.ref b155), .val (.int (own_F11s)), .val (.int i181), .val (.int i186), .unset, .unset, .unset] [(.int (1 : Int32))])) t
            exact k
          rw [show own_F0_117_3 p0_0 p0_1 p0_2 p0_3 p0_4 i126 i181 i186 = (own_F0_134_4 p0_0 p0_1 p0_2 p0_3 p0_4 i126 i181 i186 (1 : Int32)) from ((if_pos hc190).trans rfl)]
          exact J0_4 _ _ (1 : Int32) X188 e188 N189
        · skip
          refine own_by (T' := T188) (g' := (mkF m 134 #[.val (.int p0_0), .val (.int p0_1), .val (.int p0_2), .val (.int p0_3), .val (.int p0_4), .val (.ref b86), .val (.ref b107), .val (.int i126), .val (.ref b128), .val (.ref b155), .val (.int (own_F11s)), .val (.int i181), .val (.int i186), .unset, .unset, .unset] [(.int (0 : Int32))])) (fun t k => ?_) ?_
          · show Steps p.tables e below (T188.setTop (mkF m 126 #[.val (.int p0_0), .val (.int p0_1), .val (.int p0_2), .val (.int p0_3), .val (.int p0_4), .val (.ref b86), .val (.ref b107), .val (.int i126), .val (.ref b128), .val (.ref b155), .val (.int (own_F11s)), .val (.int i181), .val (.int i186), .unset, .unset, .unset] [(.int p0_4), (.int (own_F14 p0_4))])) t
            refine XS.icmpYes X188.here hx rfl (pc0 := 126) (pc' := 133) rfl (hb hby at_126) rfl (feq hc190).2 (by decide) (by decide) ?_
            show Steps p.tables e below (T188.setTop (mkF m 133 #[.val (.int p0_0), .val (.int p0_1), .val (.int p0_2), .val (.int p0_3), .val (.int p0_4), .val (.ref b86), .val (.ref b107), .val (.int i126), .val (.ref b128), .val (.ref b155), .val (.int (own_F11s)), .val (.int i181), .val (.int i186), .unset, .unset, .unset] [])) t
            refine XS.iconst X188.here hx rfl (hb hby at_133) ?_
            show Steps p.tables e below (T188.setTop (mkF m 134 #[.val (.int p0_0), .val (.int p0_1), .val (.int p0_2), .val (.int p0_3), .val (.int p0_4), .val (.ref b86), .val (.ref b107), .val (.int i126), .val (.ref b128), .val (.ref b155), .val (.int (own_F11s)), .val (.int i181), .val (.int i186), .unset, .unset, .unset] [(.int (0 : Int32))])) t
            exact k
          rw [show own_F0_117_3 p0_0 p0_1 p0_2 p0_3 p0_4 i126 i181 i186 = (own_F0_134_4 p0_0 p0_1 p0_2 p0_3 p0_4 i126 i181 i186 (0 : Int32)) from ((if_neg hc190).trans rfl)]
          exact J0_4 _ _ (0 : Int32) X188 e188 N189
      by_cases hc185 : (own_F13 (p0_3 - (1 : Int32))) = (p0_3 - (1 : Int32))
      · skip
        refine own_by (T' := T183) (g' := (mkF m 117 #[.val (.int p0_0), .val (.int p0_1), .val (.int p0_2), .val (.int p0_3), .val (.int p0_4), .val (.ref b86), .val (.ref b107), .val (.int i126), .val (.ref b128), .val (.ref b155), .val (.int (own_F11s)), .val (.int i181), .unset, .unset, .unset, .unset] [(.int (1 : Int32))])) (fun t k => ?_) ?_
        · show Steps p.tables e below (T183.setTop (mkF m 109 #[.val (.int p0_0), .val (.int p0_1), .val (.int p0_2), .val (.int p0_3), .val (.int p0_4), .val (.ref b86), .val (.ref b107), .val (.int i126), .val (.ref b128), .val (.ref b155), .val (.int (own_F11s)), .val (.int i181), .unset, .unset, .unset, .unset] [(.int (p0_3 - (1 : Int32))), (.int (own_F13 (p0_3 - (1 : Int32))))])) t
          refine XS.icmpNo X183.here hx rfl (hb hby at_109) rfl (teq hc185).2 ?_
          show Steps p.tables e below (T183.setTop (mkF m 112 #[.val (.int p0_0), .val (.int p0_1), .val (.int p0_2), .val (.int p0_3), .val (.int p0_4), .val (.ref b86), .val (.ref b107), .val (.int i126), .val (.ref b128), .val (.ref b155), .val (.int (own_F11s)), .val (.int i181), .unset, .unset, .unset, .unset] [])) t
          refine XS.iconst X183.here hx rfl (hb hby at_112) ?_
          show Steps p.tables e below (T183.setTop (mkF m 113 #[.val (.int p0_0), .val (.int p0_1), .val (.int p0_2), .val (.int p0_3), .val (.int p0_4), .val (.ref b86), .val (.ref b107), .val (.int i126), .val (.ref b128), .val (.ref b155), .val (.int (own_F11s)), .val (.int i181), .unset, .unset, .unset, .unset] [(.int (1 : Int32))])) t
          refine XS.goto X183.here hx rfl (pc0 := 113) (pc' := 117) rfl (hb hby at_113) (by decide) (by decide) ?_
          show Steps p.tables e below (T183.setTop (mkF m 117 #[.val (.int p0_0), .val (.int p0_1), .val (.int p0_2), .val (.int p0_3), .val (.int p0_4), .val (.ref b86), .val (.ref b107), .val (.int i126), .val (.ref b128), .val (.ref b155), .val (.int (own_F11s)), .val (.int i181), .unset, .unset, .unset, .unset] [(.int (1 : Int32))])) t
          exact k
        rw [show own_F0_99_2 p0_0 p0_1 p0_2 p0_3 p0_4 i126 i181 = (own_F0_117_3 p0_0 p0_1 p0_2 p0_3 p0_4 i126 i181 (1 : Int32)) from ((if_pos hc185).trans rfl)]
        exact J0_3 _ _ (1 : Int32) X183 e183 N184
      · skip
        refine own_by (T' := T183) (g' := (mkF m 117 #[.val (.int p0_0), .val (.int p0_1), .val (.int p0_2), .val (.int p0_3), .val (.int p0_4), .val (.ref b86), .val (.ref b107), .val (.int i126), .val (.ref b128), .val (.ref b155), .val (.int (own_F11s)), .val (.int i181), .unset, .unset, .unset, .unset] [(.int (0 : Int32))])) (fun t k => ?_) ?_
        · show Steps p.tables e below (T183.setTop (mkF m 109 #[.val (.int p0_0), .val (.int p0_1), .val (.int p0_2), .val (.int p0_3), .val (.int p0_4), .val (.ref b86), .val (.ref b107), .val (.int i126), .val (.ref b128), .val (.ref b155), .val (.int (own_F11s)), .val (.int i181), .unset, .unset, .unset, .unset] [(.int (p0_3 - (1 : Int32))), (.int (own_F13 (p0_3 - (1 : Int32))))])) t
          refine XS.icmpYes X183.here hx rfl (pc0 := 109) (pc' := 116) rfl (hb hby at_109) rfl (feq hc185).2 (by decide) (by decide) ?_
          show Steps p.tables e below (T183.setTop (mkF m 116 #[.val (.int p0_0), .val (.int p0_1), .val (.int p0_2), .val (.int p0_3), .val (.int p0_4), .val (.ref b86), .val (.ref b107), .val (.int i126), .val (.ref b128), .val (.ref b155), .val (.int (own_F11s)), .val (.int i181), .unset, .unset, .unset, .unset] [])) t
          refine XS.iconst X183.here hx rfl (hb hby at_116) ?_
          show Steps p.tables e below (T183.setTop (mkF m 117 #[.val (.int p0_0), .val (.int p0_1), .val (.int p0_2), .val (.int p0_3), .val (.int p0_4), .val (.ref b86), .val (.ref b107), .val (.int i126), .val (.ref b128), .val (.ref b155), .val (.int (own_F11s)), .val (.int i181), .unset, .unset, .unset, .unset] [(.int (0 : Int32))])) t
          exact k
        rw [show own_F0_99_2 p0_0 p0_1 p0_2 p0_3 p0_4 i126 i181 = (own_F0_117_3 p0_0 p0_1 p0_2 p0_3 p0_4 i126 i181 (0 : Int32)) from ((if_neg hc185).trans rfl)]
        exact J0_3 _ _ (0 : Int32) X183 e183 N184
    by_cases hc180 : (own_F12 (nar .boolean (nar .boolean i126))) = i126
    · skip
      refine own_by (T' := T178) (g' := (mkF m 99 #[.val (.int p0_0), .val (.int p0_1), .val (.int p0_2), .val (.int p0_3), .val (.int p0_4), .val (.ref b86), .val (.ref b107), .val (.int i126), .val (.ref b128), .val (.ref b155), .val (.int (own_F11s)), .unset, .unset, .unset, .unset, .unset] [(.int (1 : Int32))])) (fun t k => ?_) ?_
      · show Steps p.tables e below (T178.setTop (mkF m 91 #[.val (.int p0_0), .val (.int p0_1), .val (.int p0_2), .val (.int p0_3), .val (.int p0_4), .val (.ref b86), .val (.ref b107), .val (.int i126), .val (.ref b128), .val (.ref b155), .val (.int (own_F11s)), .unset, .unset, .unset, .unset, .unset] [(.int i126), (.int (own_F12 (nar .boolean (nar .boolean i126))))])) t
        refine XS.icmpNo X178.here hx rfl (hb hby at_91) rfl (teq hc180).2 ?_
        show Steps p.tables e below (T178.setTop (mkF m 94 #[.val (.int p0_0), .val (.int p0_1), .val (.int p0_2), .val (.int p0_3), .val (.int p0_4), .val (.ref b86), .val (.ref b107), .val (.int i126), .val (.ref b128), .val (.ref b155), .val (.int (own_F11s)), .unset, .unset, .unset, .unset, .unset] [])) t
        refine XS.iconst X178.here hx rfl (hb hby at_94) ?_
        show Steps p.tables e below (T178.setTop (mkF m 95 #[.val (.int p0_0), .val (.int p0_1), .val (.int p0_2), .val (.int p0_3), .val (.int p0_4), .val (.ref b86), .val (.ref b107), .val (.int i126), .val (.ref b128), .val (.ref b155), .val (.int (own_F11s)), .unset, .unset, .unset, .unset, .unset] [(.int (1 : Int32))])) t
        refine XS.goto X178.here hx rfl (pc0 := 95) (pc' := 99) rfl (hb hby at_95) (by decide) (by decide) ?_
        show Steps p.tables e below (T178.setTop (mkF m 99 #[.val (.int p0_0), .val (.int p0_1), .val (.int p0_2), .val (.int p0_3), .val (.int p0_4), .val (.ref b86), .val (.ref b107), .val (.int i126), .val (.ref b128), .val (.ref b155), .val (.int (own_F11s)), .unset, .unset, .unset, .unset, .unset] [(.int (1 : Int32))])) t
        exact k
      rw [show own_F0_47_1 p0_0 p0_1 p0_2 p0_3 p0_4 i126 = (own_F0_99_2 p0_0 p0_1 p0_2 p0_3 p0_4 i126 (1 : Int32)) from ((if_pos hc180).trans rfl)]
      exact J0_2 _ _ (1 : Int32) X178 e178 N179
    · skip
      refine own_by (T' := T178) (g' := (mkF m 99 #[.val (.int p0_0), .val (.int p0_1), .val (.int p0_2), .val (.int p0_3), .val (.int p0_4), .val (.ref b86), .val (.ref b107), .val (.int i126), .val (.ref b128), .val (.ref b155), .val (.int (own_F11s)), .unset, .unset, .unset, .unset, .unset] [(.int (0 : Int32))])) (fun t k => ?_) ?_
      · show Steps p.tables e below (T178.setTop (mkF m 91 #[.val (.int p0_0), .val (.int p0_1), .val (.int p0_2), .val (.int p0_3), .val (.int p0_4), .val (.ref b86), .val (.ref b107), .val (.int i126), .val (.ref b128), .val (.ref b155), .val (.int (own_F11s)), .unset, .unset, .unset, .unset, .unset] [(.int i126), (.int (own_F12 (nar .boolean (nar .boolean i126))))])) t
        refine XS.icmpYes X178.here hx rfl (pc0 := 91) (pc' := 98) rfl (hb hby at_91) rfl (feq hc180).2 (by decide) (by decide) ?_
        show Steps p.tables e below (T178.setTop (mkF m 98 #[.val (.int p0_0), .val (.int p0_1), .val (.int p0_2), .val (.int p0_3), .val (.int p0_4), .val (.ref b86), .val (.ref b107), .val (.int i126), .val (.ref b128), .val (.ref b155), .val (.int (own_F11s)), .unset, .unset, .unset, .unset, .unset] [])) t
        refine XS.iconst X178.here hx rfl (hb hby at_98) ?_
        show Steps p.tables e below (T178.setTop (mkF m 99 #[.val (.int p0_0), .val (.int p0_1), .val (.int p0_2), .val (.int p0_3), .val (.int p0_4), .val (.ref b86), .val (.ref b107), .val (.int i126), .val (.ref b128), .val (.ref b155), .val (.int (own_F11s)), .unset, .unset, .unset, .unset, .unset] [(.int (0 : Int32))])) t
        exact k
      rw [show own_F0_47_1 p0_0 p0_1 p0_2 p0_3 p0_4 i126 = (own_F0_99_2 p0_0 p0_1 p0_2 p0_3 p0_4 i126 (0 : Int32)) from ((if_neg hc180).trans rfl)]
      exact J0_2 _ _ (0 : Int32) X178 e178 N179
  by_cases hc125 : (p0_2 &&& (1 : Int32)) = (0 : Int32)
  · skip
    refine own_by (T' := T114) (g' := (mkF m 47 #[.val (.int p0_0), .val (.int p0_1), .val (.int p0_2), .val (.int p0_3), .val (.int p0_4), .val (.ref b86), .val (.ref b107), .unset, .unset, .unset, .unset, .unset, .unset, .unset, .unset, .unset] [(.int (0 : Int32))])) (fun t k => ?_) ?_
    · show Steps p.tables e below (T114.setTop (mkF m 39 #[.val (.int p0_0), .val (.int p0_1), .val (.int p0_2), .val (.int p0_3), .val (.int p0_4), .val (.ref b86), .val (.ref b107), .unset, .unset, .unset, .unset, .unset, .unset, .unset, .unset, .unset] [(.int (p0_2 &&& (1 : Int32)))])) t
      refine XS.ifYes X114.here hx rfl (pc0 := 39) (pc' := 46) rfl (hb hby at_39) rfl ((if0 _ _).trans (teq hc125).1) (by decide) (by decide) ?_
      show Steps p.tables e below (T114.setTop (mkF m 46 #[.val (.int p0_0), .val (.int p0_1), .val (.int p0_2), .val (.int p0_3), .val (.int p0_4), .val (.ref b86), .val (.ref b107), .unset, .unset, .unset, .unset, .unset, .unset, .unset, .unset, .unset] [])) t
      refine XS.iconst X114.here hx rfl (hb hby at_46) ?_
      show Steps p.tables e below (T114.setTop (mkF m 47 #[.val (.int p0_0), .val (.int p0_1), .val (.int p0_2), .val (.int p0_3), .val (.int p0_4), .val (.ref b86), .val (.ref b107), .unset, .unset, .unset, .unset, .unset, .unset, .unset, .unset, .unset] [(.int (0 : Int32))])) t
      exact k
    rw [show own_F0 p0_0 p0_1 p0_2 p0_3 p0_4 = (own_F0_47_1 p0_0 p0_1 p0_2 p0_3 p0_4 (0 : Int32)) from ((if_pos hc125).trans rfl)]
    exact J0_1 _ _ (0 : Int32) X114 rfl N124
  · skip
    refine own_by (T' := T114) (g' := (mkF m 47 #[.val (.int p0_0), .val (.int p0_1), .val (.int p0_2), .val (.int p0_3), .val (.int p0_4), .val (.ref b86), .val (.ref b107), .unset, .unset, .unset, .unset, .unset, .unset, .unset, .unset, .unset] [(.int (1 : Int32))])) (fun t k => ?_) ?_
    · show Steps p.tables e below (T114.setTop (mkF m 39 #[.val (.int p0_0), .val (.int p0_1), .val (.int p0_2), .val (.int p0_3), .val (.int p0_4), .val (.ref b86), .val (.ref b107), .unset, .unset, .unset, .unset, .unset, .unset, .unset, .unset, .unset] [(.int (p0_2 &&& (1 : Int32)))])) t
      refine XS.ifNo X114.here hx rfl (hb hby at_39) rfl ((if0 _ _).trans (feq hc125).1) ?_
      show Steps p.tables e below (T114.setTop (mkF m 42 #[.val (.int p0_0), .val (.int p0_1), .val (.int p0_2), .val (.int p0_3), .val (.int p0_4), .val (.ref b86), .val (.ref b107), .unset, .unset, .unset, .unset, .unset, .unset, .unset, .unset, .unset] [])) t
      refine XS.iconst X114.here hx rfl (hb hby at_42) ?_
      show Steps p.tables e below (T114.setTop (mkF m 43 #[.val (.int p0_0), .val (.int p0_1), .val (.int p0_2), .val (.int p0_3), .val (.int p0_4), .val (.ref b86), .val (.ref b107), .unset, .unset, .unset, .unset, .unset, .unset, .unset, .unset, .unset] [(.int (1 : Int32))])) t
      refine XS.goto X114.here hx rfl (pc0 := 43) (pc' := 47) rfl (hb hby at_43) (by decide) (by decide) ?_
      show Steps p.tables e below (T114.setTop (mkF m 47 #[.val (.int p0_0), .val (.int p0_1), .val (.int p0_2), .val (.int p0_3), .val (.int p0_4), .val (.ref b86), .val (.ref b107), .unset, .unset, .unset, .unset, .unset, .unset, .unset, .unset, .unset] [(.int (1 : Int32))])) t
      exact k
    rw [show own_F0 p0_0 p0_1 p0_2 p0_3 p0_4 = (own_F0_47_1 p0_0 p0_1 p0_2 p0_3 p0_4 (1 : Int32)) from ((if_neg hc125).trans rfl)]
    exact J0_1 _ _ (1 : Int32) X114 rfl N124
theorem own_law (a b c d e : Int32) : own_F0 a b c d e = 1 := by
  have k : ∀ i : Int32, (i = 0 ∨ i = 1) → own_F0_47_1 a b c d e i = 1 := by
    intro i hi
    have h1 : own_F12 (nar .boolean (nar .boolean i)) = i := by rcases hi with rfl | rfl <;> decide
    have h2 : own_F13 (d - 1) = d - 1 := rfl
    have h3 : own_F14 e = e := rfl
    have h4 : own_F13 d = d := rfl
    have h5 : ∀ x : Int32, own_F0_151_5 a b c d e x 1 1 1 (own_F15 (d - 1)) = 1 := by
      intro x
      unfold own_F0_151_5 own_F0_159_6 own_F0_175_7 own_F11s
      rw [if_pos rfl, if_pos h4]
      decide
    unfold own_F0_47_1 own_F0_99_2 own_F0_117_3 own_F0_134_4
    rw [if_pos h1, if_pos h2, if_pos h3]
    by_cases q : d = 1
    · have := h5 i
      rw [show own_F15 (d - 1) = 1 from by rw [q]; decide] at this
      rw [if_pos q]; exact this
    · have := h5 i
      have q' : ¬ d - 1 = 0 := by
        intro w
        apply q
        have : d - 1 + 1 = 0 + 1 := by rw [w]
        rwa [Int32.sub_add_cancel, Int32.zero_add] at this
      rw [show own_F15 (d - 1) = 0 from if_neg q'] at this
      rw [if_neg q]; exact this
  unfold own_F0
  split
  · exact k 0 (Or.inl rfl)
  · exact k 1 (Or.inr rfl)

set_option maxRecDepth 65536 in
set_option maxHeartbeats 40000000 in
theorem own_comes {Post : Tables → Env → Array Value → State → Outcome → State → Prop} (hpost : ∀ tb e args s v u, (limb_1_1.after args s (.returned v) u = true ∧ limb_1_2.after args s (.returned v) u = true ∧ True) → FrameEnd s (.returned v) u (Jvm.fieldLocs frame_1_writes args s ++ Jvm.arrayLocs frame_1_arrays args s ++ Jvm.staticLocs frame_1_statics s) 24 128 → Post tb e args s (.returned v) u) :
    ArmFor flags0 classFile x code maxLocals ret World_1 tables_1 room_1 Calls_1 rest_1 Pre_1 Post := by
  intro l hfl _ _ p e ha hc hk s m args below hf hA hF happ hP
  obtain ⟨hcalls, hrest, hpre⟩ := hP
  obtain ⟨-, -, -, hnamed, -, -, -, hat⟩ := (Spec.applies_iff hf).mp happ
  obtain ⟨hg, hn⟩ := and_e (Cond.before_iff.mp (show (Jvm.Cond.and given_1 narrow_1).before args s = true from hpre))
  obtain ⟨hg1, hg2⟩ := and_e hg
  obtain ⟨hg3, hg4⟩ := and_e hg2
  obtain ⟨hg5, hg6⟩ := and_e hg4
  obtain ⟨hg7, hg8⟩ := and_e hg6
  obtain ⟨hg9, hg10⟩ := and_e hg8
  obtain ⟨w0, w1, w2, w3, w4, rfl⟩ : ∃ w0 w1 w2 w3 w4 : Value, args = #[w0, w1, w2, w3, w4] := by
    have hs : args.size = 5 := by simpa [Cond.value, given_1] using hg1
    obtain ⟨L⟩ := args
    match L, hs with
    | [w0, w1, w2, w3, w4], _ => exact ⟨w0, w1, w2, w3, w4, rfl⟩
  have hw := fun d (hd : d ∈ tables_1) => atoms_spec (ws := Jvm.Cond.code x code maxLocals ret :: tables_1) hat d (List.mem_cons_of_mem _ hd)
  have hfit : Fit s := fun {y c} hc i hi => by
    obtain ⟨ha, rfl⟩ := Array.getElem?_eq_some_iff.mp hc
    have q := List.all_eq_true.mp ((Array.all_eq_true_iff_forall_mem.mp hF) _ (Array.getElem_mem ha)) i (List.mem_range.mpr hi)
    simpa [Array.getElem?_eq_getElem hi] using q
  obtain ⟨hsets, hown0⟩ := atoms_of _ (rest_1_c_eq ▸ (show rest_1_c.before _ s = true from hrest))
  have hr0 := Cond.before_iff.mp hown0
  obtain ⟨i0, ei0⟩ := is_v hg3
  obtain rfl : w0 = (.int i0) := Option.some.inj ei0
  obtain ⟨i1, ei1⟩ := is_v hg5
  obtain rfl : w1 = (.int i1) := Option.some.inj ei1
  obtain ⟨i2, ei2⟩ := is_v hg7
  obtain rfl : w2 = (.int i2) := Option.some.inj ei2
  obtain ⟨i3, ei3⟩ := is_v hg9
  obtain rfl : w3 = (.int i3) := Option.some.inj ei3
  obtain ⟨i4, ei4⟩ := is_v hg10
  obtain rfl : w4 = (.int i4) := Option.some.inj ei4
  obtain ⟨cs, ecs⟩ := is_v (Cond.before_iff.mp (hsets _ (List.mem_of_getElem? (i := 1) rfl)))
  have SC : Sta s s.heap "java/lang/String" "COMPACT_STRINGS" "Z" (.int cs) := Sta.start ecs (Or.inl (hsets _ (List.mem_of_getElem? (i := 0) rfl)))
  have HCS : ¬ (cs = (0 : Int32)) := gotF (Cond.eq_ints ecs (Term.int_eval (0))) (not_v (Cond.before_iff.mp (hsets _ (List.mem_of_getElem? (i := 2) rfl))))
  obtain ⟨n, o, h1, h2, h3, _, L, rfl, ⟨rfl, N⟩, hq⟩ := own_rm0 l s _ hw tables_1 i0 i1 i2 i3 i4 cs s.heap s.heap.size (Nat.le_refl _) (Old.start s) SC HCS p e ha hc hk s m _ below hf ((Spec.applies_iff_loose hf).mp happ).1 ⟨rfl, State.Warmed39.refl s, rfl⟩ trivial
  refine ⟨n, _, h1, h2, h3, hpost _ _ _ _ _ _ ⟨Cond.after_iff.mpr rfl, Cond.after_iff.mpr (eq_i res_at (Term.int_eval (1)) (congrArg Value.int (own_law i0 i1 i2 i3 i4))), trivial⟩ ⟨hq.1, hq.2.1, (hq.2.2.sift fun y hy => Or.inr (N y hy)).mono (by decide) (by decide)⟩⟩
theorem main_1_1 : Claimed_1_1 := own_comes fun _ _ _ _ _ _ h hF => ⟨h.1, hF⟩
theorem main_1_2 : Claimed_1_2 := own_comes fun _ _ _ _ _ _ h hF => ⟨h.2.1, hF⟩
end Jvm.Pilot.@@N@@
namespace Jvm.Pilot.@@N@@
open Jvm Jvm.ClassFile Sem Op Lib Jvm.Free Jvm.Stand Jvm.Pilot.@@N@@.Jvm.D
/-! MADE BY PROGRAM (witnessworld.py) out of the Statement's table words and the real class files: 21 classes; the members and pool entries that the words name. The judged class is class 1, her method 1. -/
namespace start1
open Jvm.ClassFile
def u (s : String) : CpInfo := .utf8 (stringToUtf16 s)
/-- a pool by its gaps: so many unusable entries, then the entry; so many at the end -/
def gap : Nat → List CpInfo → List CpInfo
  | 0, r => r
  | n + 1, r => .unusable :: gap n r
def poolList (es : List (Nat × CpInfo)) (last : Nat) : List CpInfo := es.foldr (fun e r => gap e.1 (e.2 :: r)) (gap last [])
def pool (es : List (Nat × CpInfo)) (last : Nat) : Array CpInfo := ⟨poolList es last⟩
def fileOf (pool : Array CpInfo) (this : Nat) (attrs : Array Attribute := #[]) (ms : Array MethodInfo := #[]) (fl : Nat := 33) (sup : Nat := 0) (ifs : Array Nat := #[]) (fds : Array FieldInfo := #[]) : ClassFile where
  minorVersion := 0
  majorVersion := 65
  constantPool := pool
  accessFlags := fl
  thisClass := this
  superClass := sup
  interfaces := ifs
  fields := fds
  methods := ms
  attributes := attrs
def plain (name : String) (sup : Option ClassId) : Class where
  name := name
  kind := .ordinary
  loader := none
  accessFlags := 33
  super := sup
  interfaces := #[]
  cf := none
  fields := #[]
  methods := #[]
  instanceTypes := #[]
  staticTypes := #[]
  resolved := #[]
  callSites := []
  init := .initialized
  statics := none
  mirror := none

def pool0 : Array CpInfo := pool [(5, u "<init>"), (0, u "()V"), (1, .class_ 10), (1, u "java/lang/Object")] 113

def k0c0 : Code := { maxStack := 0, maxLocals := 1, code := object_method_1_code, exceptionTable := #[], attributes := #[] }
def k0m0 : Method := { name := "<init>", desc := "()V", sig := { parameters := [], returnType := none }, accessFlags := 1, code := some k0c0 }
/-- java/lang/Object -/
def k0 : Class := { plain "java/lang/Object" none with
  accessFlags := 33
  interfaces := #[]
  cf := some (fileOf pool0 8 #[] #[{ accessFlags := 1, nameIndex := 5, descriptorIndex := 6, attributes := #[] }] 33 0 #[] #[])
  fields := #[]
  methods := #[k0m0]
  instanceTypes := #[]
  staticTypes := #[]
  resolved := Array.replicate 124 none
  statics := none }

def pool1 : Array CpInfo := pool [(2, .class_ 4), (1, u "java/lang/Object"), (0, u "<init>"), (0, u "()V"), (0, .class_ 8), (0, u "java/lang/String"), (0, .methodref 7 10), (0, .nameAndType 5 11), (0, u "([C)V"), (0, .class_ 13), (0, u "com/example/topping_out/toppingout/game/Player"), (0, .methodref 12 15), (0, .nameAndType 5 16), (0, u "(Ljava/lang/String;ZII)V"), (0, .methodref 12 18), (0, .nameAndType 19 20), (0, u "lessACertificate"), (0, u "()Lcom/example/topping_out/toppingout/game/Player;"), (0, .methodref 12 22), (0, .nameAndType 23 24), (0, u "name"), (0, u "()Ljava/lang/String;"), (0, .methodref 7 26), (0, .nameAndType 27 28), (0, u "equals"), (0, u "(Ljava/lang/Object;)Z"), (0, .methodref 12 30), (0, .nameAndType 31 32), (0, u "expert"), (0, u "()Z"), (0, .methodref 12 34), (0, .nameAndType 35 36), (0, u "certificates"), (0, u "()I"), (0, .methodref 12 38), (0, .nameAndType 39 36), (0, u "awards"), (0, .methodref 12 41), (0, .nameAndType 42 32), (0, u "out"), (0, .class_ 44), (0, u "com/example/topping_out/toppingout/game/PlayerLessACertificatePinLaw"), (2, u "law"), (0, u "(IIIII)Z")] 5

def k1m0 : Method := { name := "<init>", desc := "()V", sig := { parameters := [], returnType := none }, accessFlags := 1, code := none }
def k1c1 : Code := { maxStack := 6, maxLocals := 16, code := code, exceptionTable := #[], attributes := #[] }
def k1m1 : Method := { name := "law", desc := "(IIIII)Z", sig := { parameters := [.int, .int, .int, .int, .int], returnType := some .boolean }, accessFlags := 9, code := some k1c1 }
/-- com/example/topping_out/toppingout/game/PlayerLessACertificatePinLaw -/
def k1 : Class := { plain "com/example/topping_out/toppingout/game/PlayerLessACertificatePinLaw" (some 0) with
  accessFlags := 49
  interfaces := #[]
  cf := some (fileOf pool1 43 #[] #[{ accessFlags := 1, nameIndex := 5, descriptorIndex := 6, attributes := #[] }, { accessFlags := 9, nameIndex := 47, descriptorIndex := 48, attributes := #[] }] 49 2 #[] #[])
  fields := #[]
  methods := #[k1m0, k1m1]
  instanceTypes := #[]
  staticTypes := #[]
  resolved := Array.replicate 54 none
  statics := none }

def pool2 : Array CpInfo := pool [(1, .class_ 2), (0, u "java/io/Serializable"), (0, .class_ 4), (0, u "java/lang/Object")] 2

/-- java/io/Serializable -/
def k2 : Class := { plain "java/io/Serializable" (some 0) with
  accessFlags := 1537
  interfaces := #[]
  cf := some (fileOf pool2 1 #[] #[] 1537 3 #[] #[])
  fields := #[]
  methods := #[]
  instanceTypes := #[]
  staticTypes := #[]
  resolved := Array.replicate 7 none
  statics := none }

def pool3 : Array CpInfo := pool [(1, .class_ 2), (0, u "java/lang/Comparable"), (0, .class_ 4), (0, u "java/lang/Object")] 7

/-- java/lang/Comparable -/
def k3 : Class := { plain "java/lang/Comparable" (some 0) with
  accessFlags := 1537
  interfaces := #[]
  cf := some (fileOf pool3 1 #[] #[] 1537 3 #[] #[])
  fields := #[]
  methods := #[]
  instanceTypes := #[]
  staticTypes := #[]
  resolved := Array.replicate 12 none
  statics := none }

def pool4 : Array CpInfo := pool [(2, .class_ 4), (1, u "java/lang/CharSequence"), (42, .class_ 48), (0, u "java/lang/CharSequence$1CodePointIterator"), (10, .class_ 60), (0, u "java/lang/CharSequence$1CharIterator"), (5, .class_ 67), (0, u "java/lang/Object")] 63

/-- java/lang/CharSequence -/
def k4 : Class := { plain "java/lang/CharSequence" (some 0) with
  accessFlags := 1537
  interfaces := #[]
  cf := some (fileOf pool4 2 #[.nestMembers #[47, 59]] #[] 1537 66 #[] #[])
  fields := #[]
  methods := #[]
  instanceTypes := #[]
  staticTypes := #[]
  resolved := Array.replicate 131 none
  statics := none }

def pool5 : Array CpInfo := pool [(1, .class_ 2), (0, u "java/lang/constant/Constable"), (0, .class_ 4), (0, u "java/lang/Object")] 6

/-- java/lang/constant/Constable -/
def k5 : Class := { plain "java/lang/constant/Constable" (some 0) with
  accessFlags := 1537
  interfaces := #[]
  cf := some (fileOf pool5 1 #[] #[] 1537 3 #[] #[])
  fields := #[]
  methods := #[]
  instanceTypes := #[]
  staticTypes := #[]
  resolved := Array.replicate 11 none
  statics := none }

def pool6 : Array CpInfo := pool [(1, .class_ 2), (0, u "java/lang/constant/ConstantDesc"), (0, .class_ 4), (0, u "java/lang/Object")] 32

/-- java/lang/constant/ConstantDesc -/
def k6 : Class := { plain "java/lang/constant/ConstantDesc" (some 0) with
  accessFlags := 1537
  interfaces := #[]
  cf := some (fileOf pool6 1 #[] #[] 1537 3 #[] #[])
  fields := #[]
  methods := #[]
  instanceTypes := #[]
  staticTypes := #[]
  resolved := Array.replicate 37 none
  statics := none }

def pool7 : Array CpInfo := pool [(1, .methodref 2 3), (0, .class_ 4), (0, .nameAndType 5 6), (0, u "java/lang/Object"), (0, u "<init>"), (0, u "()V"), (2, .fieldref 10 11), (0, .class_ 12), (0, .nameAndType 13 14), (0, u "java/lang/String"), (0, u "value"), (0, u "[B"), (0, .fieldref 10 16), (0, .nameAndType 17 18), (0, u "coder"), (0, u "B"), (2, u "hash"), (0, u "I"), (2, u "hashIsZero"), (0, u "Z"), (0, .methodref 10 28), (0, .nameAndType 5 29), (0, u "([CIILjava/lang/Void;)V"), (8, .fieldref 10 39), (0, .nameAndType 40 26), (0, u "COMPACT_STRINGS"), (1, .class_ 44), (1, u "java/lang/StringUTF16"), (0, u "compress"), (1, .methodref 42 48), (0, .nameAndType 49 50), (0, u "coderFromArrayLen"), (0, u "([BI)B"), (126, .methodref 42 178), (0, .nameAndType 45 179), (0, u "([CII)[B"), (363, u "equals"), (29, u "(Ljava/lang/Object;)Z"), (1, .class_ 576), (0, u "java/lang/CharSequence"), (22, u "CASE_INSENSITIVE_ORDER"), (0, u "Ljava/util/Comparator;"), (409, u "([C)V"), (90, u "serialPersistentFields"), (0, u "[Ljava/io/ObjectStreamField;"), (0, .class_ 1104), (0, u "java/lang/String$CaseInsensitiveComparator"), (1, .class_ 1107), (0, u "java/io/Serializable"), (0, .class_ 1109), (0, u "java/lang/Comparable"), (0, .class_ 1111), (0, u "java/lang/constant/Constable"), (0, .class_ 1113), (0, u "java/lang/constant/ConstantDesc"), (2, u "serialVersionUID"), (0, u "J"), (3, u "REPL"), (0, u "C"), (2, u "LATIN1"), (1, u "UTF16")] 323

def k7m0 : Method := { name := "<init>", desc := "()V", sig := { parameters := [], returnType := none }, accessFlags := 1, code := none }
def k7c1 : Code := { maxStack := 5, maxLocals := 2, code := jdk_42_method_3_code, exceptionTable := #[], attributes := #[] }
def k7m1 : Method := { name := "<init>", desc := "([C)V", sig := { parameters := [(.array .char)], returnType := none }, accessFlags := 1, code := some k7c1 }
def k7c2 : Code := { maxStack := 2, maxLocals := 3, code := jdk_42_method_66_code, exceptionTable := #[], attributes := #[] }
def k7m2 : Method := { name := "equals", desc := "(Ljava/lang/Object;)Z", sig := { parameters := [(.object "java/lang/Object")], returnType := some .boolean }, accessFlags := 1, code := some k7c2 }
def k7c3 : Code := { maxStack := 4, maxLocals := 6, code := jdk_42_method_149_code, exceptionTable := #[], attributes := #[] }
def k7m3 : Method := { name := "<init>", desc := "([CIILjava/lang/Void;)V", sig := { parameters := [(.array .char), .int, .int, (.object "java/lang/Void")], returnType := none }, accessFlags := 2, code := some k7c3 }
/-- java/lang/String -/
def k7 : Class := { plain "java/lang/String" (some 0) with
  accessFlags := 49
  interfaces := #[2, 3, 4, 5, 6]
  cf := some (fileOf pool7 10 #[.nestMembers #[1103]] #[{ accessFlags := 1, nameIndex := 5, descriptorIndex := 6, attributes := #[] }, { accessFlags := 1, nameIndex := 5, descriptorIndex := 1010, attributes := #[] }, { accessFlags := 1, nameIndex := 543, descriptorIndex := 573, attributes := #[] }, { accessFlags := 2, nameIndex := 5, descriptorIndex := 29, attributes := #[] }] 49 2 #[1106, 1108, 575, 1110, 1112] #[{ accessFlags := 18, nameIndex := 13, descriptorIndex := 14, attributes := #[] }, { accessFlags := 18, nameIndex := 17, descriptorIndex := 18, attributes := #[] }, { accessFlags := 2, nameIndex := 21, descriptorIndex := 22, attributes := #[] }, { accessFlags := 2, nameIndex := 25, descriptorIndex := 26, attributes := #[] }, { accessFlags := 26, nameIndex := 1116, descriptorIndex := 1117, attributes := #[] }, { accessFlags := 24, nameIndex := 40, descriptorIndex := 26, attributes := #[] }, { accessFlags := 26, nameIndex := 1101, descriptorIndex := 1102, attributes := #[] }, { accessFlags := 26, nameIndex := 1121, descriptorIndex := 1122, attributes := #[] }, { accessFlags := 25, nameIndex := 599, descriptorIndex := 600, attributes := #[] }, { accessFlags := 24, nameIndex := 1125, descriptorIndex := 18, attributes := #[] }, { accessFlags := 24, nameIndex := 1127, descriptorIndex := 18, attributes := #[] }])
  fields := #[{ name := "value", type := (.array .byte), accessFlags := 18, slot := 0, constantValue := 0 }, { name := "coder", type := .byte, accessFlags := 18, slot := 1, constantValue := 0 }, { name := "hash", type := .int, accessFlags := 2, slot := 2, constantValue := 0 }, { name := "hashIsZero", type := .boolean, accessFlags := 2, slot := 3, constantValue := 0 }, { name := "serialVersionUID", type := .long, accessFlags := 26, slot := 0, constantValue := 0 }, { name := "COMPACT_STRINGS", type := .boolean, accessFlags := 24, slot := 1, constantValue := 0 }, { name := "serialPersistentFields", type := (.array (.object "java/io/ObjectStreamField")), accessFlags := 26, slot := 2, constantValue := 0 }, { name := "REPL", type := .char, accessFlags := 26, slot := 3, constantValue := 0 }, { name := "CASE_INSENSITIVE_ORDER", type := (.object "java/util/Comparator"), accessFlags := 25, slot := 4, constantValue := 0 }, { name := "LATIN1", type := .byte, accessFlags := 24, slot := 5, constantValue := 0 }, { name := "UTF16", type := .byte, accessFlags := 24, slot := 6, constantValue := 0 }]
  methods := #[k7m0, k7m1, k7m2, k7m3]
  instanceTypes := #[(.array .byte), .byte, .int, .boolean]
  staticTypes := #[.long, .boolean, (.array (.object "java/io/ObjectStreamField")), .char, (.object "java/util/Comparator"), .byte, .byte]
  resolved := Array.replicate 1451 none
  statics := some 0 }

def pool8 : Array CpInfo := pool [(6, .class_ 8), (1, u "java/lang/Object"), (0, u "<init>"), (0, u "()V"), (1, .class_ 14), (1, u "java/lang/StringUTF16"), (31, u "$assertionsDisabled"), (0, u "Z"), (13, u "HI_BYTE_SHIFT"), (0, u "I"), (2, u "LO_BYTE_SHIFT"), (49, .methodref 12 116), (0, .nameAndType 117 118), (0, u "compress"), (0, u "([CI[BII)I"), (3, u "([CII)[B"), (138, u "coderFromArrayLen"), (0, u "([BI)B"), (106, .class_ 371), (1, u "java/lang/StringUTF16$LinesSpliterator"), (58, u "MAX_LENGTH"), (196, .class_ 628), (0, u "java/lang/StringUTF16$CodePointsSpliterator"), (0, .class_ 630), (0, u "java/lang/StringUTF16$CharsSpliterator")] 4

def k8m0 : Method := { name := "<init>", desc := "()V", sig := { parameters := [], returnType := none }, accessFlags := 0, code := none }
def k8c1 : Code := { maxStack := 2, maxLocals := 2, code := jdk_52_method_15_code, exceptionTable := #[], attributes := #[] }
def k8m1 : Method := { name := "coderFromArrayLen", desc := "([BI)B", sig := { parameters := [(.array .byte), .int], returnType := some .byte }, accessFlags := 8, code := some k8c1 }
def k8c2 : Code := { maxStack := 5, maxLocals := 6, code := jdk_52_method_16_code, exceptionTable := #[], attributes := #[] }
def k8m2 : Method := { name := "compress", desc := "([CII)[B", sig := { parameters := [(.array .char), .int, .int], returnType := some (.array .byte) }, accessFlags := 9, code := some k8c2 }
def k8c3 : Code := { maxStack := 3, maxLocals := 7, code := jdk_52_method_21_code, exceptionTable := #[], attributes := #[] }
def k8m3 : Method := { name := "compress", desc := "([CI[BII)I", sig := { parameters := [(.array .char), .int, (.array .byte), .int, .int], returnType := some .int }, accessFlags := 9, code := some k8c3 }
/-- java/lang/StringUTF16 -/
def k8 : Class := { plain "java/lang/StringUTF16" (some 0) with
  accessFlags := 48
  interfaces := #[]
  cf := some (fileOf pool8 12 #[.nestMembers #[627, 629, 369]] #[{ accessFlags := 0, nameIndex := 9, descriptorIndex := 10, attributes := #[] }, { accessFlags := 8, nameIndex := 261, descriptorIndex := 262, attributes := #[] }, { accessFlags := 9, nameIndex := 117, descriptorIndex := 122, attributes := #[] }, { accessFlags := 9, nameIndex := 117, descriptorIndex := 118, attributes := #[] }] 48 6 #[] #[{ accessFlags := 26, nameIndex := 61, descriptorIndex := 62, attributes := #[] }, { accessFlags := 26, nameIndex := 65, descriptorIndex := 62, attributes := #[] }, { accessFlags := 24, nameIndex := 430, descriptorIndex := 62, attributes := #[] }, { accessFlags := 4120, nameIndex := 46, descriptorIndex := 47, attributes := #[] }])
  fields := #[{ name := "HI_BYTE_SHIFT", type := .int, accessFlags := 26, slot := 0, constantValue := 0 }, { name := "LO_BYTE_SHIFT", type := .int, accessFlags := 26, slot := 1, constantValue := 0 }, { name := "MAX_LENGTH", type := .int, accessFlags := 24, slot := 2, constantValue := 0 }, { name := "$assertionsDisabled", type := .boolean, accessFlags := 4120, slot := 3, constantValue := 0 }]
  methods := #[k8m0, k8m1, k8m2, k8m3]
  instanceTypes := #[]
  staticTypes := #[.int, .int, .int, .boolean]
  resolved := Array.replicate 635 none
  statics := none }

def pool9 : Array CpInfo := pool [(1, .methodref 2 3), (0, .class_ 4), (0, .nameAndType 5 6), (0, u "java/lang/Object"), (0, u "<init>"), (0, u "()V"), (0, .class_ 8), (0, u "java/lang/Record")] 13

def k9c0 : Code := { maxStack := 1, maxLocals := 1, code := jdk_30_method_1_code, exceptionTable := #[], attributes := #[] }
def k9m0 : Method := { name := "<init>", desc := "()V", sig := { parameters := [], returnType := none }, accessFlags := 4, code := some k9c0 }
/-- java/lang/Record -/
def k9 : Class := { plain "java/lang/Record" (some 0) with
  accessFlags := 1057
  interfaces := #[]
  cf := some (fileOf pool9 7 #[] #[{ accessFlags := 4, nameIndex := 5, descriptorIndex := 6, attributes := #[] }] 1057 2 #[] #[])
  fields := #[]
  methods := #[k9m0]
  instanceTypes := #[]
  staticTypes := #[]
  resolved := Array.replicate 22 none
  statics := none }

def pool10 : Array CpInfo := pool [(1, .methodref 2 3), (0, .class_ 4), (0, .nameAndType 5 6), (0, u "java/lang/Record"), (0, u "<init>"), (0, u "()V"), (0, .fieldref 8 9), (0, .class_ 10), (0, .nameAndType 11 12), (0, u "com/example/topping_out/toppingout/game/Player"), (0, u "name"), (0, u "Ljava/lang/String;"), (0, .fieldref 8 14), (0, .nameAndType 15 16), (0, u "expert"), (0, u "Z"), (0, .fieldref 8 18), (0, .nameAndType 19 20), (0, u "certificates"), (0, u "I"), (0, .fieldref 8 22), (0, .nameAndType 23 20), (0, u "awards"), (0, .methodref 8 25), (0, .nameAndType 5 26), (0, u "(Ljava/lang/String;ZII)V"), (25, u "out"), (2, u "()Z"), (12, u "CERTIFICATES"), (10, u "lessACertificate"), (0, u "()Lcom/example/topping_out/toppingout/game/Player;"), (5, u "()Ljava/lang/String;"), (0, u "()I")] 24

def k10c0 : Code := { maxStack := 2, maxLocals := 5, code := prog_6_method_1_code, exceptionTable := #[], attributes := #[] }
def k10m0 : Method := { name := "<init>", desc := "(Ljava/lang/String;ZII)V", sig := { parameters := [(.object "java/lang/String"), .boolean, .int, .int], returnType := none }, accessFlags := 0, code := some k10c0 }
def k10c1 : Code := { maxStack := 6, maxLocals := 1, code := prog_6_method_3_code, exceptionTable := #[], attributes := #[] }
def k10m1 : Method := { name := "lessACertificate", desc := "()Lcom/example/topping_out/toppingout/game/Player;", sig := { parameters := [], returnType := some (.object "com/example/topping_out/toppingout/game/Player") }, accessFlags := 0, code := some k10c1 }
def k10c2 : Code := { maxStack := 1, maxLocals := 1, code := prog_6_method_5_code, exceptionTable := #[], attributes := #[] }
def k10m2 : Method := { name := "out", desc := "()Z", sig := { parameters := [], returnType := some .boolean }, accessFlags := 0, code := some k10c2 }
def k10c3 : Code := { maxStack := 1, maxLocals := 1, code := prog_6_method_10_code, exceptionTable := #[], attributes := #[] }
def k10m3 : Method := { name := "name", desc := "()Ljava/lang/String;", sig := { parameters := [], returnType := some (.object "java/lang/String") }, accessFlags := 1, code := some k10c3 }
def k10c4 : Code := { maxStack := 1, maxLocals := 1, code := prog_6_method_11_code, exceptionTable := #[], attributes := #[] }
def k10m4 : Method := { name := "expert", desc := "()Z", sig := { parameters := [], returnType := some .boolean }, accessFlags := 1, code := some k10c4 }
def k10c5 : Code := { maxStack := 1, maxLocals := 1, code := prog_6_method_12_code, exceptionTable := #[], attributes := #[] }
def k10m5 : Method := { name := "certificates", desc := "()I", sig := { parameters := [], returnType := some .int }, accessFlags := 1, code := some k10c5 }
def k10c6 : Code := { maxStack := 1, maxLocals := 1, code := prog_6_method_13_code, exceptionTable := #[], attributes := #[] }
def k10m6 : Method := { name := "awards", desc := "()I", sig := { parameters := [], returnType := some .int }, accessFlags := 1, code := some k10c6 }
/-- com/example/topping_out/toppingout/game/Player -/
def k10 : Class := { plain "com/example/topping_out/toppingout/game/Player" (some 9) with
  accessFlags := 48
  interfaces := #[]
  cf := some (fileOf pool10 8 #[] #[{ accessFlags := 0, nameIndex := 5, descriptorIndex := 26, attributes := #[] }, { accessFlags := 0, nameIndex := 79, descriptorIndex := 80, attributes := #[] }, { accessFlags := 0, nameIndex := 52, descriptorIndex := 55, attributes := #[] }, { accessFlags := 1, nameIndex := 11, descriptorIndex := 86, attributes := #[] }, { accessFlags := 1, nameIndex := 15, descriptorIndex := 55, attributes := #[] }, { accessFlags := 1, nameIndex := 19, descriptorIndex := 87, attributes := #[] }, { accessFlags := 1, nameIndex := 23, descriptorIndex := 87, attributes := #[] }] 48 2 #[] #[{ accessFlags := 18, nameIndex := 11, descriptorIndex := 12, attributes := #[] }, { accessFlags := 18, nameIndex := 15, descriptorIndex := 16, attributes := #[] }, { accessFlags := 18, nameIndex := 19, descriptorIndex := 20, attributes := #[] }, { accessFlags := 18, nameIndex := 23, descriptorIndex := 20, attributes := #[] }, { accessFlags := 24, nameIndex := 68, descriptorIndex := 20, attributes := #[] }])
  fields := #[{ name := "name", type := (.object "java/lang/String"), accessFlags := 18, slot := 0, constantValue := 0 }, { name := "expert", type := .boolean, accessFlags := 18, slot := 1, constantValue := 0 }, { name := "certificates", type := .int, accessFlags := 18, slot := 2, constantValue := 0 }, { name := "awards", type := .int, accessFlags := 18, slot := 3, constantValue := 0 }, { name := "CERTIFICATES", type := .int, accessFlags := 24, slot := 0, constantValue := 0 }]
  methods := #[k10m0, k10m1, k10m2, k10m3, k10m4, k10m5, k10m6]
  instanceTypes := #[(.object "java/lang/String"), .boolean, .int, .int]
  staticTypes := #[.int]
  resolved := Array.replicate 112 none
  statics := none }

def pool11 : Array CpInfo := pool [(4, .class_ 6), (1, u "java/lang/Object"), (0, u "<init>"), (0, u "()V"), (5, .class_ 16), (1, u "java/lang/StringLatin1"), (104, u "$assertionsDisabled"), (0, u "Z"), (98, .class_ 223), (1, u "java/lang/StringLatin1$LinesSpliterator"), (166, .class_ 391), (0, u "java/lang/StringLatin1$CharsSpliterator")] 3

def k11m0 : Method := { name := "<init>", desc := "()V", sig := { parameters := [], returnType := none }, accessFlags := 0, code := none }
/-- java/lang/StringLatin1 -/
def k11 : Class := { plain "java/lang/StringLatin1" (some 0) with
  accessFlags := 48
  interfaces := #[]
  cf := some (fileOf pool11 14 #[.nestMembers #[390, 221]] #[{ accessFlags := 0, nameIndex := 7, descriptorIndex := 8, attributes := #[] }] 48 4 #[] #[{ accessFlags := 4120, nameIndex := 121, descriptorIndex := 122, attributes := #[] }])
  fields := #[{ name := "$assertionsDisabled", type := .boolean, accessFlags := 4120, slot := 0, constantValue := 0 }]
  methods := #[k11m0]
  instanceTypes := #[]
  staticTypes := #[.boolean]
  resolved := Array.replicate 395 none
  statics := none }

def pool12 : Array CpInfo := pool [(2, .class_ 4), (1, u "java/lang/Object"), (0, u "<init>"), (0, u "()V"), (17, .class_ 26), (1, u "jdk/internal/util/Preconditions"), (28, .class_ 56), (0, u "jdk/internal/util/Preconditions$4"), (57, .class_ 115), (0, u "jdk/internal/util/Preconditions$1"), (7, u "SIOOBE_FORMATTER"), (0, u "Ljava/util/function/BiFunction;"), (0, .class_ 126), (0, u "jdk/internal/util/Preconditions$2"), (3, u "AIOOBE_FORMATTER"), (0, .class_ 132), (0, u "jdk/internal/util/Preconditions$3"), (3, u "IOOBE_FORMATTER")] 57

def k12m0 : Method := { name := "<init>", desc := "()V", sig := { parameters := [], returnType := none }, accessFlags := 1, code := none }
/-- jdk/internal/util/Preconditions -/
def k12 : Class := { plain "jdk/internal/util/Preconditions" (some 0) with
  accessFlags := 33
  interfaces := #[]
  cf := some (fileOf pool12 24 #[.nestMembers #[55, 131, 125, 114]] #[{ accessFlags := 1, nameIndex := 5, descriptorIndex := 6, attributes := #[] }] 33 2 #[] #[{ accessFlags := 25, nameIndex := 123, descriptorIndex := 124, attributes := #[] }, { accessFlags := 25, nameIndex := 130, descriptorIndex := 124, attributes := #[] }, { accessFlags := 25, nameIndex := 136, descriptorIndex := 124, attributes := #[] }])
  fields := #[{ name := "SIOOBE_FORMATTER", type := (.object "java/util/function/BiFunction"), accessFlags := 25, slot := 0, constantValue := 0 }, { name := "AIOOBE_FORMATTER", type := (.object "java/util/function/BiFunction"), accessFlags := 25, slot := 1, constantValue := 0 }, { name := "IOOBE_FORMATTER", type := (.object "java/util/function/BiFunction"), accessFlags := 25, slot := 2, constantValue := 0 }]
  methods := #[k12m0]
  instanceTypes := #[]
  staticTypes := #[(.object "java/util/function/BiFunction"), (.object "java/util/function/BiFunction"), (.object "java/util/function/BiFunction")]
  resolved := Array.replicate 194 none
  statics := some 1 }

def pool13 : Array CpInfo := pool [(9, u "<init>"), (6, .class_ 18), (1, u "java/lang/Object"), (0, u "()V"), (1, .class_ 23), (1, u "jdk/internal/util/ArraysSupport"), (0, u "LOG2_ARRAY_LONG_INDEX_SCALE"), (0, u "I"), (2, u "U"), (0, u "Ljdk/internal/misc/Unsafe;"), (8, u "BIG_ENDIAN"), (0, u "Z"), (8, u "LOG2_BYTE_BIT_SIZE"), (4, u "LOG2_ARRAY_INT_INDEX_SCALE"), (54, u "JLA"), (0, u "Ljdk/internal/access/JavaLangAccess;"), (11, u "LOG2_ARRAY_BOOLEAN_INDEX_SCALE"), (9, u "LOG2_ARRAY_BYTE_INDEX_SCALE"), (5, u "LOG2_ARRAY_CHAR_INDEX_SCALE"), (5, u "LOG2_ARRAY_SHORT_INDEX_SCALE"), (18, u "LOG2_ARRAY_FLOAT_INDEX_SCALE"), (24, u "LOG2_ARRAY_DOUBLE_INDEX_SCALE"), (89, u "T_BOOLEAN"), (2, u "T_CHAR"), (1, u "T_FLOAT"), (1, u "T_DOUBLE"), (1, u "T_BYTE"), (1, u "T_SHORT"), (1, u "T_INT"), (1, u "T_LONG"), (1, u "SOFT_MAX_ARRAY_LENGTH")] 83

def k13m0 : Method := { name := "<init>", desc := "()V", sig := { parameters := [], returnType := none }, accessFlags := 2, code := none }
/-- jdk/internal/util/ArraysSupport -/
def k13 : Class := { plain "jdk/internal/util/ArraysSupport" (some 0) with
  accessFlags := 33
  interfaces := #[]
  cf := some (fileOf pool13 21 #[] #[{ accessFlags := 2, nameIndex := 9, descriptorIndex := 19, attributes := #[] }] 33 16 #[] #[{ accessFlags := 24, nameIndex := 28, descriptorIndex := 29, attributes := #[] }, { accessFlags := 26, nameIndex := 38, descriptorIndex := 39, attributes := #[] }, { accessFlags := 25, nameIndex := 121, descriptorIndex := 25, attributes := #[] }, { accessFlags := 25, nameIndex := 131, descriptorIndex := 25, attributes := #[] }, { accessFlags := 25, nameIndex := 137, descriptorIndex := 25, attributes := #[] }, { accessFlags := 25, nameIndex := 143, descriptorIndex := 25, attributes := #[] }, { accessFlags := 25, nameIndex := 53, descriptorIndex := 25, attributes := #[] }, { accessFlags := 25, nameIndex := 24, descriptorIndex := 25, attributes := #[] }, { accessFlags := 25, nameIndex := 162, descriptorIndex := 25, attributes := #[] }, { accessFlags := 25, nameIndex := 187, descriptorIndex := 25, attributes := #[] }, { accessFlags := 26, nameIndex := 48, descriptorIndex := 25, attributes := #[] }, { accessFlags := 25, nameIndex := 277, descriptorIndex := 25, attributes := #[] }, { accessFlags := 25, nameIndex := 280, descriptorIndex := 25, attributes := #[] }, { accessFlags := 25, nameIndex := 282, descriptorIndex := 25, attributes := #[] }, { accessFlags := 25, nameIndex := 284, descriptorIndex := 25, attributes := #[] }, { accessFlags := 25, nameIndex := 286, descriptorIndex := 25, attributes := #[] }, { accessFlags := 25, nameIndex := 288, descriptorIndex := 25, attributes := #[] }, { accessFlags := 25, nameIndex := 290, descriptorIndex := 25, attributes := #[] }, { accessFlags := 25, nameIndex := 292, descriptorIndex := 25, attributes := #[] }, { accessFlags := 26, nameIndex := 108, descriptorIndex := 109, attributes := #[] }, { accessFlags := 25, nameIndex := 294, descriptorIndex := 25, attributes := #[] }])
  fields := #[{ name := "U", type := (.object "jdk/internal/misc/Unsafe"), accessFlags := 24, slot := 0, constantValue := 0 }, { name := "BIG_ENDIAN", type := .boolean, accessFlags := 26, slot := 1, constantValue := 0 }, { name := "LOG2_ARRAY_BOOLEAN_INDEX_SCALE", type := .int, accessFlags := 25, slot := 2, constantValue := 0 }, { name := "LOG2_ARRAY_BYTE_INDEX_SCALE", type := .int, accessFlags := 25, slot := 3, constantValue := 0 }, { name := "LOG2_ARRAY_CHAR_INDEX_SCALE", type := .int, accessFlags := 25, slot := 4, constantValue := 0 }, { name := "LOG2_ARRAY_SHORT_INDEX_SCALE", type := .int, accessFlags := 25, slot := 5, constantValue := 0 }, { name := "LOG2_ARRAY_INT_INDEX_SCALE", type := .int, accessFlags := 25, slot := 6, constantValue := 0 }, { name := "LOG2_ARRAY_LONG_INDEX_SCALE", type := .int, accessFlags := 25, slot := 7, constantValue := 0 }, { name := "LOG2_ARRAY_FLOAT_INDEX_SCALE", type := .int, accessFlags := 25, slot := 8, constantValue := 0 }, { name := "LOG2_ARRAY_DOUBLE_INDEX_SCALE", type := .int, accessFlags := 25, slot := 9, constantValue := 0 }, { name := "LOG2_BYTE_BIT_SIZE", type := .int, accessFlags := 26, slot := 10, constantValue := 0 }, { name := "T_BOOLEAN", type := .int, accessFlags := 25, slot := 11, constantValue := 0 }, { name := "T_CHAR", type := .int, accessFlags := 25, slot := 12, constantValue := 0 }, { name := "T_FLOAT", type := .int, accessFlags := 25, slot := 13, constantValue := 0 }, { name := "T_DOUBLE", type := .int, accessFlags := 25, slot := 14, constantValue := 0 }, { name := "T_BYTE", type := .int, accessFlags := 25, slot := 15, constantValue := 0 }, { name := "T_SHORT", type := .int, accessFlags := 25, slot := 16, constantValue := 0 }, { name := "T_INT", type := .int, accessFlags := 25, slot := 17, constantValue := 0 }, { name := "T_LONG", type := .int, accessFlags := 25, slot := 18, constantValue := 0 }, { name := "JLA", type := (.object "jdk/internal/access/JavaLangAccess"), accessFlags := 26, slot := 19, constantValue := 0 }, { name := "SOFT_MAX_ARRAY_LENGTH", type := .int, accessFlags := 25, slot := 20, constantValue := 0 }]
  methods := #[k13m0]
  instanceTypes := #[]
  staticTypes := #[(.object "jdk/internal/misc/Unsafe"), .boolean, .int, .int, .int, .int, .int, .int, .int, .int, .int, .int, .int, .int, .int, .int, .int, .int, .int, (.object "jdk/internal/access/JavaLangAccess"), .int]
  resolved := Array.replicate 378 none
  statics := none }

def pool14 : Array CpInfo := pool [(1, u "java/lang/Cloneable"), (0, .class_ 1), (0, u "java/lang/Object"), (0, .class_ 3)] 3

/-- java/lang/Cloneable -/
def k14 : Class := { plain "java/lang/Cloneable" (some 0) with
  accessFlags := 1537
  interfaces := #[]
  cf := some (fileOf pool14 2 #[] #[] 1537 4 #[] #[])
  fields := #[]
  methods := #[]
  instanceTypes := #[]
  staticTypes := #[]
  resolved := Array.replicate 8 none
  statics := none }

/-- the primitive byte -/
def k15 : Class := { plain "byte" none with kind := .primitive 'B', accessFlags := 0x411 }
/-- [B -/
def k16 : Class := { plain "[B" (some 0) with kind := .array 15 .byte, interfaces := #[14, 2], accessFlags := 1041 }

/-- the primitive char -/
def k17 : Class := { plain "char" none with kind := .primitive 'C', accessFlags := 0x411 }
/-- [C -/
def k18 : Class := { plain "[C" (some 0) with kind := .array 17 .char, interfaces := #[14, 2], accessFlags := 1041 }

/-- the primitive int -/
def k19 : Class := { plain "int" none with kind := .primitive 'I', accessFlags := 0x411 }
/-- [I -/
def k20 : Class := { plain "[I" (some 0) with kind := .array 19 .int, interfaces := #[14, 2], accessFlags := 1041 }

def heap : Heap := #[{ cls := 7, slots := #[.long 0, .int 1, .null, .int 0, .null, .int 0, .int 0], vm := .statics 7 },
  { cls := 12, slots := #[.null, .null, .null], vm := .statics 12 }]
def classes : Array Class := #[k0, k1, k2, k3, k4, k5, k6, k7, k8, k9, k10, k11, k12, k13, k14, k15, k16, k17, k18, k19, k20]
def interned : List (Array UInt16 × Addr) := []
def slotsUsed : Nat := 10
def theMethod : MethodId := ⟨1, 1⟩
def args0 : Array Value := #[.int 5, .int 6, .int 7, .int 1, .int 2]
def aboutOver (below : List Frame) : State where
  vm := { classes := classes, interned := interned.toArray }
  heap := heap
  slotsUsed := slotsUsed
  threads := #[{ frames := .invoking theMethod args0 :: below }]
def below0 : List Frame := [.native { method := ⟨0, 0⟩, args := #[] }]
def about1 : State := aboutOver below0
def p0 : Program := .bare "" "" ""
def e0 : Env := launch0.env 0 0 0
theorem w_frames : about1.frames = Frame.invoking theMethod args0 :: below0 := rfl
set_option maxRecDepth 65536 in
theorem w_args : argsFit about1.vm theMethod args0 = true := by decide +kernel
set_option maxRecDepth 65536 in
theorem w_heap : heapFits about1 = true := by decide +kernel
set_option maxRecDepth 65536 in
theorem w_runnable : about1.curStatus? = some .runnable := by decide +kernel
set_option maxRecDepth 65536 in
theorem w_alone : about1.alone = true := by decide +kernel
set_option maxRecDepth 65536 in
theorem w_named : about1.methodNamed? x = some theMethod := by decide +kernel
set_option maxRecDepth 65536 in
theorem w_hears : about1.hears theMethod below0 = true := by decide +kernel
set_option maxRecDepth 65536 in
theorem w_ripe : about1.ripe theMethod args0 below0 = true := by decide +kernel
theorem w_running : about1.status = .running := rfl
set_option maxRecDepth 65536 in
theorem w_room : about1.hasRoom e0.platform room_1 = true :=
  launch0.hasRoom_least _ room_1 (by decide +kernel) (by decide +kernel) (by decide +kernel) (by decide +kernel) (by decide +kernel) (by decide +kernel)
theorem allAtoms_all (ts : List Jvm.Cond) (a : Array Jvm.Value) (st : Jvm.State) : (allAtoms ts).before a st = ts.all (fun c => c.before a st) := by
  induction ts with
  | nil => rfl
  | cons c t ih =>
    show (Jvm.Cond.and c (allAtoms t)).before a st = _
    rw [Jvm.Cond.before_and, ih, List.all_cons]
def words1 : List Jvm.Cond := Jvm.Cond.code x code maxLocals ret :: tables_1
/-- a 'code' word, met by the world's own term for the bytes: nothing is compared byte by byte -/
theorem code_word {y : MethodName} {bytes : ByteArray} {mx : Nat} {rt : Option FieldType} {a : Array Value} {s : State} {m : MethodId} {meth : Method} {c : Code} (h1 : s.methodNamed? y = some m) (h2 : s.vm.method? m = some meth) (h3 : meth.code = some c) (h4 : c.code = bytes)
    (h5 : (c.maxLocals == mx && c.exceptionTable.isEmpty && decide (c.maxStack ≤ mostOperands) && decide (meth.sig.returnType = rt) && !meth.locks && decide (parseMethodDescriptor y.desc = some meth.sig)) = true) : (Jvm.Cond.code y bytes mx rt).before a s = true := by
  simp only [Bool.and_eq_true, beq_iff_eq, Bool.not_eq_true', decide_eq_true_eq] at h5
  obtain ⟨⟨⟨⟨⟨g1, g2⟩, g3⟩, g4⟩, g5⟩, g6⟩ := h5
  simp [Cond.before, Cond.holds, Cond.value, h1, h2, h3, h4, g1, g2, g3, g4, g5, g6]
def isCode : Jvm.Cond → Bool
  | .code _ _ _ _ => true
  | _ => false
theorem all_split {L : List Jvm.Cond} {P : Jvm.Cond → Bool} (h1 : L.all (fun c => isCode c || P c) = true) (h2 : ∀ c ∈ L.filter isCode, P c = true) : L.all P = true := by
  refine List.all_eq_true.mpr fun c hc => ?_
  have h := List.all_eq_true.mp h1 c hc
  rcases Bool.eq_false_or_eq_true (isCode c) with hi | hi
  · exact h2 c (List.mem_filter.mpr ⟨hc, hi⟩)
  · simpa [hi] using h
set_option maxRecDepth 65536 in
theorem w_c0 : (Jvm.Cond.code x code maxLocals ret).before args0 about1 = true := code_word (m := ⟨1, 1⟩) (meth := k1m1) (c := k1c1) (by decide +kernel) rfl rfl rfl (by decide +kernel)
set_option maxRecDepth 65536 in
theorem w_c1 : (Jvm.Cond.code ({ cls := "java/lang/String", name := "<init>", desc := "([C)V" } : Jvm.MethodName) jdk_42_method_3_code (2 : Nat) (Option.none : Option Jvm.ClassFile.FieldType)).before args0 about1 = true := code_word (m := ⟨7, 1⟩) (meth := k7m1) (c := k7c1) (by decide +kernel) rfl rfl rfl (by decide +kernel)
set_option maxRecDepth 65536 in
theorem w_c2 : (Jvm.Cond.code ({ cls := "java/lang/String", name := "<init>", desc := "([CIILjava/lang/Void;)V" } : Jvm.MethodName) jdk_42_method_149_code (6 : Nat) (Option.none : Option Jvm.ClassFile.FieldType)).before args0 about1 = true := code_word (m := ⟨7, 3⟩) (meth := k7m3) (c := k7c3) (by decide +kernel) rfl rfl rfl (by decide +kernel)
set_option maxRecDepth 65536 in
theorem w_c3 : (Jvm.Cond.code ({ cls := "java/lang/Object", name := "<init>", desc := "()V" } : Jvm.MethodName) object_method_1_code (1 : Nat) (Option.none : Option Jvm.ClassFile.FieldType)).before args0 about1 = true := code_word (m := ⟨0, 0⟩) (meth := k0m0) (c := k0c0) (by decide +kernel) rfl rfl rfl (by decide +kernel)
set_option maxRecDepth 65536 in
theorem w_c4 : (Jvm.Cond.code ({ cls := "java/lang/StringUTF16", name := "compress", desc := "([CII)[B" } : Jvm.MethodName) jdk_52_method_16_code (6 : Nat) (Option.some (Jvm.ClassFile.FieldType.array Jvm.ClassFile.FieldType.byte))).before args0 about1 = true := code_word (m := ⟨8, 2⟩) (meth := k8m2) (c := k8c2) (by decide +kernel) rfl rfl rfl (by decide +kernel)
set_option maxRecDepth 65536 in
theorem w_c5 : (Jvm.Cond.code ({ cls := "java/lang/StringUTF16", name := "compress", desc := "([CI[BII)I" } : Jvm.MethodName) jdk_52_method_21_code (7 : Nat) (Option.some Jvm.ClassFile.FieldType.int)).before args0 about1 = true := code_word (m := ⟨8, 3⟩) (meth := k8m3) (c := k8c3) (by decide +kernel) rfl rfl rfl (by decide +kernel)
set_option maxRecDepth 65536 in
theorem w_c6 : (Jvm.Cond.code ({ cls := "java/lang/StringUTF16", name := "coderFromArrayLen", desc := "([BI)B" } : Jvm.MethodName) jdk_52_method_15_code (2 : Nat) (Option.some Jvm.ClassFile.FieldType.byte)).before args0 about1 = true := code_word (m := ⟨8, 1⟩) (meth := k8m1) (c := k8c1) (by decide +kernel) rfl rfl rfl (by decide +kernel)
set_option maxRecDepth 65536 in
theorem w_c7 : (Jvm.Cond.code ({ cls := "com/example/topping_out/toppingout/game/Player", name := "<init>", desc := "(Ljava/lang/String;ZII)V" } : Jvm.MethodName) prog_6_method_1_code (5 : Nat) (Option.none : Option Jvm.ClassFile.FieldType)).before args0 about1 = true := code_word (m := ⟨10, 0⟩) (meth := k10m0) (c := k10c0) (by decide +kernel) rfl rfl rfl (by decide +kernel)
set_option maxRecDepth 65536 in
theorem w_c8 : (Jvm.Cond.code ({ cls := "java/lang/Record", name := "<init>", desc := "()V" } : Jvm.MethodName) jdk_30_method_1_code (1 : Nat) (Option.none : Option Jvm.ClassFile.FieldType)).before args0 about1 = true := code_word (m := ⟨9, 0⟩) (meth := k9m0) (c := k9c0) (by decide +kernel) rfl rfl rfl (by decide +kernel)
set_option maxRecDepth 65536 in
theorem w_c9 : (Jvm.Cond.code ({ cls := "com/example/topping_out/toppingout/game/Player", name := "lessACertificate", desc := "()Lcom/example/topping_out/toppingout/game/Player;" } : Jvm.MethodName) prog_6_method_3_code (1 : Nat) (Option.some (Jvm.ClassFile.FieldType.object "com/example/topping_out/toppingout/game/Player"))).before args0 about1 = true := code_word (m := ⟨10, 1⟩) (meth := k10m1) (c := k10c1) (by decide +kernel) rfl rfl rfl (by decide +kernel)
set_option maxRecDepth 65536 in
theorem w_c10 : (Jvm.Cond.code ({ cls := "com/example/topping_out/toppingout/game/Player", name := "name", desc := "()Ljava/lang/String;" } : Jvm.MethodName) prog_6_method_10_code (1 : Nat) (Option.some (Jvm.ClassFile.FieldType.object "java/lang/String"))).before args0 about1 = true := code_word (m := ⟨10, 3⟩) (meth := k10m3) (c := k10c3) (by decide +kernel) rfl rfl rfl (by decide +kernel)
set_option maxRecDepth 65536 in
theorem w_c11 : (Jvm.Cond.code ({ cls := "java/lang/String", name := "equals", desc := "(Ljava/lang/Object;)Z" } : Jvm.MethodName) jdk_42_method_66_code (3 : Nat) (Option.some Jvm.ClassFile.FieldType.boolean)).before args0 about1 = true := code_word (m := ⟨7, 2⟩) (meth := k7m2) (c := k7c2) (by decide +kernel) rfl rfl rfl (by decide +kernel)
set_option maxRecDepth 65536 in
theorem w_c12 : (Jvm.Cond.code ({ cls := "com/example/topping_out/toppingout/game/Player", name := "expert", desc := "()Z" } : Jvm.MethodName) prog_6_method_11_code (1 : Nat) (Option.some Jvm.ClassFile.FieldType.boolean)).before args0 about1 = true := code_word (m := ⟨10, 4⟩) (meth := k10m4) (c := k10c4) (by decide +kernel) rfl rfl rfl (by decide +kernel)
set_option maxRecDepth 65536 in
theorem w_c13 : (Jvm.Cond.code ({ cls := "com/example/topping_out/toppingout/game/Player", name := "certificates", desc := "()I" } : Jvm.MethodName) prog_6_method_12_code (1 : Nat) (Option.some Jvm.ClassFile.FieldType.int)).before args0 about1 = true := code_word (m := ⟨10, 5⟩) (meth := k10m5) (c := k10c5) (by decide +kernel) rfl rfl rfl (by decide +kernel)
set_option maxRecDepth 65536 in
theorem w_c14 : (Jvm.Cond.code ({ cls := "com/example/topping_out/toppingout/game/Player", name := "awards", desc := "()I" } : Jvm.MethodName) prog_6_method_13_code (1 : Nat) (Option.some Jvm.ClassFile.FieldType.int)).before args0 about1 = true := code_word (m := ⟨10, 6⟩) (meth := k10m6) (c := k10c6) (by decide +kernel) rfl rfl rfl (by decide +kernel)
set_option maxRecDepth 65536 in
theorem w_c15 : (Jvm.Cond.code ({ cls := "com/example/topping_out/toppingout/game/Player", name := "out", desc := "()Z" } : Jvm.MethodName) prog_6_method_5_code (1 : Nat) (Option.some Jvm.ClassFile.FieldType.boolean)).before args0 about1 = true := code_word (m := ⟨10, 2⟩) (meth := k10m2) (c := k10c2) (by decide +kernel) rfl rfl rfl (by decide +kernel)
def codes1 : List Jvm.Cond := [Jvm.Cond.code x code maxLocals ret, Jvm.Cond.code ({ cls := "java/lang/String", name := "<init>", desc := "([C)V" } : Jvm.MethodName) jdk_42_method_3_code (2 : Nat) (Option.none : Option Jvm.ClassFile.FieldType), Jvm.Cond.code ({ cls := "java/lang/String", name := "<init>", desc := "([CIILjava/lang/Void;)V" } : Jvm.MethodName) jdk_42_method_149_code (6 : Nat) (Option.none : Option Jvm.ClassFile.FieldType), Jvm.Cond.code ({ cls := "java/lang/Object", name := "<init>", desc := "()V" } : Jvm.MethodName) object_method_1_code (1 : Nat) (Option.none : Option Jvm.ClassFile.FieldType), Jvm.Cond.code ({ cls := "java/lang/StringUTF16", name := "compress", desc := "([CII)[B" } : Jvm.MethodName) jdk_52_method_16_code (6 : Nat) (Option.some (Jvm.ClassFile.FieldType.array Jvm.ClassFile.FieldType.byte)), Jvm.Cond.code ({ cls := "java/lang/StringUTF16", name := "compress", desc := "([CI[BII)I" } : Jvm.MethodName) jdk_52_method_21_code (7 : Nat) (Option.some Jvm.ClassFile.FieldType.int), Jvm.Cond.code ({ cls := "java/lang/StringUTF16", name := "coderFromArrayLen", desc := "([BI)B" } : Jvm.MethodName) jdk_52_method_15_code (2 : Nat) (Option.some Jvm.ClassFile.FieldType.byte), Jvm.Cond.code ({ cls := "com/example/topping_out/toppingout/game/Player", name := "<init>", desc := "(Ljava/lang/String;ZII)V" } : Jvm.MethodName) prog_6_method_1_code (5 : Nat) (Option.none : Option Jvm.ClassFile.FieldType), Jvm.Cond.code ({ cls := "java/lang/Record", name := "<init>", desc := "()V" } : Jvm.MethodName) jdk_30_method_1_code (1 : Nat) (Option.none : Option Jvm.ClassFile.FieldType), Jvm.Cond.code ({ cls := "com/example/topping_out/toppingout/game/Player", name := "lessACertificate", desc := "()Lcom/example/topping_out/toppingout/game/Player;" } : Jvm.MethodName) prog_6_method_3_code (1 : Nat) (Option.some (Jvm.ClassFile.FieldType.object "com/example/topping_out/toppingout/game/Player")), Jvm.Cond.code ({ cls := "com/example/topping_out/toppingout/game/Player", name := "name", desc := "()Ljava/lang/String;" } : Jvm.MethodName) prog_6_method_10_code (1 : Nat) (Option.some (Jvm.ClassFile.FieldType.object "java/lang/String")), Jvm.Cond.code ({ cls := "java/lang/String", name := "equals", desc := "(Ljava/lang/Object;)Z" } : Jvm.MethodName) jdk_42_method_66_code (3 : Nat) (Option.some Jvm.ClassFile.FieldType.boolean), Jvm.Cond.code ({ cls := "com/example/topping_out/toppingout/game/Player", name := "expert", desc := "()Z" } : Jvm.MethodName) prog_6_method_11_code (1 : Nat) (Option.some Jvm.ClassFile.FieldType.boolean), Jvm.Cond.code ({ cls := "com/example/topping_out/toppingout/game/Player", name := "certificates", desc := "()I" } : Jvm.MethodName) prog_6_method_12_code (1 : Nat) (Option.some Jvm.ClassFile.FieldType.int), Jvm.Cond.code ({ cls := "com/example/topping_out/toppingout/game/Player", name := "awards", desc := "()I" } : Jvm.MethodName) prog_6_method_13_code (1 : Nat) (Option.some Jvm.ClassFile.FieldType.int), Jvm.Cond.code ({ cls := "com/example/topping_out/toppingout/game/Player", name := "out", desc := "()Z" } : Jvm.MethodName) prog_6_method_5_code (1 : Nat) (Option.some Jvm.ClassFile.FieldType.boolean)]
set_option maxRecDepth 65536 in
theorem codes_eq : words1.filter isCode = codes1 := rfl
theorem w_codes : ∀ c ∈ words1.filter isCode, c.before args0 about1 = true := by
  rw [codes_eq]
  intro c hc
  simp only [codes1, List.mem_cons, List.not_mem_nil, or_false] at hc
  rcases hc with rfl | rfl | rfl | rfl | rfl | rfl | rfl | rfl | rfl | rfl | rfl | rfl | rfl | rfl | rfl | rfl
  · exact w_c0
  · exact w_c1
  · exact w_c2
  · exact w_c3
  · exact w_c4
  · exact w_c5
  · exact w_c6
  · exact w_c7
  · exact w_c8
  · exact w_c9
  · exact w_c10
  · exact w_c11
  · exact w_c12
  · exact w_c13
  · exact w_c14
  · exact w_c15
set_option maxRecDepth 65536 in
theorem w_t1 : (words1.take 24).all (fun c => isCode c || c.before args0 about1) = true := by decide +kernel
set_option maxRecDepth 65536 in
theorem w_t2 : ((words1.drop 24).take 24).all (fun c => isCode c || c.before args0 about1) = true := by decide +kernel
set_option maxRecDepth 65536 in
theorem w_t3 : (((words1.drop 24).drop 24).take 24).all (fun c => isCode c || c.before args0 about1) = true := by decide +kernel
set_option maxRecDepth 65536 in
theorem w_t4 : (((words1.drop 24).drop 24).drop 24).all (fun c => isCode c || c.before args0 about1) = true := by decide +kernel
theorem w_tables : (allAtoms (Jvm.Cond.code x code maxLocals ret :: tables_1)).before args0 about1 = true := by
  rw [allAtoms_all]
  show words1.all (fun c => c.before args0 about1) = true
  refine all_split ?_ w_codes
  rw [← List.take_append_drop 24 words1, List.all_append, w_t1, ← List.take_append_drop 24 (words1.drop 24), List.all_append, w_t2, ← List.take_append_drop 24 ((words1.drop 24).drop 24), List.all_append, w_t3, w_t4]
  rfl
set_option maxRecDepth 65536 in
theorem w_rest : rest_1_c.before args0 about1 = true := by decide +kernel
set_option maxRecDepth 65536 in
theorem w_case : (Jvm.Cond.and given_1 narrow_1).before args0 about1 = true := by decide +kernel
theorem w_applies : (headSpec (Jvm.Cond.code x code maxLocals ret :: tables_1) room_1).applies x e0.platform about1 = true :=
  (Spec.applies_iff w_frames).mpr ⟨w_running, w_runnable, w_alone, w_named, w_hears, w_ripe, w_room, w_tables⟩
theorem atStart : AtStart classFile x code maxLocals ret World_1 tables_1 room_1 Calls_1 rest_1 Pre_1 launch0 p0 e0 about1 theMethod args0 below0 :=
  ⟨lists_1, trivial, launch0.admits_env _ _ _, launch0.least_env, fairChoices_fair.cas, fairChoices_fair.clock, w_frames, w_args, w_heap, w_applies, trivial, w_rest, w_case⟩
end start1
theorem witness_1 : WitnessClaimed_1 := ⟨start1.p0, start1.e0, start1.about1, start1.theMethod, start1.args0, start1.below0, start1.atStart⟩
end Jvm.Pilot.@@N@@
