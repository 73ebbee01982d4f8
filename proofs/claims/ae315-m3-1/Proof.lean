import JvmDerived
import JvmDerived.Pilot.@@N@@Statement
import JvmDerived.Pilot.@@N@@Code
set_option linter.unusedVariables false
set_option linter.unusedSimpArgs false
/- laws to paste: Road.backV (cut by pick.py; bodies as the Statement names them) -/
namespace Jvm.Pilot.@@N@@
namespace StrChars
open Jvm Sem ClassFile Op Lib Jvm.Stand Jvm.Free.XT Jvm.Free.ALB Jvm.Free.JM Jvm.Free
open Jvm.Lib.Cold (StaticIs)
/-- a char array whose places are chars -/
def Ch (a : Addr) (A : Cell) (U : State) : Prop := Arr .char a A U ∧ Typed .char A
theorem Ch.mv {a : Addr} {A : Cell} {U U' : State} (h : Ch a A U) (hal : U.vm.Alike U'.vm) (hh : U'.heap = U.heap) : Ch a A U' := ⟨h.1.mv hal hh, h.2⟩
theorem Ch.keep {a : Addr} {A : Cell} {U U' : State} (h : Ch a A U) (hal : U.vm.Alike U'.vm) (hk : U'.heap[a]? = some A) : Ch a A U' := ⟨h.1.keep hal hk, h.2⟩
/-- what place i of a char[]'s cell holds -/
def cv (A : Cell) (i : Nat) : Int32 := match A.slots[i]? with | some (.int x) => x | _ => 0
theorem Ch.get {a : Addr} {A : Cell} {U : State} (h : Ch a A U) {i : Nat} (hi : i < A.slots.size) : A.slots[i]? = some (.int (cv A i)) := by
  have e := Array.getElem?_eq_getElem hi
  have f := h.2 i _ e
  unfold cv; rw [e]
  generalize A.slots[i] = v at f
  cases v <;> simp [fits] at f ⊢
/-- the byte that i2b leaves of a char -/
def lo8 (x : Int32) : Int32 := x.toInt8.toInt32
theorem fits_lo8 (y : Int32) : fits .byte (.int (lo8 y)) = true := by
  have h1 := y.toInt8.le_toInt
  have h2 := y.toInt8.toInt_lt
  simp only [lo8, fits, Bool.and_eq_true, decide_eq_true_eq, Int32.le_iff_toInt_le, Int8.toInt_toInt32, show (-128 : Int32).toInt = -128 from by decide, show (127 : Int32).toInt = 127 from by decide]
  omega
/-- A' is A but that each place j of lo .. hi - 1 holds f j -/
def Laid (A A' : Cell) (lo hi : Nat) (f : Nat → Value) : Prop := A'.cls = A.cls ∧ A'.vm = A.vm ∧ A'.slots.size = A.slots.size ∧ ∀ i, A'.slots[i]? = if lo ≤ i ∧ i < hi then some (f i) else A.slots[i]?
theorem Laid.zero (A : Cell) (lo : Nat) (f : Nat → Value) : Laid A A lo (lo + 0) f := ⟨rfl, rfl, rfl, fun i => by rw [if_neg (by omega)]⟩
theorem Laid.step {A Ak : Cell} {lo k : Nat} {f : Nat → Value} {v : Value} (h : Laid A Ak lo k f) (hlo : lo ≤ k) (hk : k < Ak.slots.size) (hv : v = f k) : Laid A (Ak.setSlot k v) lo (k + 1) f := by
  refine ⟨h.1, h.2.1, by simpa [Cell.setSlot] using h.2.2.1, fun i => ?_⟩
  by_cases e : k = i
  · subst e; rw [Cell.slots_setSlot_self v hk, if_pos (by omega), hv]
  · rw [Cell.slots_setSlot_ne v e, h.2.2.2 i]
    by_cases q : lo ≤ i ∧ i < k
    · rw [if_pos q, if_pos (by omega)]
    · rw [if_neg q, if_neg (by omega)]
def U16 : String := "java/lang/StringUTF16"
namespace Cmp5
def yN : MethodName := ⟨"java/lang/StringUTF16", "compress", "([CI[BII)I"⟩
abbrev yB : ByteArray := jdk_52_method_21_code
theorem d0 : decode yB 0 = .ok (.iconst 0, 1) := by decide +kernel
theorem d1 : decode yB 1 = .ok (.istore 5, 2) := by decide +kernel
theorem d3 : decode yB 3 = .ok (.iload 5, 2) := by decide +kernel
theorem d5 : decode yB 5 = .ok (.iload 4, 2) := by decide +kernel
theorem d7 : decode yB 7 = .ok (.if_icmp (.ge) 37, 3) := by decide +kernel
theorem d10 : decode yB 10 = .ok (.aload_n 0, 1) := by decide +kernel
theorem d11 : decode yB 11 = .ok (.iload_n 1, 1) := by decide +kernel
theorem d12 : decode yB 12 = .ok (.caload, 1) := by decide +kernel
theorem d13 : decode yB 13 = .ok (.istore 6, 2) := by decide +kernel
theorem d15 : decode yB 15 = .ok (.iload 6, 2) := by decide +kernel
theorem d17 : decode yB 17 = .ok (.sipush 255, 3) := by decide +kernel
theorem d20 : decode yB 20 = .ok (.if_icmp (.le) 6, 3) := by decide +kernel
theorem d26 : decode yB 26 = .ok (.aload_n 2, 1) := by decide +kernel
theorem d27 : decode yB 27 = .ok (.iload_n 3, 1) := by decide +kernel
theorem d28 : decode yB 28 = .ok (.iload 6, 2) := by decide +kernel
theorem d30 : decode yB 30 = .ok (.i2b, 1) := by decide +kernel
theorem d31 : decode yB 31 = .ok (.bastore, 1) := by decide +kernel
theorem d32 : decode yB 32 = .ok (.iinc 1 1, 3) := by decide +kernel
theorem d35 : decode yB 35 = .ok (.iinc 3 1, 3) := by decide +kernel
theorem d38 : decode yB 38 = .ok (.iinc 5 1, 3) := by decide +kernel
theorem d41 : decode yB 41 = .ok (.goto (-38), 3) := by decide +kernel
theorem d44 : decode yB 44 = .ok (.iload 4, 2) := by decide +kernel
theorem d46 : decode yB 46 = .ok (.ireturn, 1) := by decide +kernel
def site : List Cond := []
def tab : Cond := tabOf yN yB 7 (some .int) site
def P (b : Addr) (A : Cell) (d : Addr) (B : Cell) (o q len : Nat) (args : Array Value) (s : State) : Prop := args = #[.ref b, .int (Int32.ofNat o), .ref d, .int (Int32.ofNat q), .int (Int32.ofNat len)] ∧ Ch b A s ∧ Arr .byte d B s ∧ b ≠ d ∧ o + len ≤ A.slots.size ∧ q + len ≤ B.slots.size ∧ ∀ i, i < len → ¬ 255 < cv A (o + i)
def E (b : Addr) (A : Cell) (d : Addr) (B : Cell) (o q len : Nat) (r : Option Value) (s u : State) : Prop := r = some (.int (Int32.ofNat len)) ∧ ∃ B', Put d B' s u ∧ Laid B B' q (q + len) (fun j => Value.int (lo8 (cv A (o + (j - q)))))
/-- no char of the range above 255: len; the places written hold each char's low byte -/
theorem law (l : Launch) (b : Addr) (A : Cell) (d : Addr) (B : Cell) (o q len : Nat) : Law l yN 5 5 0 0 yB 7 (some .int) site (P b A d B o q len) (E b A d B o q len) (copyLocs d q len) 0 0 := by
  refine Law.of_walk (plainFor_of_name (by decide +kernel)) (by decide +kernel) (by decide +kernel) (by decide) (fun _ _ h => by rw [h.1]; rfl) (fun _ U U' hal hh h => ⟨h.1, h.2.1.mv hal hh, h.2.2.1.mv hal hh, h.2.2.2⟩) (fun r U U' V V' h1 hal h2 h => ⟨h.1, h.2.elim fun B' q => ⟨B', q.1.mv h1 h2, q.2⟩⟩) ?_
  intro p e s m args below meth c s₁ X0 hexec hbytes hml hret hlk hnm hown hh0 W hP
  obtain ⟨rfl, hA, hB, hne, l1, l2, hp⟩ := hP
  have c1 : Steps p.tables e below (s₁.setTop (entryFrame m #[.ref b, .int (Int32.ofNat o), .ref d, .int (Int32.ofNat q), .int (Int32.ofNat len)] 7)) (s₁.setTop (mkF m 0 #[.val (.ref b), .val (.int (Int32.ofNat o)), .val (.ref d), .val (.int (Int32.ofNat q)), .val (.int (Int32.ofNat len)), .unset, .unset] [])) := entry rfl
  have hA0 := hA.1.mv X0.warmed.alike hh0
  have hB0 := hB.mv X0.warmed.alike hh0
  have a31 := hA.1.2.2.2
  have c2 : Steps p.tables e below (s₁.setTop (entryFrame m #[.ref b, .int (Int32.ofNat o), .ref d, .int (Int32.ofNat q), .int (Int32.ofNat len)] 7)) (s₁.setTop (mkF m 3 #[.val (.ref b), .val (.int (Int32.ofNat o)), .val (.ref d), .val (.int (Int32.ofNat q)), .val (.int (Int32.ofNat len)), .val (.int 0), .unset] [])) := c1.trans (by
    refine iconstV X0.here hexec rfl 0 (hb hbytes d0) (by decide) ?_
    refine XS.istore X0.here hexec rfl (hb hbytes d1) rfl rfl ?_
    exact Steps.refl _)
  have loop : ∀ (r i : Nat), i + r = len → ∀ (z : Slot), (z = .unset ∨ ∃ w, z = .val w ∧ w.category = 1) → ∀ (Tl : State) (Bk : Cell), Stand p l e { frames := 0, locals := 0, cells := 0, slots := 0 } s m #[.ref b, .int (Int32.ofNat o), .ref d, .int (Int32.ofNat q), .int (Int32.ofNat len)] below meth c Tl ([] ++ copyLocs d q i) 0 0 → Put d Bk s₁ Tl → Laid B Bk q (q + i) (fun j => Value.int (lo8 (cv A (o + (j - q))))) →
      Steps p.tables e below (s₁.setTop (entryFrame m #[.ref b, .int (Int32.ofNat o), .ref d, .int (Int32.ofNat q), .int (Int32.ofNat len)] 7)) (Tl.setTop (mkF m 3 #[.val (.ref b), .val (.int (Int32.ofNat (o + i))), .val (.ref d), .val (.int (Int32.ofNat (q + i))), .val (.int (Int32.ofNat len)), .val (.int (Int32.ofNat i)), z] [])) → ∃ (T' : State) (B' : Cell) (z' : Slot), Stand p l e { frames := 0, locals := 0, cells := 0, slots := 0 } s m #[.ref b, .int (Int32.ofNat o), .ref d, .int (Int32.ofNat q), .int (Int32.ofNat len)] below meth c T' ([] ++ copyLocs d q len) 0 0 ∧ Put d B' s₁ T' ∧ Laid B B' q (q + len) (fun j => Value.int (lo8 (cv A (o + (j - q))))) ∧
      Steps p.tables e below (s₁.setTop (entryFrame m #[.ref b, .int (Int32.ofNat o), .ref d, .int (Int32.ofNat q), .int (Int32.ofNat len)] 7)) (T'.setTop (mkF m 3 #[.val (.ref b), .val (.int (Int32.ofNat (o + len))), .val (.ref d), .val (.int (Int32.ofNat (q + len))), .val (.int (Int32.ofNat len)), .val (.int (Int32.ofNat len)), z'] [])) := by
    intro r
    induction r with
    | zero =>
      intro i hi z hz Tl Bk Xl pl fl cl
      have hil : i = len := by omega
      rw [hil] at Xl fl cl
      exact ⟨Tl, Bk, z, Xl, pl, fl, cl⟩
    | succ r ih =>
      intro i hi z hz Tl Bk Xl pl fl cl
      have all := X0.warmed.alike.symm.trans Xl.warmed.alike
      have hAl := hA0.keep all (pl.other hne hA0.1)
      have hBk := hB0.like all pl.1 fl.1 fl.2.1 fl.2.2.1
      have hlt : q + i < Bk.slots.size := by rw [fl.2.2.1]; omega
      have c3 : Steps p.tables e below (s₁.setTop (entryFrame m #[.ref b, .int (Int32.ofNat o), .ref d, .int (Int32.ofNat q), .int (Int32.ofNat len)] 7)) (Tl.setTop (mkF m 12 #[.val (.ref b), .val (.int (Int32.ofNat (o + i))), .val (.ref d), .val (.int (Int32.ofNat (q + i))), .val (.int (Int32.ofNat len)), .val (.int (Int32.ofNat i)), z] [.int (Int32.ofNat (o + i)), .ref b])) := cl.trans (by
        refine XS.iload Xl.here hexec rfl (hb hbytes d3) rfl ?_
        refine XS.iload Xl.here hexec rfl (hb hbytes d5) rfl ?_
        refine XS.icmpNo Xl.here hexec rfl (hb hbytes d7) rfl (ii_ge_f (lt32 (by omega) (by omega))) ?_
        refine XS.aloadN Xl.here hexec rfl (hb hbytes d10) rfl rfl ?_
        refine XS.iloadN Xl.here hexec rfl (hb hbytes d11) rfl ?_
        exact Steps.refl _)
      have c4 : Steps p.tables e below (s₁.setTop (entryFrame m #[.ref b, .int (Int32.ofNat o), .ref d, .int (Int32.ofNat q), .int (Int32.ofNat len)] 7)) (Tl.setTop (mkF m 13 #[.val (.ref b), .val (.int (Int32.ofNat (o + i))), .val (.ref d), .val (.int (Int32.ofNat (q + i))), .val (.int (Int32.ofNat len)), .val (.int (Int32.ofNat i)), z] [.int (cv A (o + i))])) := c3.trans (by
        refine Xl.aget hexec hAl rfl (hA.get (i := o + i) (by omega)) rfl rfl (hb hbytes d12) ?_
        exact Steps.refl _)
      have c5 : Steps p.tables e below (s₁.setTop (entryFrame m #[.ref b, .int (Int32.ofNat o), .ref d, .int (Int32.ofNat q), .int (Int32.ofNat len)] 7)) (Tl.setTop (mkF m 15 #[.val (.ref b), .val (.int (Int32.ofNat (o + i))), .val (.ref d), .val (.int (Int32.ofNat (q + i))), .val (.int (Int32.ofNat len)), .val (.int (Int32.ofNat i)), .val (.int (cv A (o + i)))] [])) := c4.trans (by
        refine XS.istoreS Xl.here hexec rfl (hb hbytes d13) rfl rfl hz ?_
        exact Steps.refl _)
      have c6 : Steps p.tables e below (s₁.setTop (entryFrame m #[.ref b, .int (Int32.ofNat o), .ref d, .int (Int32.ofNat q), .int (Int32.ofNat len)] 7)) (Tl.setTop (mkF m 31 #[.val (.ref b), .val (.int (Int32.ofNat (o + i))), .val (.ref d), .val (.int (Int32.ofNat (q + i))), .val (.int (Int32.ofNat len)), .val (.int (Int32.ofNat i)), .val (.int (cv A (o + i)))] [.int (lo8 (cv A (o + i))), .int (Int32.ofNat (q + i)), .ref d])) := c5.trans (by
        refine XS.iload Xl.here hexec rfl (hb hbytes d15) rfl ?_
        refine sipushV Xl.here hexec rfl 255 (hb hbytes d17) (by decide) ?_
        refine XS.icmpYes Xl.here hexec rfl (pc0 := 20) rfl (hb hbytes d20) rfl (ii_le_t (hp i (by omega))) (by decide) rfl ?_
        refine XS.aloadN Xl.here hexec rfl (hb hbytes d26) rfl rfl ?_
        refine XS.iloadN Xl.here hexec rfl (hb hbytes d27) rfl ?_
        refine XS.iload Xl.here hexec rfl (hb hbytes d28) rfl ?_
        refine i2b Xl.here hexec rfl (hb hbytes d30) rfl ?_
        exact Steps.refl _)
      obtain ⟨T7, X7, p7, st7⟩ := Xl.aput hexec hBk rfl hlt rfl (fits_lo8 (cv A (o + i))) (g := (mkF m 31 #[.val (.ref b), .val (.int (Int32.ofNat (o + i))), .val (.ref d), .val (.int (Int32.ofNat (q + i))), .val (.int (Int32.ofNat len)), .val (.int (Int32.ofNat i)), .val (.int (cv A (o + i)))] [.int (lo8 (cv A (o + i))), .int (Int32.ofNat (q + i)), .ref d])) rfl (rest := []) rfl (hb hbytes d31)
      have c8 : Steps p.tables e below (s₁.setTop (entryFrame m #[.ref b, .int (Int32.ofNat o), .ref d, .int (Int32.ofNat q), .int (Int32.ofNat len)] 7)) (T7.setTop (mkF m 32 #[.val (.ref b), .val (.int (Int32.ofNat (o + i))), .val (.ref d), .val (.int (Int32.ofNat (q + i))), .val (.int (Int32.ofNat len)), .val (.int (Int32.ofNat i)), .val (.int (cv A (o + i)))] [])) := c6.trans (st7 _ (Steps.refl _))
      have c9 : Steps p.tables e below (s₁.setTop (entryFrame m #[.ref b, .int (Int32.ofNat o), .ref d, .int (Int32.ofNat q), .int (Int32.ofNat len)] 7)) (T7.setTop (mkF m 3 #[.val (.ref b), .val (.int (Int32.ofNat (o + i) + 1)), .val (.ref d), .val (.int (Int32.ofNat (q + i) + 1)), .val (.int (Int32.ofNat len)), .val (.int (Int32.ofNat i + 1)), .val (.int (cv A (o + i)))] [])) := c8.trans (by
        refine iincV X7.here hexec rfl 1 (hb hbytes d32) (by decide) rfl rfl ?_
        refine iincV X7.here hexec rfl 1 (hb hbytes d35) (by decide) rfl rfl ?_
        refine iincV X7.here hexec rfl 1 (hb hbytes d38) (by decide) rfl rfl ?_
        refine XS.goto X7.here hexec rfl (pc0 := 41) rfl (hb hbytes d41) (by decide) rfl ?_
        exact Steps.refl _)
      have c10 : Steps p.tables e below (s₁.setTop (entryFrame m #[.ref b, .int (Int32.ofNat o), .ref d, .int (Int32.ofNat q), .int (Int32.ofNat len)] 7)) (T7.setTop (mkF m 3 #[.val (.ref b), .val (.int (Int32.ofNat (o + (i + 1)))), .val (.ref d), .val (.int (Int32.ofNat (q + (i + 1)))), .val (.int (Int32.ofNat len)), .val (.int (Int32.ofNat (i + 1))), .val (.int (cv A (o + i)))] [])) := by
        have := c9
        rw [succ32, succ32, succ32] at this
        exact this
      exact ih (i + 1) (by omega) _ (Or.inr ⟨_, rfl, rfl⟩) T7 _ (by rw [copyLocs_step, ← List.append_assoc]; exact X7) (pl.trans p7) (fl.step (by omega) hlt (by simp)) c10
  obtain ⟨T9, B9, z9, X9, p9, f9, g9⟩ := loop len 0 (by omega) .unset (Or.inl rfl) s₁ B (by simpa [copyLocs] using X0) ⟨hB0.1, fun _ _ => rfl, rfl⟩ (Laid.zero _ _ _) c2
  have c11 : Steps p.tables e below (s₁.setTop (entryFrame m #[.ref b, .int (Int32.ofNat o), .ref d, .int (Int32.ofNat q), .int (Int32.ofNat len)] 7)) (T9.setTop (mkF m 46 #[.val (.ref b), .val (.int (Int32.ofNat (o + len))), .val (.ref d), .val (.int (Int32.ofNat (q + len))), .val (.int (Int32.ofNat len)), .val (.int (Int32.ofNat len)), z9] [.int (Int32.ofNat len)])) := g9.trans (by
    refine XS.iload X9.here hexec rfl (hb hbytes d3) rfl ?_
    refine XS.iload X9.here hexec rfl (hb hbytes d5) rfl ?_
    refine XS.icmpYes X9.here hexec rfl (pc0 := 7) rfl (hb hbytes d7) rfl (ii_ge_t (nlt32 (by omega) (Nat.le_refl _))) (by decide) rfl ?_
    refine XS.iload X9.here hexec rfl (hb hbytes d44) rfl ?_
    exact Steps.refl _)
  exact ⟨T9, some (.int (Int32.ofNat len)), _, _, _, X9, by simp, rfl, rfl, (fun h => by cases h), ⟨rfl, B9, p9.from hh0, f9⟩, fun fs hl => c11.trans (X9.ireturnOut hexec hret rfl (Or.inl rfl) (hb hbytes d46) hl)⟩
end Cmp5
namespace Cmp3
def yN : MethodName := ⟨"java/lang/StringUTF16", "compress", "([CII)[B"⟩
abbrev yB : ByteArray := jdk_52_method_16_code
theorem d0 : decode yB 0 = .ok (.iload_n 2, 1) := by decide +kernel
theorem d1 : decode yB 1 = .ok (.newarray .byte, 2) := by decide +kernel
theorem d3 : decode yB 3 = .ok (.astore_n 3, 1) := by decide +kernel
theorem d4 : decode yB 4 = .ok (.aload_n 0, 1) := by decide +kernel
theorem d5 : decode yB 5 = .ok (.iload_n 1, 1) := by decide +kernel
theorem d6 : decode yB 6 = .ok (.aload_n 3, 1) := by decide +kernel
theorem d7 : decode yB 7 = .ok (.iconst 0, 1) := by decide +kernel
theorem d8 : decode yB 8 = .ok (.iload_n 2, 1) := by decide +kernel
theorem d9 : decode yB 9 = .ok (.invokestatic 115, 3) := by decide +kernel
theorem d12 : decode yB 12 = .ok (.istore 4, 2) := by decide +kernel
theorem d14 : decode yB 14 = .ok (.iload 4, 2) := by decide +kernel
theorem d16 : decode yB 16 = .ok (.iload_n 2, 1) := by decide +kernel
theorem d17 : decode yB 17 = .ok (.if_icmp (.eq) 40, 3) := by decide +kernel
theorem d57 : decode yB 57 = .ok (.aload_n 3, 1) := by decide +kernel
theorem d58 : decode yB 58 = .ok (.areturn, 1) := by decide +kernel
def site : List Cond := [.arrayClass .byte, Cmp5.tab] ++ staticW U16 115 Cmp5.yN
def tab : Cond := tabOf yN yB 6 (some (.array .byte)) site
def P (b : Addr) (A : Cell) (o len : Nat) (args : Array Value) (s : State) : Prop := args = #[.ref b, .int (Int32.ofNat o), .int (Int32.ofNat len)] ∧ Ch b A s ∧ o + len ≤ A.slots.size ∧ len ≤ 536870912 ∧ ∀ i, i < len → ¬ 255 < cv A (o + i)
def E (b : Addr) (A : Cell) (o len : Nat) (r : Option Value) (s u : State) : Prop := NewArr .byte "[B" len (fun j => .int (lo8 (cv A (o + j)))) r s u ∧ u.heap.size = s.heap.size + 1
/-- no char of the range above 255: a new byte[] of their low bytes -/
theorem law (l : Launch) (b : Addr) (A : Cell) (o len : Nat) : Law l yN 3 3 1 18 yB 6 (some (.array .byte)) site (P b A o len) (E b A o len) [] 1 len := by
  refine Law.of_walk (plainFor_of_name (by decide +kernel)) (by decide +kernel) (by decide +kernel) (by decide) (fun _ _ h => by rw [h.1]; rfl) (fun _ U U' hal hh h => ⟨h.1, h.2.1.mv hal hh, h.2.2⟩) (fun r U U' V V' h1 hal h2 h => ⟨NewArr.mv r U U' V V' h1 hal h2 h.1, by rw [h1, h2]; exact h.2⟩) ?_
  intro p e s m args below meth c s₁ X0 hexec hbytes hml hret hlk hnm hown hh0 W hP
  obtain ⟨rfl, hA, l1, l2, hp⟩ := hP
  have a31 := hA.1.2.2.2
  have c1 : Steps p.tables e below (s₁.setTop (entryFrame m #[.ref b, .int (Int32.ofNat o), .int (Int32.ofNat len)] 6)) (s₁.setTop (mkF m 0 #[.val (.ref b), .val (.int (Int32.ofNat o)), .val (.int (Int32.ofNat len)), .unset, .unset, .unset] [])) := entry rfl
  have c2 : Steps p.tables e below (s₁.setTop (entryFrame m #[.ref b, .int (Int32.ofNat o), .int (Int32.ofNat len)] 6)) (s₁.setTop (mkF m 1 #[.val (.ref b), .val (.int (Int32.ofNat o)), .val (.int (Int32.ofNat len)), .unset, .unset, .unset] [.int (Int32.ofNat len)])) := c1.trans (by
    refine XS.iloadN X0.here hexec rfl (hb hbytes d0) rfl ?_
    exact Steps.refl _)
  obtain ⟨T3, B3, X3, ba3, bs3, bv3, bh3, bf3, st3⟩ := X0.anew hexec (atype := .byte) (wk W (.arrayClass .byte)) rfl (by show len * 1 ≤ _; omega) (by omega) (g := (mkF m 1 #[.val (.ref b), .val (.int (Int32.ofNat o)), .val (.int (Int32.ofNat len)), .unset, .unset, .unset] [.int (Int32.ofNat len)])) rfl (hb hbytes d1) (rest := []) rfl (Nat.le_refl _) (by show 0 + len ≤ len; omega)
  rw [hh0] at ba3 st3
  have kp3 : XT.Kept s T3 := (XT.Kept.of_eq hh0).push bh3
  have hA3 := hA.keep X3.warmed.alike (kp3 _ _ hA.1.1)
  have hne : b ≠ s.heap.size := hA.1.ne
  have c4 : Steps p.tables e below (s₁.setTop (entryFrame m #[.ref b, .int (Int32.ofNat o), .int (Int32.ofNat len)] 6)) (T3.setTop (mkF m 3 #[.val (.ref b), .val (.int (Int32.ofNat o)), .val (.int (Int32.ofNat len)), .unset, .unset, .unset] [.ref s.heap.size])) := c2.trans (st3 _ (Steps.refl _))
  have c5 : Steps p.tables e below (s₁.setTop (entryFrame m #[.ref b, .int (Int32.ofNat o), .int (Int32.ofNat len)] 6)) (T3.setTop (mkF m 9 #[.val (.ref b), .val (.int (Int32.ofNat o)), .val (.int (Int32.ofNat len)), .val (.ref s.heap.size), .unset, .unset] [.int (Int32.ofNat len), .int 0, .ref s.heap.size, .int (Int32.ofNat o), .ref b])) := c4.trans (by
    refine XS.astoreN X3.here hexec rfl (hb hbytes d3) rfl rfl rfl ?_
    refine XS.aloadN X3.here hexec rfl (hb hbytes d4) rfl rfl ?_
    refine XS.iloadN X3.here hexec rfl (hb hbytes d5) rfl ?_
    refine XS.aloadN X3.here hexec rfl (hb hbytes d6) rfl rfl ?_
    refine iconstV X3.here hexec rfl 0 (hb hbytes d7) (by decide) ?_
    refine XS.iloadN X3.here hexec rfl (hb hbytes d8) rfl ?_
    exact Steps.refl _)
  obtain ⟨v6, T6, X6, E6, g6⟩ := X3.callS hexec (Cmp5.law l b A s.heap.size B3 o 0 len) hown (wks W (staticW U16 115 Cmp5.yN)) (wk W Cmp5.tab) (W := 0) (Nat.le_of_ble_eq_true rfl) (Nat.le_of_ble_eq_true rfl) (Nat.le_refl _) (by show 0 + len + 0 ≤ len; omega) (g := (mkF m 9 #[.val (.ref b), .val (.int (Int32.ofNat o)), .val (.int (Int32.ofNat len)), .val (.ref s.heap.size), .unset, .unset] [.int (Int32.ofNat len), .int (Int32.ofNat 0), .ref s.heap.size, .int (Int32.ofNat o), .ref b])) rfl (by rw [hml]; rfl) c5 (argsL := [.ref b, .int (Int32.ofNat o), .ref s.heap.size, .int (Int32.ofNat 0), .int (Int32.ofNat len)]) (rest := []) rfl rfl (by show 2 * 0 + 0 ≤ _; decide) (hb hbytes d9) (⟨rfl, hA3, ba3, hne, l1, by rw [bs3]; simp, hp⟩)
  obtain ⟨rfl, B6, p6, f6⟩ := E6
  have c7 : Steps p.tables e below (s₁.setTop (entryFrame m #[.ref b, .int (Int32.ofNat o), .int (Int32.ofNat len)] 6)) (T6.setTop (mkF m 12 #[.val (.ref b), .val (.int (Int32.ofNat o)), .val (.int (Int32.ofNat len)), .val (.ref s.heap.size), .unset, .unset] [.int (Int32.ofNat len)])) := g6
  have c8 : Steps p.tables e below (s₁.setTop (entryFrame m #[.ref b, .int (Int32.ofNat o), .int (Int32.ofNat len)] 6)) (T6.setTop (mkF m 58 #[.val (.ref b), .val (.int (Int32.ofNat o)), .val (.int (Int32.ofNat len)), .val (.ref s.heap.size), .val (.int (Int32.ofNat len)), .unset] [.ref s.heap.size])) := c7.trans (by
    refine XS.istore X6.here hexec rfl (hb hbytes d12) rfl rfl ?_
    refine XS.iload X6.here hexec rfl (hb hbytes d14) rfl ?_
    refine XS.iloadN X6.here hexec rfl (hb hbytes d16) rfl ?_
    refine XS.icmpYes X6.here hexec rfl (pc0 := 17) rfl (hb hbytes d17) rfl (ii_eq_t rfl) (by decide) rfl ?_
    refine XS.aloadN X6.here hexec rfl (hb hbytes d57) rfl rfl ?_
    exact Steps.refl _)
  have X8 := X6.wide (L' := []) (cells' := 1) (slots' := len) (fun x hx hlt => by
    simp only [List.nil_append, copyLocs, List.mem_map, List.mem_range] at hx
    obtain ⟨i, -, rfl⟩ := hx
    exact absurd hlt (Nat.lt_irrefl _)) (Nat.le_refl _) (by omega)
  exact ⟨T6, some (.ref s.heap.size), _, _, _, X8, rfl, rfl, rfl, (fun h => by cases h), ⟨⟨rfl, B6, ba3.like (X3.warmed.alike.symm.trans X6.warmed.alike) p6.1 f6.1 f6.2.1 f6.2.2.1, f6.2.1.trans bv3, by rw [X6.warmed.alike.findClass, f6.1]; exact bf3, by rw [f6.2.2.1, bs3]; simp, fun j hj => by rw [f6.2.2.2 j, if_pos (by omega)]; rfl, kp3.put p6 (Nat.le_refl _)⟩, by rw [p6.2.2, bh3, hh0]; simp⟩, fun fs hl => c8.trans (X8.areturnOut hexec rfl hret rfl (hb hbytes d58) hl)⟩
end Cmp3
namespace CodL
def yN : MethodName := ⟨"java/lang/StringUTF16", "coderFromArrayLen", "([BI)B"⟩
abbrev yB : ByteArray := jdk_52_method_15_code
theorem d0 : decode yB 0 = .ok (.iload_n 1, 1) := by decide +kernel
theorem d1 : decode yB 1 = .ok (.aload_n 0, 1) := by decide +kernel
theorem d2 : decode yB 2 = .ok (.arraylength, 1) := by decide +kernel
theorem d3 : decode yB 3 = .ok (.isub, 1) := by decide +kernel
theorem d4 : decode yB 4 = .ok (.bipush 31, 2) := by decide +kernel
theorem d6 : decode yB 6 = .ok (.iushr, 1) := by decide +kernel
theorem d7 : decode yB 7 = .ok (.i2b, 1) := by decide +kernel
theorem d8 : decode yB 8 = .ok (.ireturn, 1) := by decide +kernel
def site : List Cond := []
def tab : Cond := tabOf yN yB 2 (some .byte) site
def P (d : Addr) (B : Cell) (args : Array Value) (s : State) : Prop := args = #[.ref d, .int (Int32.ofNat B.slots.size)] ∧ Arr .byte d B s
def E (r : Option Value) (s u : State) : Prop := XT.PureE (some (.int 0)) r s u
/-- an array as long as the number of chars: LATIN1 -/
theorem law (l : Launch) (d : Addr) (B : Cell) : Law l yN 2 2 0 0 yB 2 (some .byte) site (P d B) E [] 0 0 := by
  refine Law.of_walk (plainFor_of_name (by decide +kernel)) (by decide +kernel) (by decide +kernel) (by decide) (fun _ _ h => by rw [h.1]; rfl) (fun _ U U' hal hh h => ⟨h.1, h.2.mv hal hh⟩) (fun r U U' V V' h1 hal h2 h => XT.PureE.mv r U U' V V' h1 hal h2 h) ?_
  intro p e s m args below meth c s₁ X0 hexec hbytes hml hret hlk hnm hown hh0 W hP
  obtain ⟨rfl, hB⟩ := hP
  have hB0 := hB.mv X0.warmed.alike hh0
  have c1 : Steps p.tables e below (s₁.setTop (entryFrame m #[.ref d, .int (Int32.ofNat B.slots.size)] 2)) (s₁.setTop (mkF m 0 #[.val (.ref d), .val (.int (Int32.ofNat B.slots.size))] [])) := entry rfl
  have c2 : Steps p.tables e below (s₁.setTop (entryFrame m #[.ref d, .int (Int32.ofNat B.slots.size)] 2)) (s₁.setTop (mkF m 2 #[.val (.ref d), .val (.int (Int32.ofNat B.slots.size))] [.ref d, .int (Int32.ofNat B.slots.size)])) := c1.trans (by
    refine XS.iloadN X0.here hexec rfl (hb hbytes d0) rfl ?_
    refine XS.aloadN X0.here hexec rfl (hb hbytes d1) rfl rfl ?_
    exact Steps.refl _)
  have c3 : Steps p.tables e below (s₁.setTop (entryFrame m #[.ref d, .int (Int32.ofNat B.slots.size)] 2)) (s₁.setTop (mkF m 8 #[.val (.ref d), .val (.int (Int32.ofNat B.slots.size))] [.int (lo8 (ushr (Int32.ofNat B.slots.size - Int32.ofNat B.slots.size) 31))])) := c2.trans (by
    refine X0.alen hexec hB0 rfl rfl (hb hbytes d2) ?_
    refine XS.isub X0.here hexec rfl (hb hbytes d3) rfl ?_
    refine bipushV X0.here hexec rfl 31 (hb hbytes d4) (by decide) ?_
    refine iushr X0.here hexec rfl (hb hbytes d6) rfl ?_
    refine i2b X0.here hexec rfl (hb hbytes d7) rfl ?_
    exact Steps.refl _)
  have e0 : lo8 (ushr (Int32.ofNat B.slots.size - Int32.ofNat B.slots.size) 31) = 0 := by rw [Int32.sub_self]; decide
  rw [e0] at c3
  exact ⟨s₁, some (.int 0), _, _, _, X0, rfl, rfl, rfl, (fun h => by cases h), ⟨rfl, hh0⟩, fun fs hl => c3.trans (X0.ireturnOut hexec hret rfl (Or.inr (Or.inr (Or.inl rfl))) (hb hbytes d8) hl)⟩
end CodL
/-- the String at a is Latin-1 over a new byte[] (the heap's one new cell): the low bytes of the len chars of A from o on; every cell but a is kept -/
def Got (a : Addr) (D : Cell) (fV fC : Field) (A : Cell) (o len : Nat) (r : Option Value) (s u : State) : Prop := r = none ∧ ∃ D' V : Cell, Blank "java/lang/String" a D' u ∧ Same D D' [fV.slot, fC.slot] ∧ D'.slots[fV.slot]? = some (.ref s.heap.size) ∧ D'.slots[fC.slot]? = some (.int 0) ∧ Arr .byte s.heap.size V u ∧ V.vm = .none ∧ u.vm.findClass "[B" = some V.cls ∧ V.slots.size = len ∧ (∀ j, j < len → V.slots[j]? = some (.int (lo8 (cv A (o + j))))) ∧ (∀ (y : Addr) (c : Cell), y ≠ a → s.heap[y]? = some c → u.heap[y]? = some c) ∧ u.heap.size = s.heap.size + 1
theorem Got.mv {a : Addr} {D A : Cell} {fV fC : Field} {o len : Nat} : ∀ r (U U' V V' : State), U'.heap = U.heap → V.vm.Alike V'.vm → V'.heap = V.heap → Got a D fV fC A o len r U V → Got a D fV fC A o len r U' V' :=
  fun r U U' V V' h1 hal h2 ⟨e0, D', X, a1, a2, a3, a4, a5, a6, a7, a8, a9, a10, a11⟩ => ⟨e0, D', X, a1.mv hal h2, a2, by rw [h1]; exact a3, a4, by rw [h1]; exact a5.mv hal h2, a6, by rw [hal.findClass]; exact a7, a8, a9, by rw [h1, h2]; exact a10, by rw [h1, h2]; exact a11⟩
namespace New4
def yN : MethodName := ⟨"java/lang/String", "<init>", "([CIILjava/lang/Void;)V"⟩
abbrev yB : ByteArray := jdk_42_method_149_code
theorem d0 : decode yB 0 = .ok (.aload_n 0, 1) := by decide +kernel
theorem d1 : decode yB 1 = .ok (.invokespecial 1, 3) := by decide +kernel
theorem d4 : decode yB 4 = .ok (.iload_n 3, 1) := by decide +kernel
theorem d5 : decode yB 5 = .ok (.ifCond (.ne) 22, 3) := by decide +kernel
theorem d27 : decode yB 27 = .ok (.getstatic 38, 3) := by decide +kernel
theorem d30 : decode yB 30 = .ok (.ifCond (.eq) 28, 3) := by decide +kernel
theorem d33 : decode yB 33 = .ok (.aload_n 1, 1) := by decide +kernel
theorem d34 : decode yB 34 = .ok (.iload_n 2, 1) := by decide +kernel
theorem d35 : decode yB 35 = .ok (.iload_n 3, 1) := by decide +kernel
theorem d36 : decode yB 36 = .ok (.invokestatic 177, 3) := by decide +kernel
theorem d39 : decode yB 39 = .ok (.astore 5, 2) := by decide +kernel
theorem d41 : decode yB 41 = .ok (.aload_n 0, 1) := by decide +kernel
theorem d42 : decode yB 42 = .ok (.aload 5, 2) := by decide +kernel
theorem d44 : decode yB 44 = .ok (.iload_n 3, 1) := by decide +kernel
theorem d45 : decode yB 45 = .ok (.invokestatic 47, 3) := by decide +kernel
theorem d48 : decode yB 48 = .ok (.putfield 15, 3) := by decide +kernel
theorem d51 : decode yB 51 = .ok (.aload_n 0, 1) := by decide +kernel
theorem d52 : decode yB 52 = .ok (.aload 5, 2) := by decide +kernel
theorem d54 : decode yB 54 = .ok (.putfield 9, 3) := by decide +kernel
theorem d57 : decode yB 57 = .ok (.return_, 1) := by decide +kernel
def site : List Cond := [.fieldLink "java/lang/String" 38 "java/lang/String" "COMPACT_STRINGS" "Z", Cmp3.tab, CodL.tab, .laysFinal "java/lang/String" "java/lang/String" "value" "[B", .fieldLink "java/lang/String" 9 "java/lang/String" "value" "[B", .laysFinal "java/lang/String" "java/lang/String" "coder" "B", .fieldLink "java/lang/String" 15 "java/lang/String" "coder" "B"] ++ objW "java/lang/String" 1 ++ staticW "java/lang/String" 177 Cmp3.yN ++ staticW "java/lang/String" 47 CodL.yN
def tab : Cond := tabOf yN yB 6 none site
def P (a : Addr) (D : Cell) (fV fC : Field) (b : Addr) (A : Cell) (z : Int32) (o len : Nat) (args : Array Value) (s : State) : Prop := args = #[.ref a, .ref b, .int (Int32.ofNat o), .int (Int32.ofNat len), .null] ∧ Blank "java/lang/String" a D s ∧ Found "java/lang/String" "value" "[B" fV s ∧ Found "java/lang/String" "coder" "B" fC s ∧ Ch b A s ∧ StaticIs s "java/lang/String" "COMPACT_STRINGS" "Z" (.int z) ∧ ¬ z = 0 ∧ 0 < len ∧ o + len ≤ A.slots.size ∧ len ≤ 536870912 ∧ ∀ i, i < len → ¬ 255 < cv A (o + i)
def E (a : Addr) (D : Cell) (fV fC : Field) (A : Cell) (o len : Nat) (r : Option Value) (s u : State) : Prop := Got a D fV fC A o len r s u
/-- len > 0, no char of the range above 255: a Latin-1 String of their low bytes -/
theorem law (l : Launch) (a : Addr) (D : Cell) (fV fC : Field) (b : Addr) (A : Cell) (z : Int32) (o len : Nat) : Law l yN 5 4 2 35 yB 6 none site (P a D fV fC b A z o len) (E a D fV fC A o len) [⟨a, fC.slot⟩, ⟨a, fV.slot⟩] 1 len := by
  refine Law.of_walk (plainFor_of_name (by decide +kernel)) (by decide +kernel) (by decide +kernel) (by decide) (fun _ _ h => by rw [h.1]; rfl) (fun _ U U' hal hh h => ⟨h.1, h.2.1.mv hal hh, h.2.2.1.al hal, h.2.2.2.1.al hal, h.2.2.2.2.1.mv hal hh, h.2.2.2.2.2.1.there hal hh, h.2.2.2.2.2.2⟩) (fun r U U' V V' h1 hal h2 h => Got.mv r U U' V V' h1 hal h2 h) ?_
  intro p e s m args below meth c s₁ X0 hexec hbytes hml hret hlk hnm hown hh0 W hP
  obtain ⟨rfl, hB, f1, f2, hA, s1, hz, l0, l1, l2, hp⟩ := hP
  have a31 := hA.1.2.2.2
  have c1 : Steps p.tables e below (s₁.setTop (entryFrame m #[.ref a, .ref b, .int (Int32.ofNat o), .int (Int32.ofNat len), .null] 6)) (s₁.setTop (mkF m 0 #[.val (.ref a), .val (.ref b), .val (.int (Int32.ofNat o)), .val (.int (Int32.ofNat len)), .val .null, .unset] [])) := entry rfl
  have c2 : Steps p.tables e below (s₁.setTop (entryFrame m #[.ref a, .ref b, .int (Int32.ofNat o), .int (Int32.ofNat len), .null] 6)) (s₁.setTop (mkF m 1 #[.val (.ref a), .val (.ref b), .val (.int (Int32.ofNat o)), .val (.int (Int32.ofNat len)), .val .null, .unset] [.ref a])) := c1.trans (by
    refine XS.aloadN X0.here hexec rfl (hb hbytes d0) rfl rfl ?_
    exact Steps.refl _)
  obtain ⟨T3, X3, q3, st3⟩ := X0.oinit hexec hown (wks W (objW "java/lang/String" 1)) (g := (mkF m 1 #[.val (.ref a), .val (.ref b), .val (.int (Int32.ofNat o)), .val (.int (Int32.ofNat len)), .val .null, .unset] [.ref a])) rfl (by rw [hml]; rfl) (rest := []) rfl (hb hbytes d1) (W := 0) (by show 2 * 0 + 0 ≤ _; decide) (Nat.le_of_ble_eq_true rfl) (Nat.le_of_ble_eq_true rfl)
  have hh3 := q3.trans hh0
  have c4 : Steps p.tables e below (s₁.setTop (entryFrame m #[.ref a, .ref b, .int (Int32.ofNat o), .int (Int32.ofNat len), .null] 6)) (T3.setTop (mkF m 27 #[.val (.ref a), .val (.ref b), .val (.int (Int32.ofNat o)), .val (.int (Int32.ofNat len)), .val .null, .unset] [])) := (c2.trans (st3 _ (Steps.refl _))).trans (by
    refine XS.iloadN X3.here hexec rfl (hb hbytes d4) rfl ?_
    refine XS.ifYes X3.here hexec rfl (pc0 := 5) rfl (hb hbytes d5) rfl (i0_ne_t (nz32 (by omega) l0)) (by decide) rfl ?_
    exact Steps.refl _)
  obtain ⟨T5, X5, q5, st5⟩ := X3.sget hexec hown (wk W (.fieldLink "java/lang/String" 38 "java/lang/String" "COMPACT_STRINGS" "Z")) s1 (fun _ _ h => by rw [hh3]; exact h) (g := (mkF m 27 #[.val (.ref a), .val (.ref b), .val (.int (Int32.ofNat o)), .val (.int (Int32.ofNat len)), .val .null, .unset] [])) rfl (hb hbytes d27)
  have hh5 := q5.trans hh3
  have c6 : Steps p.tables e below (s₁.setTop (entryFrame m #[.ref a, .ref b, .int (Int32.ofNat o), .int (Int32.ofNat len), .null] 6)) (T5.setTop (mkF m 30 #[.val (.ref a), .val (.ref b), .val (.int (Int32.ofNat o)), .val (.int (Int32.ofNat len)), .val .null, .unset] [.int z])) := c4.trans (st5 _ (Steps.refl _))
  have c7 : Steps p.tables e below (s₁.setTop (entryFrame m #[.ref a, .ref b, .int (Int32.ofNat o), .int (Int32.ofNat len), .null] 6)) (T5.setTop (mkF m 36 #[.val (.ref a), .val (.ref b), .val (.int (Int32.ofNat o)), .val (.int (Int32.ofNat len)), .val .null, .unset] [.int (Int32.ofNat len), .int (Int32.ofNat o), .ref b])) := c6.trans (by
    refine XS.ifNo X5.here hexec rfl (hb hbytes d30) rfl (i0_eq_f hz) ?_
    refine XS.aloadN X5.here hexec rfl (hb hbytes d33) rfl rfl ?_
    refine XS.iloadN X5.here hexec rfl (hb hbytes d34) rfl ?_
    refine XS.iloadN X5.here hexec rfl (hb hbytes d35) rfl ?_
    exact Steps.refl _)
  obtain ⟨v8, T8, X8, E8, g8⟩ := X5.callS hexec (Cmp3.law l b A o len) hown (wks W (staticW "java/lang/String" 177 Cmp3.yN)) (wk W Cmp3.tab) (W := 0) (Nat.le_of_ble_eq_true rfl) (Nat.le_of_ble_eq_true rfl) (Nat.le_refl _) (by show 0 + len ≤ len; omega) (g := (mkF m 36 #[.val (.ref a), .val (.ref b), .val (.int (Int32.ofNat o)), .val (.int (Int32.ofNat len)), .val .null, .unset] [.int (Int32.ofNat len), .int (Int32.ofNat o), .ref b])) rfl (by rw [hml]; rfl) c7 (argsL := [.ref b, .int (Int32.ofNat o), .int (Int32.ofNat len)]) (rest := []) rfl rfl (by show 2 * 0 + 0 ≤ _; decide) (hb hbytes d36) (⟨rfl, hA.mv X5.warmed.alike hh5, l1, l2, hp⟩)
  obtain ⟨e8, z8⟩ := E8
  obtain ⟨rfl, N, n1, n2, n3, n4, n5, n6⟩ := NewArr.mv _ T5 s _ _ hh5.symm (Vm.Alike.refl _) rfl e8
  rw [hh5] at z8
  have hB1 := hB.keep X8.warmed.alike (n6 _ _ hB.1)
  have hne : s.heap.size ≠ a := (Nat.ne_of_lt (Array.getElem?_eq_some_iff.mp hB.1).1).symm
  have c9 : Steps p.tables e below (s₁.setTop (entryFrame m #[.ref a, .ref b, .int (Int32.ofNat o), .int (Int32.ofNat len), .null] 6)) (T8.setTop (mkF m 39 #[.val (.ref a), .val (.ref b), .val (.int (Int32.ofNat o)), .val (.int (Int32.ofNat len)), .val .null, .unset] [.ref s.heap.size])) := g8
  have c10 : Steps p.tables e below (s₁.setTop (entryFrame m #[.ref a, .ref b, .int (Int32.ofNat o), .int (Int32.ofNat len), .null] 6)) (T8.setTop (mkF m 45 #[.val (.ref a), .val (.ref b), .val (.int (Int32.ofNat o)), .val (.int (Int32.ofNat len)), .val .null, .val (.ref s.heap.size)] [.int (Int32.ofNat N.slots.size), .ref s.heap.size, .ref a])) := by
    have hc : Steps p.tables e below (s₁.setTop (entryFrame m #[.ref a, .ref b, .int (Int32.ofNat o), .int (Int32.ofNat len), .null] 6)) (T8.setTop (mkF m 45 #[.val (.ref a), .val (.ref b), .val (.int (Int32.ofNat o)), .val (.int (Int32.ofNat len)), .val .null, .val (.ref s.heap.size)] [.int (Int32.ofNat len), .ref s.heap.size, .ref a])) := c9.trans (by
      refine XS.astore X8.here hexec rfl (hb hbytes d39) rfl rfl rfl ?_
      refine XS.aloadN X8.here hexec rfl (hb hbytes d41) rfl rfl ?_
      refine XS.aload X8.here hexec rfl (hb hbytes d42) rfl rfl ?_
      refine XS.iloadN X8.here hexec rfl (hb hbytes d44) rfl ?_
      exact Steps.refl _)
    rw [n4]; exact hc
  obtain ⟨v11, T11, X11, E11, g11⟩ := X8.callS hexec (CodL.law l s.heap.size N) hown (wks W (staticW "java/lang/String" 47 CodL.yN)) (wk W CodL.tab) (W := 1) (Nat.le_of_ble_eq_true rfl) (Nat.le_of_ble_eq_true rfl) (Nat.le_refl _) (by show 0 + len + 0 ≤ len; omega) (g := (mkF m 45 #[.val (.ref a), .val (.ref b), .val (.int (Int32.ofNat o)), .val (.int (Int32.ofNat len)), .val .null, .val (.ref s.heap.size)] [.int (Int32.ofNat N.slots.size), .ref s.heap.size, .ref a])) rfl (by rw [hml]; rfl) c10 (argsL := [.ref s.heap.size, .int (Int32.ofNat N.slots.size)]) (rest := [.ref a]) rfl rfl (by show 2 * 0 + (1 + 0) ≤ _; decide) (hb hbytes d45) (⟨rfl, n1⟩)
  obtain ⟨rfl, q11⟩ := E11
  have hB11 := hB1.mv (X8.warmed.alike.symm.trans X11.warmed.alike) q11
  have c12 : Steps p.tables e below (s₁.setTop (entryFrame m #[.ref a, .ref b, .int (Int32.ofNat o), .int (Int32.ofNat len), .null] 6)) (T11.setTop (mkF m 48 #[.val (.ref a), .val (.ref b), .val (.int (Int32.ofNat o)), .val (.int (Int32.ofNat len)), .val .null, .val (.ref s.heap.size)] [.int 0, .ref a])) := g11
  obtain ⟨T13, X13, p13, bl13, sl13, st13⟩ := X11.finit hexec hown (wk W (.fieldLink "java/lang/String" 15 "java/lang/String" "coder" "B")) (Or.inr ⟨_, (wk W (.laysFinal "java/lang/String" "java/lang/String" "coder" "B"))⟩) (Or.inl ⟨rfl, hnm⟩) f2 (Or.inl rfl) hB11 (t := .byte) (by decide +kernel) rfl (g := (mkF m 48 #[.val (.ref a), .val (.ref b), .val (.int (Int32.ofNat o)), .val (.int (Int32.ofNat len)), .val .null, .val (.ref s.heap.size)] [.int 0, .ref a])) rfl (rest := []) rfl (hb hbytes d48)
  have c14 : Steps p.tables e below (s₁.setTop (entryFrame m #[.ref a, .ref b, .int (Int32.ofNat o), .int (Int32.ofNat len), .null] 6)) (T13.setTop (mkF m 54 #[.val (.ref a), .val (.ref b), .val (.int (Int32.ofNat o)), .val (.int (Int32.ofNat len)), .val .null, .val (.ref s.heap.size)] [.ref s.heap.size, .ref a])) := (c12.trans (st13 _ (Steps.refl _))).trans (by
    refine XS.aloadN X13.here hexec rfl (hb hbytes d51) rfl rfl ?_
    refine XS.aload X13.here hexec rfl (hb hbytes d52) rfl rfl ?_
    exact Steps.refl _)
  obtain ⟨T15, X15, p15, bl15, sl15, st15⟩ := X13.finit hexec hown (wk W (.fieldLink "java/lang/String" 9 "java/lang/String" "value" "[B")) (Or.inr ⟨_, (wk W (.laysFinal "java/lang/String" "java/lang/String" "value" "[B"))⟩) (Or.inl ⟨rfl, hnm⟩) f1 (Or.inl rfl) bl13 (t := (.array .byte)) (by decide +kernel) rfl (g := (mkF m 54 #[.val (.ref a), .val (.ref b), .val (.int (Int32.ofNat o)), .val (.int (Int32.ofNat len)), .val .null, .val (.ref s.heap.size)] [.ref s.heap.size, .ref a])) rfl (rest := []) rfl (hb hbytes d54)
  have c16 : Steps p.tables e below (s₁.setTop (entryFrame m #[.ref a, .ref b, .int (Int32.ofNat o), .int (Int32.ofNat len), .null] 6)) (T15.setTop (mkF m 57 #[.val (.ref a), .val (.ref b), .val (.int (Int32.ofNat o)), .val (.int (Int32.ofNat len)), .val .null, .val (.ref s.heap.size)] [])) := c14.trans (st15 _ (Steps.refl _))
  have ap := apart (Or.inr ⟨_, (wk W (.laysFinal "java/lang/String" "java/lang/String" "value" "[B"))⟩) (Or.inr ⟨_, (wk W (.laysFinal "java/lang/String" "java/lang/String" "coder" "B"))⟩) f1 f2 (t₁ := .array .byte) (t₂ := .byte) (by decide +kernel) (by decide +kernel) (by decide)
  have al := X8.warmed.alike.symm.trans X15.warmed.alike
  have n7 : T11.heap[s.heap.size]? = some N := by rw [q11]; exact n1.1
  exact ⟨T15, none, _, _, _, X15, by simp, rfl, by omega, (fun _ => rfl), ⟨rfl, _, N, bl15, ((Same.refl D _).set _ (by simp)).set _ (by simp), sl15, (Cell.slots_setSlot_ne _ ap).trans sl13, n1.keep al (p15.other hne (p13.other hne n7)), n2, by rw [al.findClass]; exact n3, n4, n5, fun y c h1 h2 => p15.other h1 (p13.other h1 (by rw [q11]; exact n6 y c h2)), by rw [p15.2.2, p13.2.2, q11]; exact z8⟩, fun fs hl => c16.trans (X15.returnOut hexec hret (hb hbytes d57) hl)⟩
end New4
namespace New1
def yN : MethodName := ⟨"java/lang/String", "<init>", "([C)V"⟩
abbrev yB : ByteArray := jdk_42_method_3_code
theorem d0 : decode yB 0 = .ok (.aload_n 0, 1) := by decide +kernel
theorem d1 : decode yB 1 = .ok (.aload_n 1, 1) := by decide +kernel
theorem d2 : decode yB 2 = .ok (.iconst 0, 1) := by decide +kernel
theorem d3 : decode yB 3 = .ok (.aload_n 1, 1) := by decide +kernel
theorem d4 : decode yB 4 = .ok (.arraylength, 1) := by decide +kernel
theorem d5 : decode yB 5 = .ok (.aconst_null, 1) := by decide +kernel
theorem d6 : decode yB 6 = .ok (.invokespecial 27, 3) := by decide +kernel
theorem d9 : decode yB 9 = .ok (.return_, 1) := by decide +kernel
def site : List Cond := [New4.tab] ++ initW "java/lang/String" 27 New4.yN
def tab : Cond := tabOf yN yB 2 none site
def P (a : Addr) (D : Cell) (fV fC : Field) (b : Addr) (A : Cell) (z : Int32) (args : Array Value) (s : State) : Prop := args = #[.ref a, .ref b] ∧ Blank "java/lang/String" a D s ∧ Found "java/lang/String" "value" "[B" fV s ∧ Found "java/lang/String" "coder" "B" fC s ∧ Ch b A s ∧ StaticIs s "java/lang/String" "COMPACT_STRINGS" "Z" (.int z) ∧ ¬ z = 0 ∧ 0 < A.slots.size ∧ A.slots.size ≤ 536870912 ∧ ∀ i, i < A.slots.size → ¬ 255 < cv A i
def E (a : Addr) (D : Cell) (fV fC : Field) (A : Cell) (r : Option Value) (s u : State) : Prop := Got a D fV fC A 0 A.slots.size r s u
/-- new String(chars), not empty, no char above 255: a Latin-1 String of their low bytes -/
theorem law (l : Launch) (a : Addr) (D : Cell) (fV fC : Field) (b : Addr) (A : Cell) (z : Int32) : Law l yN 2 1 3 52 yB 2 none site (P a D fV fC b A z) (E a D fV fC A) [⟨a, fC.slot⟩, ⟨a, fV.slot⟩] 1 A.slots.size := by
  refine Law.of_walk (plainFor_of_name (by decide +kernel)) (by decide +kernel) (by decide +kernel) (by decide) (fun _ _ h => by rw [h.1]; rfl) (fun _ U U' hal hh h => ⟨h.1, h.2.1.mv hal hh, h.2.2.1.al hal, h.2.2.2.1.al hal, h.2.2.2.2.1.mv hal hh, h.2.2.2.2.2.1.there hal hh, h.2.2.2.2.2.2⟩) (fun r U U' V V' h1 hal h2 h => Got.mv r U U' V V' h1 hal h2 h) ?_
  intro p e s m args below meth c s₁ X0 hexec hbytes hml hret hlk hnm hown hh0 W hP
  obtain ⟨rfl, hB, f1, f2, hA, s1, hz, l0, l2, hp⟩ := hP
  have c1 : Steps p.tables e below (s₁.setTop (entryFrame m #[.ref a, .ref b] 2)) (s₁.setTop (mkF m 0 #[.val (.ref a), .val (.ref b)] [])) := entry rfl
  have c2 : Steps p.tables e below (s₁.setTop (entryFrame m #[.ref a, .ref b] 2)) (s₁.setTop (mkF m 6 #[.val (.ref a), .val (.ref b)] [.null, .int (Int32.ofNat A.slots.size), .int 0, .ref b, .ref a])) := c1.trans (by
    refine XS.aloadN X0.here hexec rfl (hb hbytes d0) rfl rfl ?_
    refine XS.aloadN X0.here hexec rfl (hb hbytes d1) rfl rfl ?_
    refine iconstV X0.here hexec rfl 0 (hb hbytes d2) (by decide) ?_
    refine XS.aloadN X0.here hexec rfl (hb hbytes d3) rfl rfl ?_
    refine X0.alen hexec (hA.1.mv X0.warmed.alike hh0) rfl rfl (hb hbytes d4) ?_
    refine XS.aconstNull X0.here hexec rfl (hb hbytes d5) ?_
    exact Steps.refl _)
  obtain ⟨v3, T3, X3, E3, g3⟩ := X0.callN hexec (New4.law l a D fV fC b A z 0 A.slots.size) rfl hown (wks W (initW "java/lang/String" 27 New4.yN)) (W New4.tab (by simp only [site, List.mem_cons, List.mem_append, true_or, or_true])) (W := 0) (Nat.le_of_ble_eq_true rfl) (Nat.le_of_ble_eq_true rfl) (Nat.le_refl _) (by show 0 + A.slots.size ≤ A.slots.size; omega) (g := (mkF m 6 #[.val (.ref a), .val (.ref b)] [.null, .int (Int32.ofNat A.slots.size), .int (Int32.ofNat 0), .ref b, .ref a])) rfl (by rw [hml]; rfl) c2 (argsL := [.ref b, .int (Int32.ofNat 0), .int (Int32.ofNat A.slots.size), .null]) (rest := []) rfl rfl (by show 2 * 0 + 0 ≤ _; decide) (hb hbytes d6) (⟨rfl, hB.mv X0.warmed.alike hh0, f1.al X0.warmed.alike, f2.al X0.warmed.alike, hA.mv X0.warmed.alike hh0, s1.there X0.warmed.alike hh0, hz, l0, by omega, l2, fun i hi => by rw [Nat.zero_add]; exact hp i hi⟩)
  have e0 := Got.mv _ s₁ s _ _ hh0.symm (Vm.Alike.refl _) rfl E3
  obtain rfl := e0.1
  have c4 : Steps p.tables e below (s₁.setTop (entryFrame m #[.ref a, .ref b] 2)) (T3.setTop (mkF m 9 #[.val (.ref a), .val (.ref b)] [])) := g3
  exact ⟨T3, none, _, _, _, X3, by simp, rfl, by omega, (fun _ => rfl), e0, fun fs hl => c4.trans (X3.returnOut hexec hret (hb hbytes d9) hl)⟩
theorem pays {l : Launch} {R : Room} {p : Program} {e : Env} {below : List Frame} {s : State} {sargs : Array Value} {len W : Nat} (a : Addr) (D : Cell) (fV fC : Field) (b : Addr) (A : Cell) (z : Int32) (htab : tab.before sargs s = true) (hfr : 4 ≤ R.frames) (hlo : W + 65 ≤ R.locals) :
    Back l R p e below s sargs yN len W (fun A₁ a₁ => A₁.cells + 1 ≤ R.cells ∧ A₁.slots + A.slots.size ≤ R.slots ∧ P a D fV fC b A z a₁ A₁.U) (fun A₁ _ v₁ B₁ => E a D fV fC A v₁ A₁.U B₁.U ∧ B₁.locs = A₁.locs ++ [⟨a, fC.slot⟩, ⟨a, fV.slot⟩] ∧ B₁.cells = A₁.cells + 1 ∧ B₁.slots = A₁.slots + A.slots.size) :=
  (law l a D fV fC b A z).pays htab hfr (by omega)
end New1
end StrChars
namespace StrChars.Road
open Jvm Sem ClassFile Op Lib Jvm.Stand Jvm.Free Jvm.Free.XT
open Jvm.Lib.Cold (StaticIs)
abbrev ST : String := "java/lang/String"
/-- every table word that New1's law asks, flat -/
abbrev words : List Jvm.Cond := [.code New1.yN New1.yB 2 none, .initialized ST, .methodLink ST 27 New4.yN, .instanceMethod New4.yN,
  .code New4.yN New4.yB 6 none, .fieldLink ST 38 ST "COMPACT_STRINGS" "Z", .laysFinal ST ST "value" "[B", .fieldLink ST 9 ST "value" "[B", .laysFinal ST ST "coder" "B", .fieldLink ST 15 ST "coder" "B",
  .methodLink ST 1 Lib.objectInit, .instanceMethod Lib.objectInit, .code Lib.objectInit ⟨#[0xb1]⟩ 1 none, .methodLink ST 177 Cmp3.yN, .static Cmp3.yN, .methodLink ST 47 CodL.yN, .static CodL.yN,
  .code Cmp3.yN Cmp3.yB 6 (some (.array .byte)), .initialized U16, .arrayClass .byte, .methodLink U16 115 Cmp5.yN, .static Cmp5.yN, .code Cmp5.yN Cmp5.yB 7 (some .int), .code CodL.yN CodL.yB 2 (some .byte)]
theorem tab_of {a : Array Value} {s : State} (h : ∀ w ∈ words, w.before a s = true) : New1.tab.before a s = true := by
  have h5 : Cmp5.tab.before a s = true := unparts (wk h (.code Cmp5.yN Cmp5.yB 7 (some .int))) (wks h (.initialized Cmp5.yN.cls :: Cmp5.site))
  have hc : CodL.tab.before a s = true := unparts (wk h (.code CodL.yN CodL.yB 2 (some .byte))) (wks h (.initialized CodL.yN.cls :: CodL.site))
  have q5 : ∀ w ∈ Cmp5.tab :: words, w.before a s = true := fun w hw => (List.mem_cons.mp hw).elim (fun e => e ▸ h5) (h w)
  have h3 : Cmp3.tab.before a s = true := unparts (wk q5 (.code Cmp3.yN Cmp3.yB 6 (some (.array .byte)))) (wks q5 (.initialized Cmp3.yN.cls :: Cmp3.site))
  have q3 : ∀ w ∈ Cmp3.tab :: CodL.tab :: words, w.before a s = true := fun w hw => (List.mem_cons.mp hw).elim (fun e => e ▸ h3) fun hw => (List.mem_cons.mp hw).elim (fun e => e ▸ hc) (h w)
  have h4 : New4.tab.before a s = true := unparts (wk q3 (.code New4.yN New4.yB 6 none)) (wks q3 (.initialized New4.yN.cls :: New4.site))
  have q4 : ∀ w ∈ New4.tab :: words, w.before a s = true := fun w hw => (List.mem_cons.mp hw).elim (fun e => e ▸ h4) (h w)
  exact unparts (wk q4 (.code New1.yN New1.yB 2 none)) (wks q4 (.initialized New1.yN.cls :: New1.site))
/-- the words ride from the start Z to the walk's own state -/
theorem moved {Z s : State} {a0 args : Array Value} (hZ : Z.Warmed39 s.vm) (hw : ∀ d ∈ words, d.before a0 Z = true) : ∀ d ∈ words, d.before args s = true := fun d hd => by
  have q := hw d hd
  have t : ∀ d ∈ words, d = .arrayClass .byte ∨ (d.onTables && d.keepsFace) = true := by decide +kernel
  rcases t d hd with rfl | t
  · exact RoadKit.mvA hZ q
  · exact RoadKit.mv hZ q t
/-- WHAT COMES BACK, over the tables of the start Z: h the heap at the call, h' behind it -/
def Q (Z : State) (x : Addr) (A : Cell) (h : Heap) (v : Option Value) (h' : Heap) (L : List Loc) : Prop := v = none ∧ (∀ y ∈ L, y.base = x) ∧ RoadKit.Keep h h' [x] ∧ h'.size = h.size + 1 ∧ RoadKit.Exa Z h' x ST ∧ RoadKit.Fld Z h' x ST "value" "[B" (.ref h.size) ∧ RoadKit.Fld Z h' x ST "coder" "B" (.int 0) ∧
  (∃ V : Cell, RoadKit.Arr Z h' h.size V .byte ∧ V.vm = .none ∧ Z.vm.findClass "[B" = some V.cls ∧ V.slots.size = A.slots.size ∧ ∀ j, j < A.slots.size → V.slots[j]? = some (.int (lo8 (cv A j)))) ∧
  ∀ (O n d : String) (w : Value), RoadKit.Fld Z h x O n d w → RoadKit.slotOf Z O n d ≠ RoadKit.slotOf Z ST "value" "[B" → RoadKit.slotOf Z O n d ≠ RoadKit.slotOf Z ST "coder" "B" → RoadKit.Fld Z h' x O n d w
/-- **new String(chars) AT A CALL, IN THE ROAD'S FORM**: for specialBack behind newO: x the fresh String, b the char[] with the cell A -/
theorem back {p : Program} {l : Launch} {e : Env} {R : Room} {s : State} {args : Array Value} {below : List Frame} {len W : Nat} {Z : State} {a0 : Array Value} {h : Heap} (hZ : Z.Warmed39 s.vm) (hw : ∀ d ∈ words, d.before a0 Z = true) {kI : Nat} (wi : (Jvm.Cond.instantiable ST kI).before a0 Z = true)
    {x b : Addr} {A : Cell} {z : Int32} {v0 c0 : Value} (E : RoadKit.Exa Z h x ST) (V : RoadKit.Fld Z h x ST "value" "[B" v0) (C : RoadKit.Fld Z h x ST "coder" "B" c0) (K : RoadKit.Arr Z h b A .char) (hty : Typed .char A) (S : RoadKit.Sta Z h ST "COMPACT_STRINGS" "Z" (.int z)) (hz : ¬ z = 0)
    (l0 : 0 < A.slots.size) (l2 : A.slots.size ≤ 536870912) (hp : ∀ i, i < A.slots.size → ¬ 255 < cv A i) (hfr : 4 ≤ R.frames) (hlo : W + 65 ≤ R.locals) :
    Back l R p e below s args New1.yN len W (fun P a => a = #[.ref x, .ref b] ∧ P.U.heap = h ∧ P.cells + 1 ≤ R.cells ∧ P.slots + A.slots.size ≤ R.slots)
      (fun P _ v B => ∃ L, Q Z x A h v B.U.heap L ∧ B.locs = P.locs ++ L ∧ B.cells = P.cells + 1 ∧ B.slots = P.slots + A.slots.size) := by
  intro m meth c P g ig mk a X hg hsize hdg hW hn hp'
  obtain ⟨rfl, rfl, r1, r2⟩ := hp'
  have al : Z.vm.Alike P.U.vm := hZ.alike.trans X.warmed.alike
  obtain ⟨D, cfV, kV, iV, fV, hD, gV, stV, knV, obV, asV, slV⟩ := id V
  obtain ⟨D', cfC, kC, iC, fC, hD', gC, stC, -, -, asC, slC⟩ := id C
  cases hD.symm.trans hD'
  obtain ⟨D2, kD, e1, e2, e3, e4, e5⟩ := id E
  cases hD.symm.trans e1
  obtain ⟨c2, k2, i1, i2, i3, -⟩ := Cond.instantiable_spec wi
  cases e2.symm.trans i1
  cases e3.symm.trans i2
  obtain ⟨kU, u1, u2⟩ := al.2.2 _ _ e3
  have hB : Blank ST x D P.U := ⟨hD, ⟨knV, fun q hq => by rw [hq] at obV; cases obV⟩, by rw [al.findClass]; exact e2, kU, u1, by rw [u2]; exact i3, by rw [u2]; exact e5 i3⟩
  have F1 : Found ST "value" "[B" fV P.U := ⟨SBG.found_only al ⟨cfV, kV, iV, gV⟩, stV⟩
  have F2 : Found ST "coder" "B" fC P.U := ⟨SBG.found_only al ⟨cfC, kC, iC, gC⟩, stC⟩
  have hA : Ch b A P.U := ⟨⟨K.1, State.isArrayOf_alike al K.2.1, K.2.2, by omega⟩, hty⟩
  have hS : StaticIs P.U ST "COMPACT_STRINGS" "Z" (.int z) := by
    obtain ⟨cfS, iS, kS, fS, st, cS, t1, t2, t3, t4, t5, t6, t7⟩ := S
    exact StaticIs.there (s := { Z with heap := P.U.heap }) ⟨cfS, iS, kS, fS, st, cS, t1, t2, t3, t4, t5, (fun q => by rw [q] at t6; cases t6), t7⟩ al rfl
  obtain ⟨v, B, X', ⟨⟨hv, E', V', q1, q2, q3, q4, q5, q6, q7, q8, q9, q10, q11⟩, hl, hc, hs⟩, st⟩ := New1.pays x D fV fC b A z (tab_of (moved hZ hw)) hfr hlo m meth c P g ig mk _ X hg hsize hdg hW hn ⟨r1, r2, rfl, hB, F1, F2, hA, hS, hz, l0, l2, hp⟩
  have al' : Z.vm.Alike B.U.vm := hZ.alike.trans X'.warmed.alike
  have hsz : E'.slots.size = D.slots.size := by
    obtain ⟨-, -, -, kB, w1, w2, w3⟩ := q1
    obtain ⟨kB', y1, y2⟩ := al'.2.2 _ _ e3
    rw [q2.2.1] at w1
    cases w1.symm.trans y1
    rw [w3, e5 i3, y2]
  refine ⟨v, B, X', ⟨_, ⟨hv, ?_, ⟨by omega, fun y cy hy hn' => q10 y cy (by simpa using hn') hy, fun y cy hy => ?_⟩, q11, ⟨E', _, q1.1, by rw [q2.2.1]; exact e2, by rw [q2.2.1]; exact e3, by rw [q2.1]; exact obV, fun _ => by rw [hsz]; exact e5 i3⟩,
    ⟨E', cfV, kV, iV, fV, q1.1, gV, stV, by rw [q2.1]; exact knV, by rw [q2.1]; exact obV, by rw [q2.2.1]; exact asV, q3⟩, ⟨E', cfC, kC, iC, fC, q1.1, gC, stC, by rw [q2.1]; exact knV, by rw [q2.1]; exact obV, by rw [q2.2.1]; exact asC, q4⟩,
    ⟨V', ⟨q5.1, State.isArrayOf_alike al'.symm q5.2.1, q5.2.2.1⟩, q6, by rw [← al'.findClass]; exact q7, q8, fun j hj => by have := q9 j hj; rwa [Nat.zero_add] at this⟩, fun O n d w F n1 n2 => ?_⟩, hl, hc, hs⟩, st⟩
  · intro y hy
    simp only [List.mem_cons, List.not_mem_nil, or_false] at hy
    rcases hy with rfl | rfl <;> rfl
  · by_cases q : y = x
    · subst q
      cases hD.symm.trans hy
      exact ⟨E', q1.1, q2.2.1, q2.1, hsz⟩
    · exact ⟨cy, q10 y cy q hy, rfl, rfl, rfl⟩
  · obtain ⟨D3, cf, k, i, f, g1, g2, g3, g4, g5, g6, g7⟩ := F
    cases hD.symm.trans g1
    simp only [RoadKit.slotOf, g2, gV, gC, Option.map_some, Option.getD_some] at n1 n2
    exact ⟨E', cf, k, i, f, q1.1, g2, g3, by rw [q2.1]; exact g4, by rw [q2.1]; exact g5, by rw [q2.2.1]; exact g6, by rw [q2.2.2 f.slot (by simp [n1, n2])]; exact g7⟩
end StrChars.Road
namespace StrChars.Road
open Jvm Sem ClassFile Op Lib Jvm.Stand Jvm.Free Jvm.Free.XT
/-- WHAT COMES BACK, the byte[] as a list of values -/
def QA (Z : State) (x : Addr) (zn : Int32) (cs : List Int32) (h : Heap) (v : Option Value) (h' : Heap) (L : List Loc) : Prop := v = none ∧ (∀ y ∈ L, y.base = x) ∧ RoadKit.Keep h h' [x] ∧ h'.size = h.size + 1 ∧ RoadKit.Exa Z h' x ST ∧ RoadKit.Fld Z h' x ST "value" "[B" (.ref h.size) ∧ RoadKit.Fld Z h' x ST "coder" "B" (.int 0) ∧
  (∃ kb, Z.vm.findClass "[B" = some kb ∧ RoadKit.Arv Z h' h.size kb .byte zn (cs.map fun c => .int (lo8 c)) (.int 0)) ∧
  ∀ (O n d : String) (w : Value), RoadKit.Fld Z h x O n d w → RoadKit.slotOf Z O n d ≠ RoadKit.slotOf Z ST "value" "[B" → RoadKit.slotOf Z O n d ≠ RoadKit.slotOf Z ST "coder" "B" → RoadKit.Fld Z h' x O n d w
/-- **new String(chars) AT A CALL, THE ARRAYS AS LISTS**: the char[] at b holds cs, not empty, no char above 255 -/
theorem backArv {p : Program} {l : Launch} {e : Env} {R : Room} {s : State} {args : Array Value} {below : List Frame} {len W : Nat} {Z : State} {a0 : Array Value} {h : Heap} (hZ : Z.Warmed39 s.vm) (hw : ∀ d ∈ words, d.before a0 Z = true) {kI : Nat} (wi : (Jvm.Cond.instantiable ST kI).before a0 Z = true)
    {x b : Addr} {k : ClassId} {zn z : Int32} {cs : List Int32} {dv v0 c0 : Value} (E : RoadKit.Exa Z h x ST) (V : RoadKit.Fld Z h x ST "value" "[B" v0) (C : RoadKit.Fld Z h x ST "coder" "B" c0) (K : RoadKit.Arv Z h b k .char zn (cs.map Value.int) dv) (S : RoadKit.Sta Z h ST "COMPACT_STRINGS" "Z" (.int z)) (hz : ¬ z = 0)
    (hlen : zn.toNatClampNeg = cs.length) (h0 : 0 < cs.length) (hbig : cs.length ≤ 536870912) (hall : ∀ c ∈ cs, ¬ 255 < c) (hfr : 4 ≤ R.frames) (hlo : W + 65 ≤ R.locals) :
    Back l R p e below s args New1.yN len W (fun P a => a = #[.ref x, .ref b] ∧ P.U.heap = h ∧ P.cells + 1 ≤ R.cells ∧ P.slots + cs.length ≤ R.slots)
      (fun P _ v B => ∃ L, QA Z x zn cs h v B.U.heap L ∧ B.locs = P.locs ++ L ∧ B.cells = P.cells + 1 ∧ B.slots = P.slots + cs.length) := by
  obtain ⟨A, K1, K2, K3, K4, K5, K6⟩ := K
  have e : A.slots.size = cs.length := K3.trans hlen
  have hat : ∀ (i : Nat) (hi : i < cs.length), A.slots[i]? = some (.int cs[i]) := fun i hi => by rw [K5 i (by omega)]; simp [List.getD_eq_getElem?_getD, hi]
  have hcv : ∀ (i : Nat) (hi : i < cs.length), cv A i = cs[i] := fun i hi => by unfold cv; rw [hat i hi]
  have hty : Typed .char A := fun i v hv => by
    have hi : i < A.slots.size := (Array.getElem?_eq_some_iff.mp hv).1
    have q := K5 i hi
    rw [hv] at q
    rw [Option.some.inj q]
    exact K6 i hi
  refine Back.mono (back hZ hw wi E V C K1 hty S hz (by omega) (by omega) (fun i hi => by rw [hcv i (by omega)]; exact hall _ (List.getElem_mem _)) hfr hlo) (fun P a hp => ⟨hp.1, hp.2.1, hp.2.2.1, by rw [e]; exact hp.2.2.2⟩) (fun P a v B hp hq => ?_)
  obtain ⟨L, ⟨q1, q2, q3, q4, q5, q6, q7, ⟨V', v1, v2, v3, v4, v5⟩, q9⟩, hl, hc, hs⟩ := hq
  refine ⟨L, ⟨q1, q2, q3, q4, q5, q6, q7, ⟨V'.cls, v3, V', v1, rfl, by rw [v4, e, hlen], K4, fun i hi => ?_, fun i hi => ?_⟩, q9⟩, hl, hc, by rw [hs, e]⟩
  · have hi' : i < cs.length := by omega
    rw [v5 i (by omega), hcv i hi']; simp [List.getD_eq_getElem?_getD, hi']
  · have hi' : i < cs.length := by omega
    simp only [List.getD_eq_getElem?_getD, List.getElem?_map, List.getElem?_eq_getElem hi', Option.map_some, Option.getD_some]
    exact fits_lo8 _
end StrChars.Road
namespace StrChars.Road
open Jvm Sem ClassFile Op Lib Jvm.Stand Jvm.Free Jvm.Free.XT
/-- WHAT COMES BACK, in the writer's own shape -/
def QV (Z : State) (x : Addr) (N : Int32) (bs : List Int32) (h : Heap) (n0 : Nat) (v : Option Value) (h' : Heap) (L : List Loc) : Prop := v = none ∧ RoadKit.Fr n0 L ∧ RoadKit.Keep h h' [x] ∧ RoadKit.Exa Z h' x ST ∧ RoadKit.Fld Z h' x ST "coder" "B" (.int 0) ∧
  ∃ (t : Addr) (kb : ClassId), n0 ≤ t ∧ h.size ≤ t ∧ ¬ t = x ∧ RoadKit.Fld Z h' x ST "value" "[B" (.ref t) ∧ RoadKit.Arv Z h' t kb .byte N (bs.map Value.int) (.int 0)
/-- **new String(chars) AT A CALL, FOR THE WRITER**: a char[] of n known ints, each 0 to 255 -/
theorem backV {p : Program} {l : Launch} {e : Env} {R : Room} {s : State} {args : Array Value} {below : List Frame} {len W : Nat} {Z : State} {a0 : Array Value} {h : Heap} (hZ : Z.Warmed39 s.vm) (hw : ∀ d ∈ words, d.before a0 Z = true) {kI : Nat} (wi : (Jvm.Cond.instantiable ST kI).before a0 Z = true)
    {x b : Addr} {kC : ClassId} {cs bs : List Int32} {d v0 c0 : Value} {z N : Int32} {n n0 : Nat} (hx0 : n0 ≤ x) (hh0 : n0 ≤ h.size) (E : RoadKit.Exa Z h x ST) (V : RoadKit.Fld Z h x ST "value" "[B" v0) (C : RoadKit.Fld Z h x ST "coder" "B" c0) (K : RoadKit.Arv Z h b kC .char N (cs.map Value.int) d) (S : RoadKit.Sta Z h ST "COMPACT_STRINGS" "Z" (.int z)) (hz : ¬ z = 0)
    (hn : cs.length = n) (hN : N = Int32.ofNat n) (l0 : 0 < n) (l2 : n ≤ 4000) (hp : ∀ c ∈ cs, ¬ c < 0 ∧ ¬ (255 : Int32) < c) (hb : bs = cs.map (fun c => c.toInt8.toInt32)) (hfr : 4 ≤ R.frames) (hlo : W + 65 ≤ R.locals) :
    Back l R p e below s args (⟨"java/lang/String", "<init>", "([C)V"⟩ : MethodName) len W (fun P a => a = #[.ref x, .ref b] ∧ P.U.heap = h ∧ P.cells + 1 ≤ R.cells ∧ P.slots + n ≤ R.slots)
      (fun P _ v B => ∃ L, QV Z x N bs h n0 v B.U.heap L ∧ B.locs = P.locs ++ L ∧ B.cells = P.cells + 1 ∧ B.slots = P.slots + n) := by
  subst hn hN hb
  refine Back.mono (backArv hZ hw wi E V C K S hz (n32 (by omega)) l0 (by omega) (fun c hc => (hp c hc).2) hfr hlo) (fun P a hp => hp) (fun P a v B hp hq => ?_)
  obtain ⟨L, ⟨q1, q2, q3, q4, q5, q6, q7, ⟨kb, v1, v2⟩, q9⟩, hl, hc, hs⟩ := hq
  exact ⟨L, ⟨q1, fun y hy => by rw [q2 y hy]; exact hx0, q3, q5, q7, h.size, kb, hh0, Nat.le_refl _, Nat.ne_of_gt E.lt, q6, by rw [List.map_map]; exact v2⟩, hl, hc, hs⟩
end StrChars.Road
end Jvm.Pilot.@@N@@
namespace Jvm.Pilot.@@N@@
open Jvm Jvm.ClassFile Sem Op Lib Jvm.Free Jvm.Stand Jvm.LawKit Jvm.RoadKit Bundle Jvm.Pilot.@@N@@.Jvm.D
/-- from the frame g at T the run reaches a state of which P holds -/
def own_Go (p : Program) (e : Env) (below : List Frame) (P : State → Outcome → Prop) (T : State) (g : JFrame) : Prop := ∃ t o, Steps p.tables e below (T.setTop g) t ∧ P t o
/-- the run has left the method: what it returned, the heap and the places written are as Q says -/
def own_P (s : State) (below : List Frame) (R : Room) (Q : Option Value → Heap → List Loc → Prop) (t : State) (o : Outcome) : Prop := t.status = .running ∧ Ended t below o ∧ ∃ v L, o = .returned v ∧ Q v t.heap L ∧ FrameEnd s o t L R.cells R.slots
section OwnKit
variable {p : Program} {l : Launch} {e : Env} {R : Room} {s : State} {m : MethodId} {args : Array Value} {below : List Frame} {meth : Method} {c : Code} {T T' : State} {locs : List Loc} {cells slots : Nat} {P : State → Outcome → Prop} {g g' : JFrame}
theorem own_by (k : ∀ t, Steps p.tables e below (T'.setTop g') t → Steps p.tables e below (T.setTop g) t) (h : own_Go p e below P T' g') : own_Go p e below P T g := by
  obtain ⟨t, o, st, q⟩ := h
  exact ⟨t, o, k t st, q⟩
theorem own_via (k : Steps p.tables e below (T.setTop g) (T'.setTop g')) (h : own_Go p e below P T' g') : own_Go p e below P T g := own_by (fun _ st => k.trans st) h
theorem own_in (q : g = g') (h : own_Go p e below P T g') : own_Go p e below P T g := q ▸ h
theorem own_out {v : Option Value} {Q : Option Value → Heap → List Loc → Prop} (X : Stand p l e R s m args below meth c T locs cells slots) (hv : meth.sig.returnType = none → v = none) (hlk : meth.locks = false) (hc : cells ≤ R.cells) (hs : slots ≤ R.slots) (q : Q v T.heap locs)
    (k : ∀ fs, (∀ (f : JFrame) (acts : List Action), f.method = m → f.locked = none → f.entered = [] → (doReturn e (T.setTop f) acts v).1 = T.setFrames fs) → Steps p.tables e below (T.setTop g) (T.setFrames fs)) : own_Go p e below (own_P s below R Q) T g := by
  obtain ⟨fs, hr, hrun, hended, hW, hsame⟩ := X.leave (v := v) hv hlk
  exact ⟨_, _, k fs hr, hrun, hended, _, _, rfl, q, ⟨_, rfl⟩, hW, hsame.mono hc hs⟩
theorem own_some {t : FieldType} {w : Value} (h : meth.sig.returnType = some t) : meth.sig.returnType = none → some w = none := fun q => by rw [h] at q; cases q
theorem own_retN {pc : Nat} {Ls : Array Slot} {z : Int32} {t : FieldType} {rest : List Value} {Q : Option Value → Heap → List Loc → Prop} (X : Stand p l e R s m args below meth c T locs cells slots) (hx : p.tables.exec = Jvm.exec) (hret : meth.sig.returnType = some t) (ht : t = .boolean ∨ t = .byte ∨ t = .char ∨ t = .short)
    (hd : decode c.code pc = .ok (.ireturn, 1)) (hlk : meth.locks = false) (hc : cells ≤ R.cells) (hs : slots ≤ R.slots) (q : Q (some (.int (nar t z))) T.heap locs) : own_Go p e below (own_P s below R Q) T (mkF m pc Ls (.int z :: rest)) :=
  own_out X (own_some hret) hlk hc hs q fun _ hr => retN X hx hret ht hd hr
theorem own_retI {pc : Nat} {Ls : Array Slot} {z : Int32} {rest : List Value} {Q : Option Value → Heap → List Loc → Prop} (X : Stand p l e R s m args below meth c T locs cells slots) (hx : p.tables.exec = Jvm.exec) (hret : meth.sig.returnType = some .int)
    (hd : decode c.code pc = .ok (.ireturn, 1)) (hlk : meth.locks = false) (hc : cells ≤ R.cells) (hs : slots ≤ R.slots) (q : Q (some (.int z)) T.heap locs) : own_Go p e below (own_P s below R Q) T (mkF m pc Ls (.int z :: rest)) :=
  own_out X (own_some hret) hlk hc hs q fun _ hr => retOut X hx hret rfl (Or.inl ⟨rfl, Or.inl rfl, _, rfl⟩) hd hr
theorem own_retJ {pc : Nat} {Ls : Array Slot} {z : Int64} {rest : List Value} {Q : Option Value → Heap → List Loc → Prop} (X : Stand p l e R s m args below meth c T locs cells slots) (hx : p.tables.exec = Jvm.exec) (hret : meth.sig.returnType = some .long)
    (hd : decode c.code pc = .ok (.lreturn, 1)) (hlk : meth.locks = false) (hc : cells ≤ R.cells) (hs : slots ≤ R.slots) (q : Q (some (.long z)) T.heap locs) : own_Go p e below (own_P s below R Q) T (mkF m pc Ls (.long z :: rest)) :=
  own_out X (own_some hret) hlk hc hs q fun _ hr => retOut X hx hret rfl (Or.inr (Or.inl ⟨rfl, rfl, _, rfl⟩)) hd hr
theorem own_retR {pc : Nat} {Ls : Array Slot} {w : Value} {t : FieldType} {rest : List Value} {Q : Option Value → Heap → List Loc → Prop} (X : Stand p l e R s m args below meth c T locs cells slots) (hx : p.tables.exec = Jvm.exec) (hret : meth.sig.returnType = some t) (ht : t.isReference = true) (hw : w.isRef = true) (hn : narrow t w = w)
    (hd : decode c.code pc = .ok (.areturn, 1)) (hlk : meth.locks = false) (hc : cells ≤ R.cells) (hs : slots ≤ R.slots) (q : Q (some w) T.heap locs) : own_Go p e below (own_P s below R Q) T (mkF m pc Ls (w :: rest)) :=
  own_out X (own_some hret) hlk hc hs q fun _ hr => retOut X hx hret hn (Or.inr (Or.inr (Or.inr (Or.inr ⟨rfl, ht, hw⟩)))) hd hr
theorem own_ret0 {pc : Nat} {Ls : Array Slot} {Q : Option Value → Heap → List Loc → Prop} (X : Stand p l e R s m args below meth c T locs cells slots) (hx : p.tables.exec = Jvm.exec) (hret : meth.sig.returnType = none)
    (hd : decode c.code pc = .ok (.return_, 1)) (hlk : meth.locks = false) (hc : cells ≤ R.cells) (hs : slots ≤ R.slots) (q : Q none T.heap locs) : own_Go p e below (own_P s below R Q) T (mkF m pc Ls []) :=
  own_out X (fun _ => rfl) hlk hc hs q fun _ hr => X.returnOut hx hret hd hr
theorem own_hide {n0 : Nat} (X : Stand p l e R s m args below meth c T locs cells slots) (N : Fr n0 locs) : ∃ L, Stand p l e R s m args below meth c T L cells slots ∧ Fr n0 L := ⟨locs, X, N⟩
theorem own_cat1 {v : Value} (h : v.isRef = true) : v.category = 1 := by
  cases v <;> first | rfl | (simp [Value.isRef] at h)
theorem own_fitsR {C : String} {v : Value} (h : v.isRef = true) : fits (.object C) v = true := by
  cases v <;> first | rfl | (simp [Value.isRef] at h)
theorem own_tab (xs : List Int32) (d : Int32) (k : Nat) : (xs.map Value.int).getD k (.int d) = .int (xs.getD k d) := by
  simp only [List.getD_eq_getElem?_getD, List.getElem?_map]
  cases xs[k]? <;> rfl
end OwnKit
theorem own_and_le (x m : Int32) (k : Nat) (hm : m.toBitVec.toNat = k) (hk : k < 2147483648) : 0 ≤ (x &&& m).toInt ∧ (x &&& m).toInt ≤ k := by
  have h1 : (x &&& m).toBitVec.toNat ≤ k := by
    rw [Int32.toBitVec_and, BitVec.toNat_and, hm]; exact Nat.and_le_right
  have h2 : (x &&& m).toInt = ((x &&& m).toBitVec.toNat : Int) := BitVec.toInt_eq_toNat_of_lt (by omega)
  omega
theorem own_i2c (x : Int32) (h0 : 0 ≤ x.toInt) (h1 : x.toInt < 65536) : x.toUInt32.toUInt16.toUInt32.toInt32 = x := by
  have e : x.toInt = (x.toBitVec.toNat : Int) := by
    have := x.toBitVec.isLt
    have q : x.toInt = x.toBitVec.toInt := rfl
    rw [q, BitVec.toInt_eq_toNat_cond] at h0 h1 ⊢
    split at h0 <;> omega
  apply Int32.toBitVec_inj.mp
  apply BitVec.eq_of_toNat_eq
  show ((x.toBitVec.setWidth 16).setWidth 32).toNat = x.toBitVec.toNat
  rw [BitVec.toNat_setWidth, BitVec.toNat_setWidth]
  have : x.toBitVec.toNat < 65536 := by omega
  omega
theorem own_ch (x : Int32) : ¬ (nar .char ((x &&& (255 : Int32)).toUInt32.toUInt16.toUInt32.toInt32)) < 0 ∧ ¬ (255 : Int32) < (nar .char ((x &&& (255 : Int32)).toUInt32.toUInt16.toUInt32.toInt32)) := by
  have h := own_and_le x 255 255 (by decide) (by decide)
  have e := own_i2c (x &&& 255) h.1 (by omega)
  rw [e, show nar .char (x &&& 255) = x &&& 255 from e, Int32.lt_iff_toInt_lt, Int32.lt_iff_toInt_lt, show (255 : Int32).toInt = 255 from by decide, show (0 : Int32).toInt = 0 from by decide]
  omega
/-- an int[] of at most three places, whatever they hold -/
def own_I (Z : State) (h : Heap) (b : Addr) (z : Int32) : Prop := ∃ (k : ClassId) (vs : List Value), vs.length = 3 ∧ Arv Z h b k .int z vs (.int (0 : Int32))
theorem own_I.ext {Z : State} {h h' : Heap} {b : Addr} {z : Int32} (F : own_I Z h b z) (E : Ext h h') : own_I Z h' b z := by
  obtain ⟨k, vs, l, V⟩ := F
  exact ⟨k, vs, l, V.ext E⟩
theorem own_I.other {Z : State} {h h' : Heap} {a b : Addr} {z : Int32} {sl : Nat} {v : Value} (F : own_I Z h b z) (W : Wr h h' a sl v) (q : b ≠ a) : own_I Z h' b z := by
  obtain ⟨k, vs, l, V⟩ := F
  exact ⟨k, vs, l, V.other W q⟩
theorem own_I.keep {Z : State} {h h' : Heap} {b : Addr} {z : Int32} {ws : List Addr} (F : own_I Z h b z) (K : Keep h h' ws) (q : b ∉ ws) : own_I Z h' b z := by
  obtain ⟨k, vs, l, V⟩ := F
  exact ⟨k, vs, l, V.keep K q⟩
theorem own_I.lt {Z : State} {h : Heap} {b : Addr} {z : Int32} (F : own_I Z h b z) : b < h.size := by
  obtain ⟨k, vs, l, V⟩ := F
  exact V.lt
/-- a String[] of at most three places, with what they hold -/
def own_K (Z : State) (h : Heap) (b : Addr) (z : Int32) (vs : List Value) : Prop := vs.length = 3 ∧ ∃ k : ClassId, Ovr Z k "java/lang/String" ∧ Arv Z h b k (.object "java/lang/String") z vs .null
theorem own_K.ext {Z : State} {h h' : Heap} {b : Addr} {z : Int32} {vs : List Value} (F : own_K Z h b z vs) (E : Ext h h') : own_K Z h' b z vs := by
  obtain ⟨l, k, o, V⟩ := F
  exact ⟨l, k, o, V.ext E⟩
theorem own_K.other {Z : State} {h h' : Heap} {a b : Addr} {z : Int32} {vs : List Value} {sl : Nat} {v : Value} (F : own_K Z h b z vs) (W : Wr h h' a sl v) (q : b ≠ a) : own_K Z h' b z vs := by
  obtain ⟨l, k, o, V⟩ := F
  exact ⟨l, k, o, V.other W q⟩
theorem own_K.keep {Z : State} {h h' : Heap} {b : Addr} {z : Int32} {vs : List Value} {ws : List Addr} (F : own_K Z h b z vs) (K : Keep h h' ws) (q : b ∉ ws) : own_K Z h' b z vs := by
  obtain ⟨l, k, o, V⟩ := F
  exact ⟨l, k, o, V.keep K q⟩
theorem own_K.lt {Z : State} {h : Heap} {b : Addr} {z : Int32} {vs : List Value} (F : own_K Z h b z vs) : b < h.size := by
  obtain ⟨l, k, o, V⟩ := F
  exact V.lt
theorem own_lt3 {j z : Int32} (h1 : ¬ j < 0 ∧ j < z) (hz : ¬ (3 : Int32) < z) : j.toNatClampNeg < 3 := by
  obtain ⟨a, b⟩ := h1
  rw [Int32.lt_iff_toInt_lt, show (0 : Int32).toInt = 0 from by decide] at a
  rw [Int32.lt_iff_toInt_lt] at b
  rw [Int32.lt_iff_toInt_lt, show (3 : Int32).toInt = 3 from by decide] at hz
  show j.toInt.toNat < 3
  omega
theorem own_capz {z : Int32} (hz : ¬ (3 : Int32) < z) : z.toNatClampNeg ≤ 3 := by
  rw [Int32.lt_iff_toInt_lt, show (3 : Int32).toInt = 3 from by decide] at hz
  show z.toInt.toNat ≤ 3
  omega
theorem own_fitsR' {C : String} {v : Value} (h : fits (.object C) v = true) : v.isRef = true := by
  cases v <;> first | rfl | (simp [fits] at h)
section OwnStores
variable {p : Program} {l : Launch} {e : Env} {R : Room} {s : State} {m : MethodId} {args : Array Value} {below : List Frame} {meth : Method} {c : Code} {T : State} {locs : List Loc} {cells slots : Nat} {Z : State} {h : Heap}
theorem own_putI (X : Stand p l e R s m args below meth c T locs cells slots) (hx : p.tables.exec = Jvm.exec) (hZ : Z.Warmed39 s.vm) (eT : T.heap = h) {b : Addr} {z j x : Int32} (F : own_I Z h b z) (hj : ¬ j < 0 ∧ j < z) (hz : ¬ (3 : Int32) < z) {g : JFrame} (hg : g.method = m) {rest : List Value} (hs : g.stack = .int x :: .int j :: .ref b :: rest) (hd : decode c.code g.pc = .ok (.iastore, 1)) :
    ∃ T' h', Stand p l e R s m args below meth c T' (locs ++ [⟨b, j.toNatClampNeg⟩]) cells slots ∧ T'.heap = h' ∧ Wr h h' b j.toNatClampNeg (.int x) ∧ own_I Z h' b z ∧ ∀ target, Steps p.tables e below (T'.setTop { g with pc := g.pc + 1, stack := rest }) target → Steps p.tables e below (T.setTop g) target := by
  obtain ⟨k, vs, hl, V⟩ := F
  obtain ⟨cl, A, q, S, N, H, G⟩ := V
  obtain ⟨T', h', X', e', W, st⟩ := stI X hx hZ eT A (j := j) (inb_of S hj) hg hs hd
  exact ⟨T', h', X', e', W, ⟨k, _, by rw [List.length_set, hl], Arv.set A q S N H G rfl W j.toNatClampNeg rfl (by rw [hl]; exact own_lt3 hj hz)⟩, st⟩
theorem own_putK (X : Stand p l e R s m args below meth c T locs cells slots) (hx : p.tables.exec = Jvm.exec) (hZ : Z.Warmed39 s.vm) (eT : T.heap = h) {b : Addr} {z j : Int32} {v : Value} {vs : List Value} (F : own_K Z h b z vs) (hj : ¬ j < 0 ∧ j < z) (hz : ¬ (3 : Int32) < z) (hv : v = .null ∨ ∃ y, v = .ref y ∧ Exa Z h y "java/lang/String") {g : JFrame} (hg : g.method = m) {rest : List Value} (hs : g.stack = v :: .int j :: .ref b :: rest) (hd : decode c.code g.pc = .ok (.aastore, 1)) :
    ∃ T' h', Stand p l e R s m args below meth c T' (locs ++ [⟨b, j.toNatClampNeg⟩]) cells slots ∧ T'.heap = h' ∧ Wr h h' b j.toNatClampNeg v ∧ own_K Z h' b z (vs.set j.toNatClampNeg v) ∧ ∀ target, Steps p.tables e below (T'.setTop { g with pc := g.pc + 1, stack := rest }) target → Steps p.tables e below (T.setTop g) target := by
  obtain ⟨hl, k, o, V⟩ := F
  obtain ⟨cl, A, q, S, N, H, G⟩ := V
  have hsto : Sto Z h b v := by
    rcases hv with rfl | ⟨y, rfl, E⟩
    · exact Or.inl rfl
    · exact Sto.ofV A q o (Ins.self E)
  have hf : fits (.object "java/lang/String") v = true := by rcases hv with rfl | ⟨y, rfl, E⟩ <;> rfl
  obtain ⟨T', h', X', e', W, st⟩ := stR X hx hZ eT A (j := j) (inb_of S hj) rfl hsto hg hs hd
  exact ⟨T', h', X', e', W, ⟨by rw [List.length_set, hl], k, o, Arv.set A q S N H G hf W j.toNatClampNeg rfl (by rw [hl]; exact own_lt3 hj hz)⟩, st⟩
end OwnStores
theorem own_n3 (x : Int32) : ¬ (x &&& (3 : Int32)) < 0 ∧ ¬ (3 : Int32) < (x &&& (3 : Int32)) := by
  have h := own_and_le x 3 3 (by decide) (by decide)
  rw [Int32.lt_iff_toInt_lt, Int32.lt_iff_toInt_lt, show (0 : Int32).toInt = 0 from by decide, show (3 : Int32).toInt = 3 from by decide]
  omega
theorem own_nz {z : Int32} (h : (0 : Int32) < z) : z ≠ 0 := fun q => by
  rw [q] at h; exact absurd h (by decide)
theorem own_mod {y z : Int32} (hy : 0 ≤ y.toInt) (h : (0 : Int32) < z) : ¬ (y % z) < 0 ∧ (y % z) < z := by
  rw [Int32.lt_iff_toInt_lt, show (0 : Int32).toInt = 0 from by decide] at h
  rw [Int32.lt_iff_toInt_lt, Int32.lt_iff_toInt_lt, Int32.toInt_mod, Int.tmod_eq_emod_of_nonneg hy, show (0 : Int32).toInt = 0 from by decide]
  have a := Int.emod_nonneg y.toInt (show z.toInt ≠ 0 by omega)
  have b := Int.emod_lt_of_pos y.toInt h
  omega

theorem d8_0 : decode jdk_65_method_103_code 0 = .ok (.iconst 0, 1) := by decide +kernel
theorem d8_1 : decode jdk_65_method_103_code 1 = .ok (.istore_n 2, 1) := by decide +kernel
theorem d8_2 : decode jdk_65_method_103_code 2 = .ok (.aload_n 0, 1) := by decide +kernel
theorem d8_3 : decode jdk_65_method_103_code 3 = .ok (.arraylength, 1) := by decide +kernel
theorem d8_4 : decode jdk_65_method_103_code 4 = .ok (.istore_n 3, 1) := by decide +kernel
theorem d8_5 : decode jdk_65_method_103_code 5 = .ok (.iload_n 2, 1) := by decide +kernel
theorem d8_6 : decode jdk_65_method_103_code 6 = .ok (.iload_n 3, 1) := by decide +kernel
theorem d8_7 : decode jdk_65_method_103_code 7 = .ok (.if_icmp .ge 13, 3) := by decide +kernel
theorem d8_10 : decode jdk_65_method_103_code 10 = .ok (.aload_n 0, 1) := by decide +kernel
theorem d8_11 : decode jdk_65_method_103_code 11 = .ok (.iload_n 2, 1) := by decide +kernel
theorem d8_12 : decode jdk_65_method_103_code 12 = .ok (.iload_n 1, 1) := by decide +kernel
theorem d8_13 : decode jdk_65_method_103_code 13 = .ok (.iastore, 1) := by decide +kernel
theorem d8_14 : decode jdk_65_method_103_code 14 = .ok (.iinc 2 1, 3) := by decide +kernel
theorem d8_17 : decode jdk_65_method_103_code 17 = .ok (.goto (-12), 3) := by decide +kernel
theorem d8_20 : decode jdk_65_method_103_code 20 = .ok (.return_, 1) := by decide +kernel
theorem pn_java_util_Arrays : plainName "java/util/Arrays" = true := by first | (simp [plainName, overriddenIn]; done) | decide +kernel
theorem own_ef8 (m : MethodId) (x0 : Addr) (x1 : Int32) : entryFrame m #[(.ref x0), (.int x1)] 4 = mkF m 0 #[.val (.ref x0), .val (.int x1), .unset, .unset] [] := by first | (simp [entryFrame, mkF, argsToLocals, Value.category]; done) | rfl
def own_Q8 (Z : State) (a8_0 : Addr) (p8_1 : Int32) (z8 : Int32) (h0 : Heap) (n0 : Nat) (v : Option Value) (h : Heap) (L : List Loc) : Prop := v = none ∧ Fr n0 L ∧ Keep h0 h [a8_0] ∧ own_I Z h a8_0 z8
set_option maxRecDepth 65536 in
set_option maxHeartbeats 40000000 in
theorem own_rm8 (l : Launch) (Z : State) (a0 : Array Value) (hw : ∀ d ∈ tables_1, d.before a0 Z = true) (ws : List Jvm.Cond) (a8_0 : Addr) (p8_1 : Int32) (z8 : Int32) (h0 : Heap) (n0 : Nat) (Z0 : n0 ≤ h0.size) (I8 : own_I Z h0 a8_0 z8) (HZ : ¬ (3 : Int32) < z8) (ge_a8_0 : n0 ≤ a8_0) :
    MetFree l (⟨"java/util/Arrays", "fill", "([II)V"⟩ : MethodName) (head1 (Jvm.Cond.code (⟨"java/util/Arrays", "fill", "([II)V"⟩ : MethodName) jdk_65_method_103_code 4 none :: ws) ({ frames := 0, cells := 0, slots := 0, locals := 0 } : Room)) (fun a U => a = #[(.ref a8_0), (.int p8_1)] ∧ Z.Warmed39 U.vm ∧ U.heap = h0) (fun _ _ _ _ _ => True) (fun _ U o U' => ∃ v L, o = .returned v ∧ own_Q8 Z a8_0 p8_1 z8 h0 n0 v U'.heap L ∧ FrameEnd U o U' L ({ frames := 0, cells := 0, slots := 0, locals := 0 } : Room).cells ({ frames := 0, cells := 0, slots := 0, locals := 0 } : Room).slots) := by
  refine MetFree.of_bodySF (plainFor_of_name pn_java_util_Arrays) hisR ?_
  intro p e s m args below meth c s₁ Bd hml0 hP hK
  obtain ⟨rfl, hZ, hh⟩ := hP
  have hx := Bd.exec
  have hby := Bd.bytes
  have hlk : meth.locks = false := BodyLoose.notSynchronized Bd
  have hml : c.maxLocals = 4 := hml0
  have hown : s.vm.findClass "java/util/Arrays" = some m.cls := findClass_of_methodNamed Bd.named
  have hnm := (name_of_methodNamed Bd.named Bd.method).1
  have X0 : Stand p l e ({ frames := 0, cells := 0, slots := 0, locals := 0 } : Room) s m #[(.ref a8_0), (.int p8_1)] below meth c s₁ [] 0 0 := Stand.of_body Bd
  have e0 : s₁.heap = h0 := by rw [← hh, Bd.state]; rfl
  have N0 := Fr.nil n0
  show own_Go p e below (own_P s below ({ frames := 0, cells := 0, slots := 0, locals := 0 } : Room) (own_Q8 Z a8_0 p8_1 z8 h0 n0)) s₁ (entryFrame m #[(.ref a8_0), (.int p8_1)] 4)
  refine own_in (own_ef8 m a8_0 p8_1) ?_
  refine own_by (T' := s₁) (g' := (mkF m 3 #[.val (.ref a8_0), .val (.int p8_1), .val (.int (0 : Int32)), .unset] [(.ref a8_0)])) (fun t k => ?_) ?_
  · show Steps p.tables e below (s₁.setTop (mkF m 0 #[.val (.ref a8_0), .val (.int p8_1), .unset, .unset] [])) t
    refine XS.iconst X0.here hx rfl (hb hby d8_0) ?_
    show Steps p.tables e below (s₁.setTop (mkF m 1 #[.val (.ref a8_0), .val (.int p8_1), .unset, .unset] [(.int (0 : Int32))])) t
    refine XS.istoreN X0.here hx rfl (hb hby d8_1) rfl (l' := #[.val (.ref a8_0), .val (.int p8_1), .val (.int (0 : Int32)), .unset]) rfl ?_
    show Steps p.tables e below (s₁.setTop (mkF m 2 #[.val (.ref a8_0), .val (.int p8_1), .val (.int (0 : Int32)), .unset] [])) t
    refine XS.aloadN X0.here hx rfl (hb hby d8_2) rfl rfl ?_
    show Steps p.tables e below (s₁.setTop (mkF m 3 #[.val (.ref a8_0), .val (.int p8_1), .val (.int (0 : Int32)), .unset] [(.ref a8_0)])) t
    exact k
  obtain ⟨k1, vs1, hl1, cl1, Ar1, q1, S1, N1, H1, G1⟩ := id I8
  refine own_by (T' := s₁) (g' := (mkF m 4 #[.val (.ref a8_0), .val (.int p8_1), .val (.int (0 : Int32)), .unset] [(.int z8)])) (fun t k => X0.arraylength hx (by rw [e0]; exact Ar1.1) (State.isArrayOf_alike hZ.alike Ar1.2.1) (g := (mkF m 3 #[.val (.ref a8_0), .val (.int p8_1), .val (.int (0 : Int32)), .unset] [(.ref a8_0)])) rfl rfl (hb hby d8_3) t (by rw [len_of S1 N1]; exact k)) ?_
  refine own_by (T' := s₁) (g' := (mkF m 7 #[.val (.ref a8_0), .val (.int p8_1), .val (.int (0 : Int32)), .val (.int z8)] [(.int z8), (.int (0 : Int32))])) (fun t k => ?_) ?_
  · show Steps p.tables e below (s₁.setTop (mkF m 4 #[.val (.ref a8_0), .val (.int p8_1), .val (.int (0 : Int32)), .unset] [(.int z8)])) t
    refine XS.istoreN X0.here hx rfl (hb hby d8_4) rfl (l' := #[.val (.ref a8_0), .val (.int p8_1), .val (.int (0 : Int32)), .val (.int z8)]) rfl ?_
    show Steps p.tables e below (s₁.setTop (mkF m 5 #[.val (.ref a8_0), .val (.int p8_1), .val (.int (0 : Int32)), .val (.int z8)] [])) t
    refine XS.iloadN X0.here hx rfl (hb hby d8_5) rfl ?_
    show Steps p.tables e below (s₁.setTop (mkF m 6 #[.val (.ref a8_0), .val (.int p8_1), .val (.int (0 : Int32)), .val (.int z8)] [(.int (0 : Int32))])) t
    refine XS.iloadN X0.here hx rfl (hb hby d8_6) rfl ?_
    show Steps p.tables e below (s₁.setTop (mkF m 7 #[.val (.ref a8_0), .val (.int p8_1), .val (.int (0 : Int32)), .val (.int z8)] [(.int z8), (.int (0 : Int32))])) t
    exact k
  by_cases hc2 : (0 : Int32) < z8
  · skip
    refine own_by (T' := s₁) (g' := (mkF m 13 #[.val (.ref a8_0), .val (.int p8_1), .val (.int (0 : Int32)), .val (.int z8)] [(.int p8_1), (.int (0 : Int32)), (.ref a8_0)])) (fun t k => ?_) ?_
    · show Steps p.tables e below (s₁.setTop (mkF m 7 #[.val (.ref a8_0), .val (.int p8_1), .val (.int (0 : Int32)), .val (.int z8)] [(.int z8), (.int (0 : Int32))])) t
      refine XS.icmpNo X0.here hx rfl (hb hby d8_7) rfl (tlt hc2).2.1 ?_
      show Steps p.tables e below (s₁.setTop (mkF m 10 #[.val (.ref a8_0), .val (.int p8_1), .val (.int (0 : Int32)), .val (.int z8)] [])) t
      refine XS.aloadN X0.here hx rfl (hb hby d8_10) rfl rfl ?_
      show Steps p.tables e below (s₁.setTop (mkF m 11 #[.val (.ref a8_0), .val (.int p8_1), .val (.int (0 : Int32)), .val (.int z8)] [(.ref a8_0)])) t
      refine XS.iloadN X0.here hx rfl (hb hby d8_11) rfl ?_
      show Steps p.tables e below (s₁.setTop (mkF m 12 #[.val (.ref a8_0), .val (.int p8_1), .val (.int (0 : Int32)), .val (.int z8)] [(.int (0 : Int32)), (.ref a8_0)])) t
      refine XS.iloadN X0.here hx rfl (hb hby d8_12) rfl ?_
      show Steps p.tables e below (s₁.setTop (mkF m 13 #[.val (.ref a8_0), .val (.int p8_1), .val (.int (0 : Int32)), .val (.int z8)] [(.int p8_1), (.int (0 : Int32)), (.ref a8_0)])) t
      exact k
    obtain ⟨T20, h20, X20, e20, W20, I20, st20⟩ := own_putI X0 hx hZ e0 (j := (0 : Int32)) I8 ⟨by decide, hc2⟩ HZ (g := (mkF m 13 #[.val (.ref a8_0), .val (.int p8_1), .val (.int (0 : Int32)), .val (.int z8)] [(.int p8_1), (.int (0 : Int32)), (.ref a8_0)])) rfl rfl (hb hby d8_13)
    have K22 : Keep h0 h20 [a8_0] := (Keep.refl h0 [a8_0]).wr W20 (Or.inl (List.mem_of_getElem? (i := 0) rfl))
    have N23 := Fr.snoc X20 N0 ge_a8_0
    obtain ⟨Lh20, X20, N23⟩ := own_hide X20 N23
    have Z24 := (Nat.le_trans Z0 (Keep.of_wr W20).1)
    refine own_by (T' := T20) (g' := (mkF m 14 #[.val (.ref a8_0), .val (.int p8_1), .val (.int (0 : Int32)), .val (.int z8)] [])) st20 ?_
    refine own_by (T' := T20) (g' := (mkF m 7 #[.val (.ref a8_0), .val (.int p8_1), .val (.int (1 : Int32)), .val (.int z8)] [(.int z8), (.int (1 : Int32))])) (fun t k => ?_) ?_
    · show Steps p.tables e below (T20.setTop (mkF m 14 #[.val (.ref a8_0), .val (.int p8_1), .val (.int (0 : Int32)), .val (.int z8)] [])) t
      refine XS.iinc X20.here hx rfl (hb hby d8_14) rfl (l' := #[.val (.ref a8_0), .val (.int p8_1), .val (.int (1 : Int32)), .val (.int z8)]) rfl ?_
      show Steps p.tables e below (T20.setTop (mkF m 17 #[.val (.ref a8_0), .val (.int p8_1), .val (.int (1 : Int32)), .val (.int z8)] [])) t
      refine XS.goto X20.here hx rfl (pc0 := 17) (pc' := 5) rfl (hb hby d8_17) (by decide) (by decide) ?_
      show Steps p.tables e below (T20.setTop (mkF m 5 #[.val (.ref a8_0), .val (.int p8_1), .val (.int (1 : Int32)), .val (.int z8)] [])) t
      refine XS.iloadN X20.here hx rfl (hb hby d8_5) rfl ?_
      show Steps p.tables e below (T20.setTop (mkF m 6 #[.val (.ref a8_0), .val (.int p8_1), .val (.int (1 : Int32)), .val (.int z8)] [(.int (1 : Int32))])) t
      refine XS.iloadN X20.here hx rfl (hb hby d8_6) rfl ?_
      show Steps p.tables e below (T20.setTop (mkF m 7 #[.val (.ref a8_0), .val (.int p8_1), .val (.int (1 : Int32)), .val (.int z8)] [(.int z8), (.int (1 : Int32))])) t
      exact k
    by_cases hc25 : (1 : Int32) < z8
    · skip
      refine own_by (T' := T20) (g' := (mkF m 13 #[.val (.ref a8_0), .val (.int p8_1), .val (.int (1 : Int32)), .val (.int z8)] [(.int p8_1), (.int (1 : Int32)), (.ref a8_0)])) (fun t k => ?_) ?_
      · show Steps p.tables e below (T20.setTop (mkF m 7 #[.val (.ref a8_0), .val (.int p8_1), .val (.int (1 : Int32)), .val (.int z8)] [(.int z8), (.int (1 : Int32))])) t
        refine XS.icmpNo X20.here hx rfl (hb hby d8_7) rfl (tlt hc25).2.1 ?_
        show Steps p.tables e below (T20.setTop (mkF m 10 #[.val (.ref a8_0), .val (.int p8_1), .val (.int (1 : Int32)), .val (.int z8)] [])) t
        refine XS.aloadN X20.here hx rfl (hb hby d8_10) rfl rfl ?_
        show Steps p.tables e below (T20.setTop (mkF m 11 #[.val (.ref a8_0), .val (.int p8_1), .val (.int (1 : Int32)), .val (.int z8)] [(.ref a8_0)])) t
        refine XS.iloadN X20.here hx rfl (hb hby d8_11) rfl ?_
        show Steps p.tables e below (T20.setTop (mkF m 12 #[.val (.ref a8_0), .val (.int p8_1), .val (.int (1 : Int32)), .val (.int z8)] [(.int (1 : Int32)), (.ref a8_0)])) t
        refine XS.iloadN X20.here hx rfl (hb hby d8_12) rfl ?_
        show Steps p.tables e below (T20.setTop (mkF m 13 #[.val (.ref a8_0), .val (.int p8_1), .val (.int (1 : Int32)), .val (.int z8)] [(.int p8_1), (.int (1 : Int32)), (.ref a8_0)])) t
        exact k
      obtain ⟨T37, h37, X37, e37, W37, I37, st37⟩ := own_putI X20 hx hZ e20 (j := (1 : Int32)) I20 ⟨by decide, hc25⟩ HZ (g := (mkF m 13 #[.val (.ref a8_0), .val (.int p8_1), .val (.int (1 : Int32)), .val (.int z8)] [(.int p8_1), (.int (1 : Int32)), (.ref a8_0)])) rfl rfl (hb hby d8_13)
      have K39 : Keep h0 h37 [a8_0] := K22.wr W37 (Or.inl (List.mem_of_getElem? (i := 0) rfl))
      have N40 := Fr.snoc X37 N23 ge_a8_0
      obtain ⟨Lh37, X37, N40⟩ := own_hide X37 N40
      have Z41 := (Nat.le_trans Z24 (Keep.of_wr W37).1)
      refine own_by (T' := T37) (g' := (mkF m 14 #[.val (.ref a8_0), .val (.int p8_1), .val (.int (1 : Int32)), .val (.int z8)] [])) st37 ?_
      refine own_by (T' := T37) (g' := (mkF m 7 #[.val (.ref a8_0), .val (.int p8_1), .val (.int (2 : Int32)), .val (.int z8)] [(.int z8), (.int (2 : Int32))])) (fun t k => ?_) ?_
      · show Steps p.tables e below (T37.setTop (mkF m 14 #[.val (.ref a8_0), .val (.int p8_1), .val (.int (1 : Int32)), .val (.int z8)] [])) t
        refine XS.iinc X37.here hx rfl (hb hby d8_14) rfl (l' := #[.val (.ref a8_0), .val (.int p8_1), .val (.int (2 : Int32)), .val (.int z8)]) rfl ?_
        show Steps p.tables e below (T37.setTop (mkF m 17 #[.val (.ref a8_0), .val (.int p8_1), .val (.int (2 : Int32)), .val (.int z8)] [])) t
        refine XS.goto X37.here hx rfl (pc0 := 17) (pc' := 5) rfl (hb hby d8_17) (by decide) (by decide) ?_
        show Steps p.tables e below (T37.setTop (mkF m 5 #[.val (.ref a8_0), .val (.int p8_1), .val (.int (2 : Int32)), .val (.int z8)] [])) t
        refine XS.iloadN X37.here hx rfl (hb hby d8_5) rfl ?_
        show Steps p.tables e below (T37.setTop (mkF m 6 #[.val (.ref a8_0), .val (.int p8_1), .val (.int (2 : Int32)), .val (.int z8)] [(.int (2 : Int32))])) t
        refine XS.iloadN X37.here hx rfl (hb hby d8_6) rfl ?_
        show Steps p.tables e below (T37.setTop (mkF m 7 #[.val (.ref a8_0), .val (.int p8_1), .val (.int (2 : Int32)), .val (.int z8)] [(.int z8), (.int (2 : Int32))])) t
        exact k
      by_cases hc42 : (2 : Int32) < z8
      · skip
        refine own_by (T' := T37) (g' := (mkF m 13 #[.val (.ref a8_0), .val (.int p8_1), .val (.int (2 : Int32)), .val (.int z8)] [(.int p8_1), (.int (2 : Int32)), (.ref a8_0)])) (fun t k => ?_) ?_
        · show Steps p.tables e below (T37.setTop (mkF m 7 #[.val (.ref a8_0), .val (.int p8_1), .val (.int (2 : Int32)), .val (.int z8)] [(.int z8), (.int (2 : Int32))])) t
          refine XS.icmpNo X37.here hx rfl (hb hby d8_7) rfl (tlt hc42).2.1 ?_
          show Steps p.tables e below (T37.setTop (mkF m 10 #[.val (.ref a8_0), .val (.int p8_1), .val (.int (2 : Int32)), .val (.int z8)] [])) t
          refine XS.aloadN X37.here hx rfl (hb hby d8_10) rfl rfl ?_
          show Steps p.tables e below (T37.setTop (mkF m 11 #[.val (.ref a8_0), .val (.int p8_1), .val (.int (2 : Int32)), .val (.int z8)] [(.ref a8_0)])) t
          refine XS.iloadN X37.here hx rfl (hb hby d8_11) rfl ?_
          show Steps p.tables e below (T37.setTop (mkF m 12 #[.val (.ref a8_0), .val (.int p8_1), .val (.int (2 : Int32)), .val (.int z8)] [(.int (2 : Int32)), (.ref a8_0)])) t
          refine XS.iloadN X37.here hx rfl (hb hby d8_12) rfl ?_
          show Steps p.tables e below (T37.setTop (mkF m 13 #[.val (.ref a8_0), .val (.int p8_1), .val (.int (2 : Int32)), .val (.int z8)] [(.int p8_1), (.int (2 : Int32)), (.ref a8_0)])) t
          exact k
        obtain ⟨T48, h48, X48, e48, W48, I48, st48⟩ := own_putI X37 hx hZ e37 (j := (2 : Int32)) I37 ⟨by decide, hc42⟩ HZ (g := (mkF m 13 #[.val (.ref a8_0), .val (.int p8_1), .val (.int (2 : Int32)), .val (.int z8)] [(.int p8_1), (.int (2 : Int32)), (.ref a8_0)])) rfl rfl (hb hby d8_13)
        have K50 : Keep h0 h48 [a8_0] := K39.wr W48 (Or.inl (List.mem_of_getElem? (i := 0) rfl))
        have N51 := Fr.snoc X48 N40 ge_a8_0
        obtain ⟨Lh48, X48, N51⟩ := own_hide X48 N51
        have Z52 := (Nat.le_trans Z41 (Keep.of_wr W48).1)
        refine own_by (T' := T48) (g' := (mkF m 14 #[.val (.ref a8_0), .val (.int p8_1), .val (.int (2 : Int32)), .val (.int z8)] [])) st48 ?_
        refine own_by (T' := T48) (g' := (mkF m 20 #[.val (.ref a8_0), .val (.int p8_1), .val (.int (3 : Int32)), .val (.int z8)] [])) (fun t k => ?_) ?_
        · show Steps p.tables e below (T48.setTop (mkF m 14 #[.val (.ref a8_0), .val (.int p8_1), .val (.int (2 : Int32)), .val (.int z8)] [])) t
          refine XS.iinc X48.here hx rfl (hb hby d8_14) rfl (l' := #[.val (.ref a8_0), .val (.int p8_1), .val (.int (3 : Int32)), .val (.int z8)]) rfl ?_
          show Steps p.tables e below (T48.setTop (mkF m 17 #[.val (.ref a8_0), .val (.int p8_1), .val (.int (3 : Int32)), .val (.int z8)] [])) t
          refine XS.goto X48.here hx rfl (pc0 := 17) (pc' := 5) rfl (hb hby d8_17) (by decide) (by decide) ?_
          show Steps p.tables e below (T48.setTop (mkF m 5 #[.val (.ref a8_0), .val (.int p8_1), .val (.int (3 : Int32)), .val (.int z8)] [])) t
          refine XS.iloadN X48.here hx rfl (hb hby d8_5) rfl ?_
          show Steps p.tables e below (T48.setTop (mkF m 6 #[.val (.ref a8_0), .val (.int p8_1), .val (.int (3 : Int32)), .val (.int z8)] [(.int (3 : Int32))])) t
          refine XS.iloadN X48.here hx rfl (hb hby d8_6) rfl ?_
          show Steps p.tables e below (T48.setTop (mkF m 7 #[.val (.ref a8_0), .val (.int p8_1), .val (.int (3 : Int32)), .val (.int z8)] [(.int z8), (.int (3 : Int32))])) t
          refine XS.icmpYes X48.here hx rfl (pc0 := 7) (pc' := 20) rfl (hb hby d8_7) rfl (flt HZ).2.1 (by decide) (by decide) ?_
          show Steps p.tables e below (T48.setTop (mkF m 20 #[.val (.ref a8_0), .val (.int p8_1), .val (.int (3 : Int32)), .val (.int z8)] [])) t
          exact k
        exact own_ret0 X48 hx Bd.returns (hb hby d8_20) hlk (by decide) (by decide) (by rw [e48]; exact ⟨rfl, N51, K50, I48⟩)
      · skip
        refine own_by (T' := T37) (g' := (mkF m 20 #[.val (.ref a8_0), .val (.int p8_1), .val (.int (2 : Int32)), .val (.int z8)] [])) (fun t k => ?_) ?_
        · show Steps p.tables e below (T37.setTop (mkF m 7 #[.val (.ref a8_0), .val (.int p8_1), .val (.int (2 : Int32)), .val (.int z8)] [(.int z8), (.int (2 : Int32))])) t
          refine XS.icmpYes X37.here hx rfl (pc0 := 7) (pc' := 20) rfl (hb hby d8_7) rfl (flt hc42).2.1 (by decide) (by decide) ?_
          show Steps p.tables e below (T37.setTop (mkF m 20 #[.val (.ref a8_0), .val (.int p8_1), .val (.int (2 : Int32)), .val (.int z8)] [])) t
          exact k
        exact own_ret0 X37 hx Bd.returns (hb hby d8_20) hlk (by decide) (by decide) (by rw [e37]; exact ⟨rfl, N40, K39, I37⟩)
    · skip
      refine own_by (T' := T20) (g' := (mkF m 20 #[.val (.ref a8_0), .val (.int p8_1), .val (.int (1 : Int32)), .val (.int z8)] [])) (fun t k => ?_) ?_
      · show Steps p.tables e below (T20.setTop (mkF m 7 #[.val (.ref a8_0), .val (.int p8_1), .val (.int (1 : Int32)), .val (.int z8)] [(.int z8), (.int (1 : Int32))])) t
        refine XS.icmpYes X20.here hx rfl (pc0 := 7) (pc' := 20) rfl (hb hby d8_7) rfl (flt hc25).2.1 (by decide) (by decide) ?_
        show Steps p.tables e below (T20.setTop (mkF m 20 #[.val (.ref a8_0), .val (.int p8_1), .val (.int (1 : Int32)), .val (.int z8)] [])) t
        exact k
      exact own_ret0 X20 hx Bd.returns (hb hby d8_20) hlk (by decide) (by decide) (by rw [e20]; exact ⟨rfl, N23, K22, I20⟩)
  · skip
    refine own_by (T' := s₁) (g' := (mkF m 20 #[.val (.ref a8_0), .val (.int p8_1), .val (.int (0 : Int32)), .val (.int z8)] [])) (fun t k => ?_) ?_
    · show Steps p.tables e below (s₁.setTop (mkF m 7 #[.val (.ref a8_0), .val (.int p8_1), .val (.int (0 : Int32)), .val (.int z8)] [(.int z8), (.int (0 : Int32))])) t
      refine XS.icmpYes X0.here hx rfl (pc0 := 7) (pc' := 20) rfl (hb hby d8_7) rfl (flt hc2).2.1 (by decide) (by decide) ?_
      show Steps p.tables e below (s₁.setTop (mkF m 20 #[.val (.ref a8_0), .val (.int p8_1), .val (.int (0 : Int32)), .val (.int z8)] [])) t
      exact k
    exact own_ret0 X0 hx Bd.returns (hb hby d8_20) hlk (by decide) (by decide) (by rw [e0]; exact ⟨rfl, N0, (Keep.refl h0 [a8_0]), I8⟩)
theorem d7_0 : decode prog_45_method_1_code 0 = .ok (.aload_n 0, 1) := by decide +kernel
theorem d7_1 : decode prog_45_method_1_code 1 = .ok (.invokespecial 1, 3) := by decide +kernel
theorem d7_4 : decode prog_45_method_1_code 4 = .ok (.aload_n 0, 1) := by decide +kernel
theorem d7_5 : decode prog_45_method_1_code 5 = .ok (.aload_n 1, 1) := by decide +kernel
theorem d7_6 : decode prog_45_method_1_code 6 = .ok (.putfield 7, 3) := by decide +kernel
theorem d7_9 : decode prog_45_method_1_code 9 = .ok (.aload_n 0, 1) := by decide +kernel
theorem d7_10 : decode prog_45_method_1_code 10 = .ok (.iload_n 2, 1) := by decide +kernel
theorem d7_11 : decode prog_45_method_1_code 11 = .ok (.newarray .int, 2) := by decide +kernel
theorem d7_13 : decode prog_45_method_1_code 13 = .ok (.putfield 13, 3) := by decide +kernel
theorem d7_16 : decode prog_45_method_1_code 16 = .ok (.aload_n 0, 1) := by decide +kernel
theorem d7_17 : decode prog_45_method_1_code 17 = .ok (.getfield 13, 3) := by decide +kernel
theorem d7_20 : decode prog_45_method_1_code 20 = .ok (.bipush 48, 2) := by decide +kernel
theorem d7_22 : decode prog_45_method_1_code 22 = .ok (.invokestatic 17, 3) := by decide +kernel
theorem pd___II_V : parseMethodDescriptor "([II)V" = some ⟨[(.array .int), .int], none⟩ := by decide +kernel
theorem d7_25 : decode prog_45_method_1_code 25 = .ok (.aload_n 0, 1) := by decide +kernel
theorem d7_26 : decode prog_45_method_1_code 26 = .ok (.iload_n 2, 1) := by decide +kernel
theorem d7_27 : decode prog_45_method_1_code 27 = .ok (.anewarray 23, 3) := by decide +kernel
theorem d7_30 : decode prog_45_method_1_code 30 = .ok (.putfield 25, 3) := by decide +kernel
theorem d7_33 : decode prog_45_method_1_code 33 = .ok (.return_, 1) := by decide +kernel
theorem pn_com_example_yohokit_yohokit_Parts : plainName "com/example/yohokit/yohokit/Parts" = true := by first | (simp [plainName, overriddenIn]; done) | decide +kernel
theorem own_ef7 (m : MethodId) (x0 : Addr) (x2 : Int32) : entryFrame m #[(.ref x0), .null, (.int x2)] 3 = mkF m 0 #[.val (.ref x0), .val .null, .val (.int x2)] [] := by first | (simp [entryFrame, mkF, argsToLocals, Value.category]; done) | rfl
def own_Q7 (Z : State) (a7_0 : Addr) (p7_2 : Int32) (u_lines_a7_0 : Value) (u_characters_a7_0 : Value) (u_keys_a7_0 : Value) (h0 : Heap) (n0 : Nat) (v : Option Value) (h : Heap) (L : List Loc) : Prop := ∃ b1 b2 : Addr, v = none ∧ Fr n0 L ∧ Keep h0 h [a7_0] ∧ Exa Z h a7_0 "com/example/yohokit/yohokit/Parts" ∧ Fld Z h a7_0 "com/example/yohokit/yohokit/Parts" "characters" "[I" (.ref b1) ∧ Fld Z h a7_0 "com/example/yohokit/yohokit/Parts" "keys" "[Ljava/lang/String;" (.ref b2) ∧ h0.size ≤ b1 ∧ n0 ≤ b1 ∧ h0.size ≤ b2 ∧ n0 ≤ b2 ∧ b1 ≠ b2 ∧ own_I Z h b1 p7_2 ∧ own_K Z h b2 p7_2 [.null, .null, .null]
set_option maxRecDepth 65536 in
set_option maxHeartbeats 40000000 in
theorem own_rm7 (l : Launch) (Z : State) (a0 : Array Value) (hw : ∀ d ∈ tables_1, d.before a0 Z = true) (ws : List Jvm.Cond) (a7_0 : Addr) (p7_2 : Int32) (u_lines_a7_0 : Value) (u_characters_a7_0 : Value) (u_keys_a7_0 : Value) (h0 : Heap) (n0 : Nat) (Z0 : n0 ≤ h0.size) (HN : ¬ p7_2 < 0) (HZ : ¬ (3 : Int32) < p7_2) (E_a7_0 : Exa Z h0 a7_0 "com/example/yohokit/yohokit/Parts") (F_lines_a7_0 : Fld Z h0 a7_0 "com/example/yohokit/yohokit/Parts" "lines" "Ljava/util/Map;" u_lines_a7_0) (ge_a7_0 : n0 ≤ a7_0) (F_characters_a7_0 : Fld Z h0 a7_0 "com/example/yohokit/yohokit/Parts" "characters" "[I" u_characters_a7_0) (F_keys_a7_0 : Fld Z h0 a7_0 "com/example/yohokit/yohokit/Parts" "keys" "[Ljava/lang/String;" u_keys_a7_0) :
    MetFree l (⟨"com/example/yohokit/yohokit/Parts", "<init>", "(Ljava/util/Map;I)V"⟩ : MethodName) (head1 (Jvm.Cond.code (⟨"com/example/yohokit/yohokit/Parts", "<init>", "(Ljava/util/Map;I)V"⟩ : MethodName) prog_45_method_1_code 3 none :: ws) ({ frames := 1, cells := 2, slots := 6, locals := 15 } : Room)) (fun a U => a = #[(.ref a7_0), .null, (.int p7_2)] ∧ Z.Warmed39 U.vm ∧ U.heap = h0) (fun _ _ _ _ _ => True) (fun _ U o U' => ∃ v L, o = .returned v ∧ own_Q7 Z a7_0 p7_2 u_lines_a7_0 u_characters_a7_0 u_keys_a7_0 h0 n0 v U'.heap L ∧ FrameEnd U o U' L ({ frames := 1, cells := 2, slots := 6, locals := 15 } : Room).cells ({ frames := 1, cells := 2, slots := 6, locals := 15 } : Room).slots) := by
  refine MetFree.of_bodySF (plainFor_of_name pn_com_example_yohokit_yohokit_Parts) hisR ?_
  intro p e s m args below meth c s₁ Bd hml0 hP hK
  obtain ⟨rfl, hZ, hh⟩ := hP
  have hx := Bd.exec
  have hby := Bd.bytes
  have hlk : meth.locks = false := BodyLoose.notSynchronized Bd
  have hml : c.maxLocals = 3 := hml0
  have hown : s.vm.findClass "com/example/yohokit/yohokit/Parts" = some m.cls := findClass_of_methodNamed Bd.named
  have hnm := (name_of_methodNamed Bd.named Bd.method).1
  have X0 : Stand p l e ({ frames := 1, cells := 2, slots := 6, locals := 15 } : Room) s m #[(.ref a7_0), .null, (.int p7_2)] below meth c s₁ [] 0 0 := Stand.of_body Bd
  have e0 : s₁.heap = h0 := by rw [← hh, Bd.state]; rfl
  have N0 := Fr.nil n0
  show own_Go p e below (own_P s below ({ frames := 1, cells := 2, slots := 6, locals := 15 } : Room) (own_Q7 Z a7_0 p7_2 u_lines_a7_0 u_characters_a7_0 u_keys_a7_0 h0 n0)) s₁ (entryFrame m #[(.ref a7_0), .null, (.int p7_2)] 3)
  refine own_in (own_ef7 m a7_0 p7_2) ?_
  refine own_by (T' := s₁) (g' := (mkF m 1 #[.val (.ref a7_0), .val .null, .val (.int p7_2)] [(.ref a7_0)])) (fun t k => ?_) ?_
  · show Steps p.tables e below (s₁.setTop (mkF m 0 #[.val (.ref a7_0), .val .null, .val (.int p7_2)] [])) t
    refine XS.aloadN X0.here hx rfl (hb hby d7_0) rfl rfl ?_
    show Steps p.tables e below (s₁.setTop (mkF m 1 #[.val (.ref a7_0), .val .null, .val (.int p7_2)] [(.ref a7_0)])) t
    exact k
  obtain ⟨T53, X53, e53, st53⟩ := initO X0 hx hZ hown (hw _ (List.mem_of_getElem? (i := 36) rfl)) (hw _ (List.mem_of_getElem? (i := 12) rfl)) (hw _ (List.mem_of_getElem? (i := 13) rfl)) e0 (g := (mkF m 1 #[.val (.ref a7_0), .val .null, .val (.int p7_2)] [(.ref a7_0)])) rfl (by rw [hml]; rfl) rfl (hb hby d7_1) (by decide) (W := 0) (by show 2 * 0 + _ ≤ _; exact Nat.le_of_eq rfl) (by decide)
  refine own_by (T' := T53) (g' := (mkF m 4 #[.val (.ref a7_0), .val .null, .val (.int p7_2)] [])) st53 ?_
  refine own_by (T' := T53) (g' := (mkF m 6 #[.val (.ref a7_0), .val .null, .val (.int p7_2)] [.null, (.ref a7_0)])) (fun t k => ?_) ?_
  · show Steps p.tables e below (T53.setTop (mkF m 4 #[.val (.ref a7_0), .val .null, .val (.int p7_2)] [])) t
    refine XS.aloadN X53.here hx rfl (hb hby d7_4) rfl rfl ?_
    show Steps p.tables e below (T53.setTop (mkF m 5 #[.val (.ref a7_0), .val .null, .val (.int p7_2)] [(.ref a7_0)])) t
    refine XS.aloadN X53.here hx rfl (hb hby d7_5) rfl rfl ?_
    show Steps p.tables e below (T53.setTop (mkF m 6 #[.val (.ref a7_0), .val .null, .val (.int p7_2)] [.null, (.ref a7_0)])) t
    exact k
  obtain ⟨T54, h54, X54, e54, W54, st54⟩ := putF X53 hx hZ hown (host := "") (Or.inl (hw _ (List.mem_of_getElem? (i := 37) rfl))) Via.refl e53 F_lines_a7_0 E_a7_0 (Or.inr ⟨(hw _ (List.mem_of_getElem? (i := 38) rfl)), rfl, hnm⟩) (hw _ (List.mem_of_getElem? (i := 31) rfl)) (ty := (.object "java/util/Map")) (by decide) rfl rfl (g := (mkF m 6 #[.val (.ref a7_0), .val .null, .val (.int p7_2)] [.null, (.ref a7_0)])) rfl rfl (hb hby d7_6)
  have f55 := F_lines_a7_0.same W54
  have f56 := E_a7_0.wr W54
  have f58 := F_characters_a7_0.other W54 (Or.inr (slot_ne (Or.inr (hw _ (List.mem_of_getElem? (i := 41) rfl))) (Or.inr (hw _ (List.mem_of_getElem? (i := 38) rfl))) (by decide) (t := (.array .int)) (t' := (.object "java/util/Map")) (by decide) (by decide)))
  have f59 := F_keys_a7_0.other W54 (Or.inr (slot_ne (Or.inr (hw _ (List.mem_of_getElem? (i := 49) rfl))) (Or.inr (hw _ (List.mem_of_getElem? (i := 38) rfl))) (by decide) (t := (.array (.object "java/lang/String"))) (t' := (.object "java/util/Map")) (by decide) (by decide)))
  have K60 : Keep h0 h54 [a7_0] := (Keep.refl h0 [a7_0]).wr W54 (Or.inl (List.mem_of_getElem? (i := 0) rfl))
  have N61 := Fr.snoc X54 N0 ge_a7_0
  obtain ⟨Lh54, X54, N61⟩ := own_hide X54 N61
  have Z62 := (Nat.le_trans Z0 (Keep.of_wr W54).1)
  refine own_by (T' := T54) (g' := (mkF m 9 #[.val (.ref a7_0), .val .null, .val (.int p7_2)] [])) st54 ?_
  refine own_by (T' := T54) (g' := (mkF m 11 #[.val (.ref a7_0), .val .null, .val (.int p7_2)] [(.int p7_2), (.ref a7_0)])) (fun t k => ?_) ?_
  · show Steps p.tables e below (T54.setTop (mkF m 9 #[.val (.ref a7_0), .val .null, .val (.int p7_2)] [])) t
    refine XS.aloadN X54.here hx rfl (hb hby d7_9) rfl rfl ?_
    show Steps p.tables e below (T54.setTop (mkF m 10 #[.val (.ref a7_0), .val .null, .val (.int p7_2)] [(.ref a7_0)])) t
    refine XS.iloadN X54.here hx rfl (hb hby d7_10) rfl ?_
    show Steps p.tables e below (T54.setTop (mkF m 11 #[.val (.ref a7_0), .val .null, .val (.int p7_2)] [(.int p7_2), (.ref a7_0)])) t
    exact k
  obtain ⟨T63, h63, k63, X63, e63, E63, A63, st63⟩ := newP X54 hx hZ (hw _ (List.mem_of_getElem? (i := 39) rfl)) e54 (g := (mkF m 11 #[.val (.ref a7_0), .val .null, .val (.int p7_2)] [(.int p7_2), (.ref a7_0)])) rfl (hb hby d7_11) rfl HN (cap := 3) (own_capz HZ) (by decide) (by decide) (by decide)
  obtain ⟨b63, g63⟩ : ∃ z, z = h54.size := ⟨_, rfl⟩
  rw [← g63] at A63 st63
  have gn_b63 : n0 ≤ b63 := Nat.le_trans Z62 (Nat.le_of_eq g63.symm)
  have sz_b63 : h0.size ≤ b63 := Nat.le_trans K60.1 (Nat.le_of_eq g63.symm)
  have ne_a7_0_b63 : a7_0 ≠ b63 := Nat.ne_of_lt (Nat.lt_of_lt_of_le f59.lt (Nat.le_of_eq g63.symm))
  have f64 := f56.ext E63
  have f65 := f55.ext E63
  have f66 := f58.ext E63
  have f67 := f59.ext E63
  have K68 : Keep h0 h63 [a7_0] := K60.ext E63
  have Z69 := Nat.le_trans Z62 E63.1
  have f70 : own_I Z h63 b63 p7_2 := ⟨k63, [(.int (0 : Int32)), (.int (0 : Int32)), (.int (0 : Int32))], rfl, (Arv.new A63 HN).pad (pad_rep [] (.int (0 : Int32)) 3)⟩
  refine own_by (T' := T63) (g' := (mkF m 13 #[.val (.ref a7_0), .val .null, .val (.int p7_2)] [(.ref b63), (.ref a7_0)])) st63 ?_
  obtain ⟨T71, h71, X71, e71, W71, st71⟩ := putF X63 hx hZ hown (host := "") (Or.inl (hw _ (List.mem_of_getElem? (i := 40) rfl))) Via.refl e63 f66 f64 (Or.inr ⟨(hw _ (List.mem_of_getElem? (i := 41) rfl)), rfl, hnm⟩) (hw _ (List.mem_of_getElem? (i := 31) rfl)) (ty := (.array .int)) (by decide) rfl rfl (g := (mkF m 13 #[.val (.ref a7_0), .val .null, .val (.int p7_2)] [(.ref b63), (.ref a7_0)])) rfl rfl (hb hby d7_13)
  have f72 := f66.same W71
  have f73 := f64.wr W71
  have f74 := f65.other W71 (Or.inr (slot_ne (Or.inr (hw _ (List.mem_of_getElem? (i := 38) rfl))) (Or.inr (hw _ (List.mem_of_getElem? (i := 41) rfl))) (by decide) (t := (.object "java/util/Map")) (t' := (.array .int)) (by decide) (by decide)))
  have f76 := f67.other W71 (Or.inr (slot_ne (Or.inr (hw _ (List.mem_of_getElem? (i := 49) rfl))) (Or.inr (hw _ (List.mem_of_getElem? (i := 41) rfl))) (by decide) (t := (.array (.object "java/lang/String"))) (t' := (.array .int)) (by decide) (by decide)))
  have f77 := f70.other W71 (Ne.symm ne_a7_0_b63)
  have K78 : Keep h0 h71 [a7_0] := K68.wr W71 (Or.inl (List.mem_of_getElem? (i := 0) rfl))
  have N79 := Fr.snoc X71 N61 ge_a7_0
  obtain ⟨Lh71, X71, N79⟩ := own_hide X71 N79
  have Z80 := (Nat.le_trans Z69 (Keep.of_wr W71).1)
  refine own_by (T' := T71) (g' := (mkF m 16 #[.val (.ref a7_0), .val .null, .val (.int p7_2)] [])) st71 ?_
  refine own_by (T' := T71) (g' := (mkF m 17 #[.val (.ref a7_0), .val .null, .val (.int p7_2)] [(.ref a7_0)])) (fun t k => ?_) ?_
  · show Steps p.tables e below (T71.setTop (mkF m 16 #[.val (.ref a7_0), .val .null, .val (.int p7_2)] [])) t
    refine XS.aloadN X71.here hx rfl (hb hby d7_16) rfl rfl ?_
    show Steps p.tables e below (T71.setTop (mkF m 17 #[.val (.ref a7_0), .val .null, .val (.int p7_2)] [(.ref a7_0)])) t
    exact k
  obtain ⟨T81, X81, e81, st81⟩ := getF X71 hx hZ hown (host := "") (Or.inl (hw _ (List.mem_of_getElem? (i := 40) rfl))) Via.refl e71 f72 (g := (mkF m 17 #[.val (.ref a7_0), .val .null, .val (.int p7_2)] [(.ref a7_0)])) rfl rfl (hb hby d7_17)
  refine own_by (T' := T81) (g' := (mkF m 20 #[.val (.ref a7_0), .val .null, .val (.int p7_2)] [(.ref b63)])) st81 ?_
  refine own_by (T' := T81) (g' := (mkF m 22 #[.val (.ref a7_0), .val .null, .val (.int p7_2)] [(.int (48 : Int32)), (.ref b63)])) (fun t k => ?_) ?_
  · show Steps p.tables e below (T81.setTop (mkF m 20 #[.val (.ref a7_0), .val .null, .val (.int p7_2)] [(.ref b63)])) t
    refine XS.bipush X81.here hx rfl (hb hby d7_20) ?_
    show Steps p.tables e below (T81.setTop (mkF m 22 #[.val (.ref a7_0), .val .null, .val (.int p7_2)] [(.int (48 : Int32)), (.ref b63)])) t
    exact k
  obtain ⟨v82, _, ⟨T82, L82, k82, n82⟩, -, X82, ⟨Lc82, hQ82, l82, y82, z82⟩, st82⟩ := Jvm.LawKit.callS X81 hx (y := (⟨"java/util/Arrays", "fill", "([II)V"⟩ : MethodName)) hown (mvT hZ (hw _ (List.mem_of_getElem? (i := 42) rfl))) (mvT hZ (hw _ (List.mem_of_getElem? (i := 43) rfl))) (mvT hZ (hw _ (List.mem_of_getElem? (i := 44) rfl))) (mvT hZ (hw _ (List.mem_of_getElem? (i := 45) rfl))) (by decide) (backOf (W := 0) (own_rm8 l Z a0 hw [] b63 (48 : Int32) p7_2 h71 n0 Z80 f77 HZ gn_b63) hZ (hw _ (List.mem_of_getElem? (i := 45) rfl)) (hw _ (List.mem_of_getElem? (i := 44) rfl)) (by decide) (by decide)) (g := (mkF m 22 #[.val (.ref a7_0), .val .null, .val (.int p7_2)] [(.int (48 : Int32)), (.ref b63)])) rfl (by rw [hml]; rfl) (argsL := [(.ref b63), (.int (48 : Int32))]) (rest := []) (lenOf pd___II_V rfl) rfl (by show 2 * 0 + _ ≤ _; exact Nat.le_of_eq rfl) (hb hby d7_22) (fun _ _ => ⟨rfl, e81, (by decide : 1 + 0 ≤ _), (by decide : 3 + 0 ≤ _)⟩)
  dsimp only [Pt.U, Pt.locs, Pt.cells, Pt.slots] at X82 l82 y82 z82 st82 hQ82
  subst y82 z82
  obtain ⟨rfl, M82, K82, f83⟩ := hQ82
  have f84 := f73.keep K82
  have f85 := f74.keep K82 (ninS ne_a7_0_b63 nin0)
  have f86 := f72.keep K82 (ninS ne_a7_0_b63 nin0)
  have f87 := f76.keep K82 (ninS ne_a7_0_b63 nin0)
  have K88 : Keep h0 T82.heap [a7_0] := K78.trans K82 (allS (Or.inr sz_b63) all0)
  have Z89 := Nat.le_trans Z80 K82.1
  have N90 : Fr n0 L82 := by rw [l82]; exact Fr.app N79 M82
  refine own_by (T' := T82) (g' := (mkF m 25 #[.val (.ref a7_0), .val .null, .val (.int p7_2)] [])) st82 ?_
  refine own_by (T' := T82) (g' := (mkF m 27 #[.val (.ref a7_0), .val .null, .val (.int p7_2)] [(.int p7_2), (.ref a7_0)])) (fun t k => ?_) ?_
  · show Steps p.tables e below (T82.setTop (mkF m 25 #[.val (.ref a7_0), .val .null, .val (.int p7_2)] [])) t
    refine XS.aloadN X82.here hx rfl (hb hby d7_25) rfl rfl ?_
    show Steps p.tables e below (T82.setTop (mkF m 26 #[.val (.ref a7_0), .val .null, .val (.int p7_2)] [(.ref a7_0)])) t
    refine XS.iloadN X82.here hx rfl (hb hby d7_26) rfl ?_
    show Steps p.tables e below (T82.setTop (mkF m 27 #[.val (.ref a7_0), .val .null, .val (.int p7_2)] [(.int p7_2), (.ref a7_0)])) t
    exact k
  obtain ⟨T91, h91, k91, X91, e91, E91, A91, O91v, st91⟩ := newR X82 hx hZ hown (hw _ (List.mem_of_getElem? (i := 46) rfl)) (hw _ (List.mem_of_getElem? (i := 47) rfl)) rfl (g := (mkF m 27 #[.val (.ref a7_0), .val .null, .val (.int p7_2)] [(.int p7_2), (.ref a7_0)])) rfl (hb hby d7_27) rfl HN (cap := 3) (own_capz HZ) (by decide) (by decide) (by decide)
  obtain ⟨b91, g91⟩ : ∃ z, z = T82.heap.size := ⟨_, rfl⟩
  rw [← g91] at A91 st91
  have gn_b91 : n0 ≤ b91 := Nat.le_trans Z89 (Nat.le_of_eq g91.symm)
  have sz_b91 : h0.size ≤ b91 := Nat.le_trans K88.1 (Nat.le_of_eq g91.symm)
  have ne_a7_0_b91 : a7_0 ≠ b91 := Nat.ne_of_lt (Nat.lt_of_lt_of_le f87.lt (Nat.le_of_eq g91.symm))
  have ne_b63_b91 : b63 ≠ b91 := Nat.ne_of_lt (Nat.lt_of_lt_of_le f83.lt (Nat.le_of_eq g91.symm))
  have f92 := f84.ext E91
  have f93 := f85.ext E91
  have f94 := f86.ext E91
  have f95 := f87.ext E91
  have f96 := f83.ext E91
  have K97 : Keep h0 h91 [a7_0] := K88.ext E91
  have Z98 := Nat.le_trans Z89 E91.1
  have f99 : own_K Z h91 b91 p7_2 ([.null, .null, .null]) := ⟨rfl, k91, O91v, (Arv.new A91 HN).pad (pad_rep [] .null 3)⟩
  refine own_by (T' := T91) (g' := (mkF m 30 #[.val (.ref a7_0), .val .null, .val (.int p7_2)] [(.ref b91), (.ref a7_0)])) st91 ?_
  obtain ⟨T100, h100, X100, e100, W100, st100⟩ := putF X91 hx hZ hown (host := "") (Or.inl (hw _ (List.mem_of_getElem? (i := 48) rfl))) Via.refl e91 f95 f92 (Or.inr ⟨(hw _ (List.mem_of_getElem? (i := 49) rfl)), rfl, hnm⟩) (hw _ (List.mem_of_getElem? (i := 31) rfl)) (ty := (.array (.object "java/lang/String"))) (by decide) rfl rfl (g := (mkF m 30 #[.val (.ref a7_0), .val .null, .val (.int p7_2)] [(.ref b91), (.ref a7_0)])) rfl rfl (hb hby d7_30)
  have f101 := f95.same W100
  have f102 := f92.wr W100
  have f103 := f93.other W100 (Or.inr (slot_ne (Or.inr (hw _ (List.mem_of_getElem? (i := 38) rfl))) (Or.inr (hw _ (List.mem_of_getElem? (i := 49) rfl))) (by decide) (t := (.object "java/util/Map")) (t' := (.array (.object "java/lang/String"))) (by decide) (by decide)))
  have f104 := f94.other W100 (Or.inr (slot_ne (Or.inr (hw _ (List.mem_of_getElem? (i := 41) rfl))) (Or.inr (hw _ (List.mem_of_getElem? (i := 49) rfl))) (by decide) (t := (.array .int)) (t' := (.array (.object "java/lang/String"))) (by decide) (by decide)))
  have f106 := f96.other W100 (Ne.symm ne_a7_0_b63)
  have f107 := f99.other W100 (Ne.symm ne_a7_0_b91)
  have K108 : Keep h0 h100 [a7_0] := K97.wr W100 (Or.inl (List.mem_of_getElem? (i := 0) rfl))
  have N109 := Fr.snoc X100 N90 ge_a7_0
  obtain ⟨Lh100, X100, N109⟩ := own_hide X100 N109
  have Z110 := (Nat.le_trans Z98 (Keep.of_wr W100).1)
  refine own_by (T' := T100) (g' := (mkF m 33 #[.val (.ref a7_0), .val .null, .val (.int p7_2)] [])) st100 ?_
  exact own_ret0 X100 hx Bd.returns (hb hby d7_33) hlk (by decide) (by decide) (by rw [e100]; exact ⟨b63, b91, rfl, N109, K108, f102, f104, f101, sz_b63, gn_b63, sz_b91, gn_b91, ne_b63_b91, f106, f107⟩)
theorem own_sk {Z : State} {h h' : Heap} {a : Addr} {sl : Nat} {w v : Value} (F : v = .null ∨ ∃ y, v = .ref y ∧ Exa Z h y "java/lang/String") (W : Wr h h' a sl w) : v = .null ∨ ∃ y, v = .ref y ∧ Exa Z h' y "java/lang/String" := by
  rcases F with q | ⟨y, q, E⟩
  · exact Or.inl q
  · exact Or.inr ⟨y, q, E.wr W⟩
theorem d11_0 : decode prog_45_method_6_code 0 = .ok (.aload_n 0, 1) := by decide +kernel
theorem d11_1 : decode prog_45_method_6_code 1 = .ok (.getfield 13, 3) := by decide +kernel
theorem d11_4 : decode prog_45_method_6_code 4 = .ok (.iload_n 2, 1) := by decide +kernel
theorem d11_5 : decode prog_45_method_6_code 5 = .ok (.iload_n 3, 1) := by decide +kernel
theorem d11_6 : decode prog_45_method_6_code 6 = .ok (.iastore, 1) := by decide +kernel
theorem d11_7 : decode prog_45_method_6_code 7 = .ok (.aload_n 0, 1) := by decide +kernel
theorem d11_8 : decode prog_45_method_6_code 8 = .ok (.getfield 25, 3) := by decide +kernel
theorem d11_11 : decode prog_45_method_6_code 11 = .ok (.iload_n 2, 1) := by decide +kernel
theorem d11_12 : decode prog_45_method_6_code 12 = .ok (.aload_n 1, 1) := by decide +kernel
theorem d11_13 : decode prog_45_method_6_code 13 = .ok (.aastore, 1) := by decide +kernel
theorem d11_14 : decode prog_45_method_6_code 14 = .ok (.return_, 1) := by decide +kernel
theorem own_ef11 (m : MethodId) (x0 : Addr) (x2 : Int32) (x3 : Int32) (v11_1 : Value) (hr_v11_1 : v11_1.isRef = true) : entryFrame m #[(.ref x0), v11_1, (.int x2), (.int x3)] 4 = mkF m 0 #[.val (.ref x0), .val v11_1, .val (.int x2), .val (.int x3)] [] := by
  rcases ref_cases hr_v11_1 with rfl | ⟨_, rfl⟩ <;> simp [entryFrame, mkF, argsToLocals, Value.category]
def own_Q11 (Z : State) (a11_0 : Addr) (v11_1 : Value) (p11_2 : Int32) (p11_3 : Int32) (w_characters_a11_0 : Addr) (w_keys_a11_0 : Addr) (z11 : Int32) (vs11 : List Value) (h0 : Heap) (n0 : Nat) (v : Option Value) (h : Heap) (L : List Loc) : Prop := v = none ∧ Fr n0 L ∧ Keep h0 h [w_characters_a11_0, w_keys_a11_0] ∧ own_I Z h w_characters_a11_0 z11 ∧ own_K Z h w_keys_a11_0 z11 (vs11.set p11_2.toNatClampNeg v11_1)
set_option maxRecDepth 65536 in
set_option maxHeartbeats 40000000 in
theorem own_rm11 (l : Launch) (Z : State) (a0 : Array Value) (hw : ∀ d ∈ tables_1, d.before a0 Z = true) (ws : List Jvm.Cond) (a11_0 : Addr) (v11_1 : Value) (p11_2 : Int32) (p11_3 : Int32) (w_characters_a11_0 : Addr) (w_keys_a11_0 : Addr) (z11 : Int32) (vs11 : List Value) (h0 : Heap) (n0 : Nat) (Z0 : n0 ≤ h0.size) (hr_v11_1 : v11_1.isRef = true) (I11 : own_I Z h0 w_characters_a11_0 z11) (K11 : own_K Z h0 w_keys_a11_0 z11 vs11) (HZ : ¬ (3 : Int32) < z11) (HB : ¬ p11_2 < 0 ∧ p11_2 < z11) (SK : v11_1 = .null ∨ ∃ y, v11_1 = .ref y ∧ Exa Z h0 y "java/lang/String") (F_characters_a11_0 : Fld Z h0 a11_0 "com/example/yohokit/yohokit/Parts" "characters" "[I" (.ref w_characters_a11_0)) (ne_w_keys_a11_0_w_characters_a11_0 : w_keys_a11_0 ≠ w_characters_a11_0) (ne_a11_0_w_characters_a11_0 : a11_0 ≠ w_characters_a11_0) (ge_w_characters_a11_0 : n0 ≤ w_characters_a11_0) (F_keys_a11_0 : Fld Z h0 a11_0 "com/example/yohokit/yohokit/Parts" "keys" "[Ljava/lang/String;" (.ref w_keys_a11_0)) (ne_a11_0_w_keys_a11_0 : a11_0 ≠ w_keys_a11_0) (ne_w_characters_a11_0_w_keys_a11_0 : w_characters_a11_0 ≠ w_keys_a11_0) (ge_w_keys_a11_0 : n0 ≤ w_keys_a11_0) :
    MetFree l (⟨"com/example/yohokit/yohokit/Parts", "write", "(Ljava/lang/String;II)V"⟩ : MethodName) (head1 (Jvm.Cond.code (⟨"com/example/yohokit/yohokit/Parts", "write", "(Ljava/lang/String;II)V"⟩ : MethodName) prog_45_method_6_code 4 none :: ws) ({ frames := 0, cells := 0, slots := 0, locals := 0 } : Room)) (fun a U => a = #[(.ref a11_0), v11_1, (.int p11_2), (.int p11_3)] ∧ Z.Warmed39 U.vm ∧ U.heap = h0) (fun _ _ _ _ _ => True) (fun _ U o U' => ∃ v L, o = .returned v ∧ own_Q11 Z a11_0 v11_1 p11_2 p11_3 w_characters_a11_0 w_keys_a11_0 z11 vs11 h0 n0 v U'.heap L ∧ FrameEnd U o U' L ({ frames := 0, cells := 0, slots := 0, locals := 0 } : Room).cells ({ frames := 0, cells := 0, slots := 0, locals := 0 } : Room).slots) := by
  refine MetFree.of_bodySF (plainFor_of_name pn_com_example_yohokit_yohokit_Parts) hisR ?_
  intro p e s m args below meth c s₁ Bd hml0 hP hK
  obtain ⟨rfl, hZ, hh⟩ := hP
  have hx := Bd.exec
  have hby := Bd.bytes
  have hlk : meth.locks = false := BodyLoose.notSynchronized Bd
  have hml : c.maxLocals = 4 := hml0
  have hown : s.vm.findClass "com/example/yohokit/yohokit/Parts" = some m.cls := findClass_of_methodNamed Bd.named
  have hnm := (name_of_methodNamed Bd.named Bd.method).1
  have X0 : Stand p l e ({ frames := 0, cells := 0, slots := 0, locals := 0 } : Room) s m #[(.ref a11_0), v11_1, (.int p11_2), (.int p11_3)] below meth c s₁ [] 0 0 := Stand.of_body Bd
  have e0 : s₁.heap = h0 := by rw [← hh, Bd.state]; rfl
  have N0 := Fr.nil n0
  show own_Go p e below (own_P s below ({ frames := 0, cells := 0, slots := 0, locals := 0 } : Room) (own_Q11 Z a11_0 v11_1 p11_2 p11_3 w_characters_a11_0 w_keys_a11_0 z11 vs11 h0 n0)) s₁ (entryFrame m #[(.ref a11_0), v11_1, (.int p11_2), (.int p11_3)] 4)
  refine own_in (own_ef11 m a11_0 p11_2 p11_3 v11_1 hr_v11_1) ?_
  refine own_by (T' := s₁) (g' := (mkF m 1 #[.val (.ref a11_0), .val v11_1, .val (.int p11_2), .val (.int p11_3)] [(.ref a11_0)])) (fun t k => ?_) ?_
  · show Steps p.tables e below (s₁.setTop (mkF m 0 #[.val (.ref a11_0), .val v11_1, .val (.int p11_2), .val (.int p11_3)] [])) t
    refine XS.aloadN X0.here hx rfl (hb hby d11_0) rfl rfl ?_
    show Steps p.tables e below (s₁.setTop (mkF m 1 #[.val (.ref a11_0), .val v11_1, .val (.int p11_2), .val (.int p11_3)] [(.ref a11_0)])) t
    exact k
  obtain ⟨T111, X111, e111, st111⟩ := getF X0 hx hZ hown (host := "") (Or.inl (hw _ (List.mem_of_getElem? (i := 40) rfl))) Via.refl e0 F_characters_a11_0 (g := (mkF m 1 #[.val (.ref a11_0), .val v11_1, .val (.int p11_2), .val (.int p11_3)] [(.ref a11_0)])) rfl rfl (hb hby d11_1)
  refine own_by (T' := T111) (g' := (mkF m 4 #[.val (.ref a11_0), .val v11_1, .val (.int p11_2), .val (.int p11_3)] [(.ref w_characters_a11_0)])) st111 ?_
  refine own_by (T' := T111) (g' := (mkF m 6 #[.val (.ref a11_0), .val v11_1, .val (.int p11_2), .val (.int p11_3)] [(.int p11_3), (.int p11_2), (.ref w_characters_a11_0)])) (fun t k => ?_) ?_
  · show Steps p.tables e below (T111.setTop (mkF m 4 #[.val (.ref a11_0), .val v11_1, .val (.int p11_2), .val (.int p11_3)] [(.ref w_characters_a11_0)])) t
    refine XS.iloadN X111.here hx rfl (hb hby d11_4) rfl ?_
    show Steps p.tables e below (T111.setTop (mkF m 5 #[.val (.ref a11_0), .val v11_1, .val (.int p11_2), .val (.int p11_3)] [(.int p11_2), (.ref w_characters_a11_0)])) t
    refine XS.iloadN X111.here hx rfl (hb hby d11_5) rfl ?_
    show Steps p.tables e below (T111.setTop (mkF m 6 #[.val (.ref a11_0), .val v11_1, .val (.int p11_2), .val (.int p11_3)] [(.int p11_3), (.int p11_2), (.ref w_characters_a11_0)])) t
    exact k
  obtain ⟨T112, h112, X112, e112, W112, I112, st112⟩ := own_putI X111 hx hZ e111 (j := p11_2) I11 HB HZ (g := (mkF m 6 #[.val (.ref a11_0), .val v11_1, .val (.int p11_2), .val (.int p11_3)] [(.int p11_3), (.int p11_2), (.ref w_characters_a11_0)])) rfl rfl (hb hby d11_6)
  have f113 := F_characters_a11_0.other W112 (Or.inl ne_a11_0_w_characters_a11_0)
  have f114 := F_keys_a11_0.other W112 (Or.inl ne_a11_0_w_characters_a11_0)
  have f116 := K11.other W112 ne_w_keys_a11_0_w_characters_a11_0
  have K117 : Keep h0 h112 [w_characters_a11_0, w_keys_a11_0] := (Keep.refl h0 [w_characters_a11_0, w_keys_a11_0]).wr W112 (Or.inl (List.mem_of_getElem? (i := 0) rfl))
  have N118 := Fr.snoc X112 N0 ge_w_characters_a11_0
  obtain ⟨Lh112, X112, N118⟩ := own_hide X112 N118
  have Z119 := (Nat.le_trans Z0 (Keep.of_wr W112).1)
  refine own_by (T' := T112) (g' := (mkF m 7 #[.val (.ref a11_0), .val v11_1, .val (.int p11_2), .val (.int p11_3)] [])) st112 ?_
  refine own_by (T' := T112) (g' := (mkF m 8 #[.val (.ref a11_0), .val v11_1, .val (.int p11_2), .val (.int p11_3)] [(.ref a11_0)])) (fun t k => ?_) ?_
  · show Steps p.tables e below (T112.setTop (mkF m 7 #[.val (.ref a11_0), .val v11_1, .val (.int p11_2), .val (.int p11_3)] [])) t
    refine XS.aloadN X112.here hx rfl (hb hby d11_7) rfl rfl ?_
    show Steps p.tables e below (T112.setTop (mkF m 8 #[.val (.ref a11_0), .val v11_1, .val (.int p11_2), .val (.int p11_3)] [(.ref a11_0)])) t
    exact k
  obtain ⟨T120, X120, e120, st120⟩ := getF X112 hx hZ hown (host := "") (Or.inl (hw _ (List.mem_of_getElem? (i := 48) rfl))) Via.refl e112 f114 (g := (mkF m 8 #[.val (.ref a11_0), .val v11_1, .val (.int p11_2), .val (.int p11_3)] [(.ref a11_0)])) rfl rfl (hb hby d11_8)
  refine own_by (T' := T120) (g' := (mkF m 11 #[.val (.ref a11_0), .val v11_1, .val (.int p11_2), .val (.int p11_3)] [(.ref w_keys_a11_0)])) st120 ?_
  refine own_by (T' := T120) (g' := (mkF m 13 #[.val (.ref a11_0), .val v11_1, .val (.int p11_2), .val (.int p11_3)] [v11_1, (.int p11_2), (.ref w_keys_a11_0)])) (fun t k => ?_) ?_
  · show Steps p.tables e below (T120.setTop (mkF m 11 #[.val (.ref a11_0), .val v11_1, .val (.int p11_2), .val (.int p11_3)] [(.ref w_keys_a11_0)])) t
    refine XS.iloadN X120.here hx rfl (hb hby d11_11) rfl ?_
    show Steps p.tables e below (T120.setTop (mkF m 12 #[.val (.ref a11_0), .val v11_1, .val (.int p11_2), .val (.int p11_3)] [(.int p11_2), (.ref w_keys_a11_0)])) t
    refine XS.aloadN X120.here hx rfl (hb hby d11_12) rfl hr_v11_1 ?_
    show Steps p.tables e below (T120.setTop (mkF m 13 #[.val (.ref a11_0), .val v11_1, .val (.int p11_2), .val (.int p11_3)] [v11_1, (.int p11_2), (.ref w_keys_a11_0)])) t
    exact k
  obtain ⟨T121, h121, X121, e121, W121, I121, st121⟩ := own_putK X120 hx hZ e120 (j := p11_2) f116 HB HZ (own_sk SK W112) (g := (mkF m 13 #[.val (.ref a11_0), .val v11_1, .val (.int p11_2), .val (.int p11_3)] [v11_1, (.int p11_2), (.ref w_keys_a11_0)])) rfl rfl (hb hby d11_13)
  have f122 := f113.other W121 (Or.inl ne_a11_0_w_keys_a11_0)
  have f123 := f114.other W121 (Or.inl ne_a11_0_w_keys_a11_0)
  have f124 := I112.other W121 ne_w_characters_a11_0_w_keys_a11_0
  have K126 : Keep h0 h121 [w_characters_a11_0, w_keys_a11_0] := K117.wr W121 (Or.inl (List.mem_of_getElem? (i := 1) rfl))
  have N127 := Fr.snoc X121 N118 ge_w_keys_a11_0
  obtain ⟨Lh121, X121, N127⟩ := own_hide X121 N127
  have Z128 := (Nat.le_trans Z119 (Keep.of_wr W121).1)
  refine own_by (T' := T121) (g' := (mkF m 14 #[.val (.ref a11_0), .val v11_1, .val (.int p11_2), .val (.int p11_3)] [])) st121 ?_
  exact own_ret0 X121 hx Bd.returns (hb hby d11_14) hlk (by decide) (by decide) (by rw [e121]; exact ⟨rfl, N127, K126, f124, I121⟩)
theorem own_pos {x z : Int32} (h1 : (0 : Int32) < x) (h2 : ¬ z < x) : ¬ (x - (1 : Int32)) < 0 ∧ (x - (1 : Int32)) < z := by
  rw [Int32.lt_iff_toInt_lt, show (0 : Int32).toInt = 0 from by decide] at h1
  rw [Int32.lt_iff_toInt_lt] at h2
  have q := x.toInt_lt
  have e : (x - 1).toInt = x.toInt - 1 := by
    rw [Int32.toInt_sub, show (1 : Int32).toInt = 1 from by decide, Int.bmod_def]
    split <;> omega
  rw [Int32.lt_iff_toInt_lt, Int32.lt_iff_toInt_lt, e, show (0 : Int32).toInt = 0 from by decide]
  omega
theorem d9_0 : decode prog_45_method_12_code 0 = .ok (.iload_n 1, 1) := by decide +kernel
theorem d9_1 : decode prog_45_method_12_code 1 = .ok (.ifCond .le 23, 3) := by decide +kernel
theorem d9_4 : decode prog_45_method_12_code 4 = .ok (.iload_n 1, 1) := by decide +kernel
theorem d9_5 : decode prog_45_method_12_code 5 = .ok (.aload_n 0, 1) := by decide +kernel
theorem d9_6 : decode prog_45_method_12_code 6 = .ok (.getfield 25, 3) := by decide +kernel
theorem d9_9 : decode prog_45_method_12_code 9 = .ok (.arraylength, 1) := by decide +kernel
theorem d9_10 : decode prog_45_method_12_code 10 = .ok (.if_icmp .gt 14, 3) := by decide +kernel
theorem d9_24 : decode prog_45_method_12_code 24 = .ok (.aconst_null, 1) := by decide +kernel
theorem d9_13 : decode prog_45_method_12_code 13 = .ok (.aload_n 0, 1) := by decide +kernel
theorem d9_14 : decode prog_45_method_12_code 14 = .ok (.getfield 25, 3) := by decide +kernel
theorem d9_17 : decode prog_45_method_12_code 17 = .ok (.iload_n 1, 1) := by decide +kernel
theorem d9_18 : decode prog_45_method_12_code 18 = .ok (.iconst 1, 1) := by decide +kernel
theorem d9_19 : decode prog_45_method_12_code 19 = .ok (.isub, 1) := by decide +kernel
theorem d9_20 : decode prog_45_method_12_code 20 = .ok (.aaload, 1) := by decide +kernel
theorem d9_21 : decode prog_45_method_12_code 21 = .ok (.goto 4, 3) := by decide +kernel
theorem d9_25 : decode prog_45_method_12_code 25 = .ok (.areturn, 1) := by decide +kernel
def own_F9 (a9_0 : Addr) (p9_1 : Int32) (w_keys_a9_0 : Addr) (z9 : Int32) (vs9 : List Value) : Value := (if (0 : Int32) < p9_1 then (if z9 < p9_1 then .null else (vs9.getD (p9_1 - (1 : Int32)).toNatClampNeg .null)) else .null)
theorem own_ef9 (m : MethodId) (x0 : Addr) (x1 : Int32) : entryFrame m #[(.ref x0), (.int x1)] 2 = mkF m 0 #[.val (.ref x0), .val (.int x1)] [] := by first | (simp [entryFrame, mkF, argsToLocals, Value.category]; done) | rfl
def own_Q9 (r : Value) (h0 : Heap) (n0 : Nat) (v : Option Value) (h : Heap) (L : List Loc) : Prop := v = some r ∧ Fr n0 L ∧ h = h0 ∧ r.isRef = true
set_option maxRecDepth 65536 in
set_option maxHeartbeats 40000000 in
theorem own_rm9 (l : Launch) (Z : State) (a0 : Array Value) (hw : ∀ d ∈ tables_1, d.before a0 Z = true) (ws : List Jvm.Cond) (a9_0 : Addr) (p9_1 : Int32) (w_keys_a9_0 : Addr) (z9 : Int32) (vs9 : List Value) (h0 : Heap) (n0 : Nat) (Z0 : n0 ≤ h0.size) (K9 : own_K Z h0 w_keys_a9_0 z9 vs9) (F_keys_a9_0 : Fld Z h0 a9_0 "com/example/yohokit/yohokit/Parts" "keys" "[Ljava/lang/String;" (.ref w_keys_a9_0)) :
    MetFree l (⟨"com/example/yohokit/yohokit/Parts", "keyAt", "(I)Ljava/lang/String;"⟩ : MethodName) (head1 (Jvm.Cond.code (⟨"com/example/yohokit/yohokit/Parts", "keyAt", "(I)Ljava/lang/String;"⟩ : MethodName) prog_45_method_12_code 2 (some (.object "java/lang/String")) :: ws) ({ frames := 0, cells := 0, slots := 0, locals := 0 } : Room)) (fun a U => a = #[(.ref a9_0), (.int p9_1)] ∧ Z.Warmed39 U.vm ∧ U.heap = h0) (fun _ _ _ _ _ => True) (fun _ U o U' => ∃ v L, o = .returned v ∧ own_Q9 (own_F9 a9_0 p9_1 w_keys_a9_0 z9 vs9) h0 n0 v U'.heap L ∧ FrameEnd U o U' L ({ frames := 0, cells := 0, slots := 0, locals := 0 } : Room).cells ({ frames := 0, cells := 0, slots := 0, locals := 0 } : Room).slots) := by
  refine MetFree.of_bodySF (plainFor_of_name pn_com_example_yohokit_yohokit_Parts) hisR ?_
  intro p e s m args below meth c s₁ Bd hml0 hP hK
  obtain ⟨rfl, hZ, hh⟩ := hP
  have hx := Bd.exec
  have hby := Bd.bytes
  have hlk : meth.locks = false := BodyLoose.notSynchronized Bd
  have hml : c.maxLocals = 2 := hml0
  have hown : s.vm.findClass "com/example/yohokit/yohokit/Parts" = some m.cls := findClass_of_methodNamed Bd.named
  have hnm := (name_of_methodNamed Bd.named Bd.method).1
  have X0 : Stand p l e ({ frames := 0, cells := 0, slots := 0, locals := 0 } : Room) s m #[(.ref a9_0), (.int p9_1)] below meth c s₁ [] 0 0 := Stand.of_body Bd
  have e0 : s₁.heap = h0 := by rw [← hh, Bd.state]; rfl
  have N0 := Fr.nil n0
  show own_Go p e below (own_P s below ({ frames := 0, cells := 0, slots := 0, locals := 0 } : Room) (own_Q9 (own_F9 a9_0 p9_1 w_keys_a9_0 z9 vs9) h0 n0)) s₁ (entryFrame m #[(.ref a9_0), (.int p9_1)] 2)
  refine own_in (own_ef9 m a9_0 p9_1) ?_
  refine own_by (T' := s₁) (g' := (mkF m 1 #[.val (.ref a9_0), .val (.int p9_1)] [(.int p9_1)])) (fun t k => ?_) ?_
  · show Steps p.tables e below (s₁.setTop (mkF m 0 #[.val (.ref a9_0), .val (.int p9_1)] [])) t
    refine XS.iloadN X0.here hx rfl (hb hby d9_0) rfl ?_
    show Steps p.tables e below (s₁.setTop (mkF m 1 #[.val (.ref a9_0), .val (.int p9_1)] [(.int p9_1)])) t
    exact k
  by_cases hc129 : (0 : Int32) < p9_1
  · skip
    refine own_by (T' := s₁) (g' := (mkF m 6 #[.val (.ref a9_0), .val (.int p9_1)] [(.ref a9_0), (.int p9_1)])) (fun t k => ?_) ?_
    · show Steps p.tables e below (s₁.setTop (mkF m 1 #[.val (.ref a9_0), .val (.int p9_1)] [(.int p9_1)])) t
      refine XS.ifNo X0.here hx rfl (hb hby d9_1) rfl ((if0 _ _).trans (tlt hc129).2.2.2) ?_
      show Steps p.tables e below (s₁.setTop (mkF m 4 #[.val (.ref a9_0), .val (.int p9_1)] [])) t
      refine XS.iloadN X0.here hx rfl (hb hby d9_4) rfl ?_
      show Steps p.tables e below (s₁.setTop (mkF m 5 #[.val (.ref a9_0), .val (.int p9_1)] [(.int p9_1)])) t
      refine XS.aloadN X0.here hx rfl (hb hby d9_5) rfl rfl ?_
      show Steps p.tables e below (s₁.setTop (mkF m 6 #[.val (.ref a9_0), .val (.int p9_1)] [(.ref a9_0), (.int p9_1)])) t
      exact k
    obtain ⟨T135, X135, e135, st135⟩ := getF X0 hx hZ hown (host := "") (Or.inl (hw _ (List.mem_of_getElem? (i := 48) rfl))) Via.refl e0 F_keys_a9_0 (g := (mkF m 6 #[.val (.ref a9_0), .val (.int p9_1)] [(.ref a9_0), (.int p9_1)])) rfl rfl (hb hby d9_6)
    refine own_by (T' := T135) (g' := (mkF m 9 #[.val (.ref a9_0), .val (.int p9_1)] [(.ref w_keys_a9_0), (.int p9_1)])) st135 ?_
    obtain ⟨hl136, k136, ov136, cl136, Ar136, q136, S136, N136, H136, G136⟩ := id K9
    refine own_by (T' := T135) (g' := (mkF m 10 #[.val (.ref a9_0), .val (.int p9_1)] [(.int z9), (.int p9_1)])) (fun t k => X135.arraylength hx (by rw [e135]; exact Ar136.1) (State.isArrayOf_alike hZ.alike Ar136.2.1) (g := (mkF m 9 #[.val (.ref a9_0), .val (.int p9_1)] [(.ref w_keys_a9_0), (.int p9_1)])) rfl rfl (hb hby d9_9) t (by rw [len_of S136 N136]; exact k)) ?_
    by_cases hc137 : z9 < p9_1
    · skip
      refine own_by (T' := T135) (g' := (mkF m 25 #[.val (.ref a9_0), .val (.int p9_1)] [.null])) (fun t k => ?_) ?_
      · show Steps p.tables e below (T135.setTop (mkF m 10 #[.val (.ref a9_0), .val (.int p9_1)] [(.int z9), (.int p9_1)])) t
        refine XS.icmpYes X135.here hx rfl (pc0 := 10) (pc' := 24) rfl (hb hby d9_10) rfl (tlt hc137).2.2.1 (by decide) (by decide) ?_
        show Steps p.tables e below (T135.setTop (mkF m 24 #[.val (.ref a9_0), .val (.int p9_1)] [])) t
        refine XS.aconstNull X135.here hx rfl (hb hby d9_24) ?_
        show Steps p.tables e below (T135.setTop (mkF m 25 #[.val (.ref a9_0), .val (.int p9_1)] [.null])) t
        exact k
      rw [show own_F9 a9_0 p9_1 w_keys_a9_0 z9 vs9 = .null from ((if_pos hc129).trans ((if_pos hc137).trans rfl))]
      exact own_retR X135 hx Bd.returns rfl rfl rfl (hb hby d9_25) hlk (by decide) (by decide) ⟨rfl, N0, e135, rfl⟩
    · skip
      refine own_by (T' := T135) (g' := (mkF m 14 #[.val (.ref a9_0), .val (.int p9_1)] [(.ref a9_0)])) (fun t k => ?_) ?_
      · show Steps p.tables e below (T135.setTop (mkF m 10 #[.val (.ref a9_0), .val (.int p9_1)] [(.int z9), (.int p9_1)])) t
        refine XS.icmpNo X135.here hx rfl (hb hby d9_10) rfl (flt hc137).2.2.1 ?_
        show Steps p.tables e below (T135.setTop (mkF m 13 #[.val (.ref a9_0), .val (.int p9_1)] [])) t
        refine XS.aloadN X135.here hx rfl (hb hby d9_13) rfl rfl ?_
        show Steps p.tables e below (T135.setTop (mkF m 14 #[.val (.ref a9_0), .val (.int p9_1)] [(.ref a9_0)])) t
        exact k
      obtain ⟨T140, X140, e140, st140⟩ := getF X135 hx hZ hown (host := "") (Or.inl (hw _ (List.mem_of_getElem? (i := 48) rfl))) Via.refl e135 F_keys_a9_0 (g := (mkF m 14 #[.val (.ref a9_0), .val (.int p9_1)] [(.ref a9_0)])) rfl rfl (hb hby d9_14)
      refine own_by (T' := T140) (g' := (mkF m 17 #[.val (.ref a9_0), .val (.int p9_1)] [(.ref w_keys_a9_0)])) st140 ?_
      refine own_by (T' := T140) (g' := (mkF m 20 #[.val (.ref a9_0), .val (.int p9_1)] [(.int (p9_1 - (1 : Int32))), (.ref w_keys_a9_0)])) (fun t k => ?_) ?_
      · show Steps p.tables e below (T140.setTop (mkF m 17 #[.val (.ref a9_0), .val (.int p9_1)] [(.ref w_keys_a9_0)])) t
        refine XS.iloadN X140.here hx rfl (hb hby d9_17) rfl ?_
        show Steps p.tables e below (T140.setTop (mkF m 18 #[.val (.ref a9_0), .val (.int p9_1)] [(.int p9_1), (.ref w_keys_a9_0)])) t
        refine XS.iconst X140.here hx rfl (hb hby d9_18) ?_
        show Steps p.tables e below (T140.setTop (mkF m 19 #[.val (.ref a9_0), .val (.int p9_1)] [(.int (1 : Int32)), (.int p9_1), (.ref w_keys_a9_0)])) t
        refine XS.isub X140.here hx rfl (hb hby d9_19) rfl ?_
        show Steps p.tables e below (T140.setTop (mkF m 20 #[.val (.ref a9_0), .val (.int p9_1)] [(.int (p9_1 - (1 : Int32))), (.ref w_keys_a9_0)])) t
        exact k
      obtain ⟨hl141, k141, ov141, cl141, Ar141, q141, S141, N141, H141, G141⟩ := id K9
      have hin141 := inb_of S141 (j := (p9_1 - (1 : Int32))) (own_pos hc129 hc137)
      have hr141 : (vs9.getD (p9_1 - (1 : Int32)).toNatClampNeg .null).isRef = true := own_fitsR' (G141 _ (Nat.lt_of_not_le fun y => hin141 (Or.inr y)))
      refine own_by (T' := T140) (g' := (mkF m 21 #[.val (.ref a9_0), .val (.int p9_1)] [(vs9.getD (p9_1 - (1 : Int32)).toNatClampNeg .null)])) (fun t k => X140.aaload hx (j := (p9_1 - (1 : Int32))) (v := (vs9.getD (p9_1 - (1 : Int32)).toNatClampNeg .null)) (by rw [e140]; exact Ar141.1) (State.isArrayOf_alike hZ.alike Ar141.2.1) rfl Ar141.2.2 hin141 (H141.at hin141 rfl) (g := (mkF m 20 #[.val (.ref a9_0), .val (.int p9_1)] [(.int (p9_1 - (1 : Int32))), (.ref w_keys_a9_0)])) rfl rfl (hb hby d9_20) t k) ?_
      refine own_by (T' := T140) (g' := (mkF m 25 #[.val (.ref a9_0), .val (.int p9_1)] [(vs9.getD (p9_1 - (1 : Int32)).toNatClampNeg .null)])) (fun t k => ?_) ?_
      · show Steps p.tables e below (T140.setTop (mkF m 21 #[.val (.ref a9_0), .val (.int p9_1)] [(vs9.getD (p9_1 - (1 : Int32)).toNatClampNeg .null)])) t
        refine XS.goto X140.here hx rfl (pc0 := 21) (pc' := 25) rfl (hb hby d9_21) (by decide) (by decide) ?_
        show Steps p.tables e below (T140.setTop (mkF m 25 #[.val (.ref a9_0), .val (.int p9_1)] [(vs9.getD (p9_1 - (1 : Int32)).toNatClampNeg .null)])) t
        exact k
      rw [show own_F9 a9_0 p9_1 w_keys_a9_0 z9 vs9 = (vs9.getD (p9_1 - (1 : Int32)).toNatClampNeg .null) from ((if_pos hc129).trans ((if_neg hc137).trans rfl))]
      exact own_retR X140 hx Bd.returns rfl hr141 rfl (hb hby d9_25) hlk (by decide) (by decide) ⟨rfl, N0, e140, hr141⟩
  · skip
    refine own_by (T' := s₁) (g' := (mkF m 25 #[.val (.ref a9_0), .val (.int p9_1)] [.null])) (fun t k => ?_) ?_
    · show Steps p.tables e below (s₁.setTop (mkF m 1 #[.val (.ref a9_0), .val (.int p9_1)] [(.int p9_1)])) t
      refine XS.ifYes X0.here hx rfl (pc0 := 1) (pc' := 24) rfl (hb hby d9_1) rfl ((if0 _ _).trans (flt hc129).2.2.2) (by decide) (by decide) ?_
      show Steps p.tables e below (s₁.setTop (mkF m 24 #[.val (.ref a9_0), .val (.int p9_1)] [])) t
      refine XS.aconstNull X0.here hx rfl (hb hby d9_24) ?_
      show Steps p.tables e below (s₁.setTop (mkF m 25 #[.val (.ref a9_0), .val (.int p9_1)] [.null])) t
      exact k
    rw [show own_F9 a9_0 p9_1 w_keys_a9_0 z9 vs9 = .null from ((if_neg hc129).trans rfl)]
    exact own_retR X0 hx Bd.returns rfl rfl rfl (hb hby d9_25) hlk (by decide) (by decide) ⟨rfl, N0, e0, rfl⟩
theorem d10_0 : decode method_2_code 0 = .ok (.iload_n 0, 1) := by decide +kernel
theorem d10_1 : decode method_2_code 1 = .ok (.iconst 1, 1) := by decide +kernel
theorem d10_2 : decode method_2_code 2 = .ok (.if_icmp .ge 5, 3) := by decide +kernel
theorem d10_5 : decode method_2_code 5 = .ok (.aconst_null, 1) := by decide +kernel
theorem d10_6 : decode method_2_code 6 = .ok (.areturn, 1) := by decide +kernel
theorem d10_7 : decode method_2_code 7 = .ok (.iload_n 0, 1) := by decide +kernel
theorem d10_8 : decode method_2_code 8 = .ok (.iload_n 1, 1) := by decide +kernel
theorem d10_9 : decode method_2_code 9 = .ok (.if_icmp .le 5, 3) := by decide +kernel
theorem d10_12 : decode method_2_code 12 = .ok (.aconst_null, 1) := by decide +kernel
theorem d10_13 : decode method_2_code 13 = .ok (.areturn, 1) := by decide +kernel
theorem d10_14 : decode method_2_code 14 = .ok (.iload_n 0, 1) := by decide +kernel
theorem d10_15 : decode method_2_code 15 = .ok (.iconst 1, 1) := by decide +kernel
theorem d10_16 : decode method_2_code 16 = .ok (.isub, 1) := by decide +kernel
theorem d10_17 : decode method_2_code 17 = .ok (.istore 7, 2) := by decide +kernel
theorem d10_19 : decode method_2_code 19 = .ok (.iload_n 2, 1) := by decide +kernel
theorem d10_20 : decode method_2_code 20 = .ok (.ifCond .eq 13, 3) := by decide +kernel
theorem d10_33 : decode method_2_code 33 = .ok (.iload_n 2, 1) := by decide +kernel
theorem d10_34 : decode method_2_code 34 = .ok (.ifCond .eq 12, 3) := by decide +kernel
theorem d10_46 : decode method_2_code 46 = .ok (.aconst_null, 1) := by decide +kernel
theorem d10_47 : decode method_2_code 47 = .ok (.areturn, 1) := by decide +kernel
theorem d10_23 : decode method_2_code 23 = .ok (.iload 7, 2) := by decide +kernel
theorem d10_25 : decode method_2_code 25 = .ok (.iload 5, 2) := by decide +kernel
theorem d10_27 : decode method_2_code 27 = .ok (.if_icmp .ne 6, 3) := by decide +kernel
theorem d10_30 : decode method_2_code 30 = .ok (.aload 6, 2) := by decide +kernel
theorem d10_32 : decode method_2_code 32 = .ok (.areturn, 1) := by decide +kernel
theorem d10_37 : decode method_2_code 37 = .ok (.iload 7, 2) := by decide +kernel
theorem d10_39 : decode method_2_code 39 = .ok (.iload_n 3, 1) := by decide +kernel
theorem d10_40 : decode method_2_code 40 = .ok (.if_icmp .ne 6, 3) := by decide +kernel
theorem d10_43 : decode method_2_code 43 = .ok (.aload 4, 2) := by decide +kernel
theorem d10_45 : decode method_2_code 45 = .ok (.areturn, 1) := by decide +kernel
theorem pn_com_example_yohokit_yohokit_PartsKeyAtPinLaw : plainName "com/example/yohokit/yohokit/PartsKeyAtPinLaw" = true := by first | (simp [plainName, overriddenIn]; done) | decide +kernel
def own_F10 (p10_0 : Int32) (p10_1 : Int32) (p10_2 : Int32) (p10_3 : Int32) (a10_4 : Addr) (p10_5 : Int32) (v10_6 : Value) : Value := (if p10_0 < (1 : Int32) then .null else (if p10_1 < p10_0 then .null else (if p10_2 = (0 : Int32) then .null else (if (p10_0 - (1 : Int32)) = p10_5 then v10_6 else (if (p10_0 - (1 : Int32)) = p10_3 then (.ref a10_4) else .null)))))
theorem own_ef10 (m : MethodId) (x0 : Int32) (x1 : Int32) (x2 : Int32) (x3 : Int32) (x4 : Addr) (x5 : Int32) (v10_6 : Value) (hr_v10_6 : v10_6.isRef = true) : entryFrame m #[(.int x0), (.int x1), (.int x2), (.int x3), (.ref x4), (.int x5), v10_6] 8 = mkF m 0 #[.val (.int x0), .val (.int x1), .val (.int x2), .val (.int x3), .val (.ref x4), .val (.int x5), .val v10_6, .unset] [] := by
  rcases ref_cases hr_v10_6 with rfl | ⟨_, rfl⟩ <;> simp [entryFrame, mkF, argsToLocals, Value.category]
def own_Q10 (r : Value) (h0 : Heap) (n0 : Nat) (v : Option Value) (h : Heap) (L : List Loc) : Prop := v = some r ∧ Fr n0 L ∧ h = h0 ∧ r.isRef = true
set_option maxRecDepth 65536 in
set_option maxHeartbeats 40000000 in
theorem own_rm10 (l : Launch) (Z : State) (a0 : Array Value) (hw : ∀ d ∈ tables_1, d.before a0 Z = true) (ws : List Jvm.Cond) (p10_0 : Int32) (p10_1 : Int32) (p10_2 : Int32) (p10_3 : Int32) (a10_4 : Addr) (p10_5 : Int32) (v10_6 : Value) (h0 : Heap) (n0 : Nat) (Z0 : n0 ≤ h0.size) (hr_v10_6 : v10_6.isRef = true) :
    MetFree l (⟨"com/example/yohokit/yohokit/PartsKeyAtPinLaw", "expected", "(IIZILjava/lang/String;ILjava/lang/String;)Ljava/lang/String;"⟩ : MethodName) (head1 (Jvm.Cond.code (⟨"com/example/yohokit/yohokit/PartsKeyAtPinLaw", "expected", "(IIZILjava/lang/String;ILjava/lang/String;)Ljava/lang/String;"⟩ : MethodName) method_2_code 8 (some (.object "java/lang/String")) :: ws) ({ frames := 0, cells := 0, slots := 0, locals := 0 } : Room)) (fun a U => a = #[(.int p10_0), (.int p10_1), (.int p10_2), (.int p10_3), (.ref a10_4), (.int p10_5), v10_6] ∧ Z.Warmed39 U.vm ∧ U.heap = h0) (fun _ _ _ _ _ => True) (fun _ U o U' => ∃ v L, o = .returned v ∧ own_Q10 (own_F10 p10_0 p10_1 p10_2 p10_3 a10_4 p10_5 v10_6) h0 n0 v U'.heap L ∧ FrameEnd U o U' L ({ frames := 0, cells := 0, slots := 0, locals := 0 } : Room).cells ({ frames := 0, cells := 0, slots := 0, locals := 0 } : Room).slots) := by
  refine MetFree.of_bodySF (plainFor_of_name pn_com_example_yohokit_yohokit_PartsKeyAtPinLaw) hisR ?_
  intro p e s m args below meth c s₁ Bd hml0 hP hK
  obtain ⟨rfl, hZ, hh⟩ := hP
  have hx := Bd.exec
  have hby := Bd.bytes
  have hlk : meth.locks = false := BodyLoose.notSynchronized Bd
  have hml : c.maxLocals = 8 := hml0
  have hown : s.vm.findClass "com/example/yohokit/yohokit/PartsKeyAtPinLaw" = some m.cls := findClass_of_methodNamed Bd.named
  have hnm := (name_of_methodNamed Bd.named Bd.method).1
  have X0 : Stand p l e ({ frames := 0, cells := 0, slots := 0, locals := 0 } : Room) s m #[(.int p10_0), (.int p10_1), (.int p10_2), (.int p10_3), (.ref a10_4), (.int p10_5), v10_6] below meth c s₁ [] 0 0 := Stand.of_body Bd
  have e0 : s₁.heap = h0 := by rw [← hh, Bd.state]; rfl
  have N0 := Fr.nil n0
  show own_Go p e below (own_P s below ({ frames := 0, cells := 0, slots := 0, locals := 0 } : Room) (own_Q10 (own_F10 p10_0 p10_1 p10_2 p10_3 a10_4 p10_5 v10_6) h0 n0)) s₁ (entryFrame m #[(.int p10_0), (.int p10_1), (.int p10_2), (.int p10_3), (.ref a10_4), (.int p10_5), v10_6] 8)
  refine own_in (own_ef10 m p10_0 p10_1 p10_2 p10_3 a10_4 p10_5 v10_6 hr_v10_6) ?_
  refine own_by (T' := s₁) (g' := (mkF m 2 #[.val (.int p10_0), .val (.int p10_1), .val (.int p10_2), .val (.int p10_3), .val (.ref a10_4), .val (.int p10_5), .val v10_6, .unset] [(.int (1 : Int32)), (.int p10_0)])) (fun t k => ?_) ?_
  · show Steps p.tables e below (s₁.setTop (mkF m 0 #[.val (.int p10_0), .val (.int p10_1), .val (.int p10_2), .val (.int p10_3), .val (.ref a10_4), .val (.int p10_5), .val v10_6, .unset] [])) t
    refine XS.iloadN X0.here hx rfl (hb hby d10_0) rfl ?_
    show Steps p.tables e below (s₁.setTop (mkF m 1 #[.val (.int p10_0), .val (.int p10_1), .val (.int p10_2), .val (.int p10_3), .val (.ref a10_4), .val (.int p10_5), .val v10_6, .unset] [(.int p10_0)])) t
    refine XS.iconst X0.here hx rfl (hb hby d10_1) ?_
    show Steps p.tables e below (s₁.setTop (mkF m 2 #[.val (.int p10_0), .val (.int p10_1), .val (.int p10_2), .val (.int p10_3), .val (.ref a10_4), .val (.int p10_5), .val v10_6, .unset] [(.int (1 : Int32)), (.int p10_0)])) t
    exact k
  by_cases hc142 : p10_0 < (1 : Int32)
  · skip
    refine own_by (T' := s₁) (g' := (mkF m 6 #[.val (.int p10_0), .val (.int p10_1), .val (.int p10_2), .val (.int p10_3), .val (.ref a10_4), .val (.int p10_5), .val v10_6, .unset] [.null])) (fun t k => ?_) ?_
    · show Steps p.tables e below (s₁.setTop (mkF m 2 #[.val (.int p10_0), .val (.int p10_1), .val (.int p10_2), .val (.int p10_3), .val (.ref a10_4), .val (.int p10_5), .val v10_6, .unset] [(.int (1 : Int32)), (.int p10_0)])) t
      refine XS.icmpNo X0.here hx rfl (hb hby d10_2) rfl (tlt hc142).2.1 ?_
      show Steps p.tables e below (s₁.setTop (mkF m 5 #[.val (.int p10_0), .val (.int p10_1), .val (.int p10_2), .val (.int p10_3), .val (.ref a10_4), .val (.int p10_5), .val v10_6, .unset] [])) t
      refine XS.aconstNull X0.here hx rfl (hb hby d10_5) ?_
      show Steps p.tables e below (s₁.setTop (mkF m 6 #[.val (.int p10_0), .val (.int p10_1), .val (.int p10_2), .val (.int p10_3), .val (.ref a10_4), .val (.int p10_5), .val v10_6, .unset] [.null])) t
      exact k
    rw [show own_F10 p10_0 p10_1 p10_2 p10_3 a10_4 p10_5 v10_6 = .null from ((if_pos hc142).trans rfl)]
    exact own_retR X0 hx Bd.returns rfl rfl rfl (hb hby d10_6) hlk (by decide) (by decide) ⟨rfl, N0, e0, rfl⟩
  · skip
    refine own_by (T' := s₁) (g' := (mkF m 9 #[.val (.int p10_0), .val (.int p10_1), .val (.int p10_2), .val (.int p10_3), .val (.ref a10_4), .val (.int p10_5), .val v10_6, .unset] [(.int p10_1), (.int p10_0)])) (fun t k => ?_) ?_
    · show Steps p.tables e below (s₁.setTop (mkF m 2 #[.val (.int p10_0), .val (.int p10_1), .val (.int p10_2), .val (.int p10_3), .val (.ref a10_4), .val (.int p10_5), .val v10_6, .unset] [(.int (1 : Int32)), (.int p10_0)])) t
      refine XS.icmpYes X0.here hx rfl (pc0 := 2) (pc' := 7) rfl (hb hby d10_2) rfl (flt hc142).2.1 (by decide) (by decide) ?_
      show Steps p.tables e below (s₁.setTop (mkF m 7 #[.val (.int p10_0), .val (.int p10_1), .val (.int p10_2), .val (.int p10_3), .val (.ref a10_4), .val (.int p10_5), .val v10_6, .unset] [])) t
      refine XS.iloadN X0.here hx rfl (hb hby d10_7) rfl ?_
      show Steps p.tables e below (s₁.setTop (mkF m 8 #[.val (.int p10_0), .val (.int p10_1), .val (.int p10_2), .val (.int p10_3), .val (.ref a10_4), .val (.int p10_5), .val v10_6, .unset] [(.int p10_0)])) t
      refine XS.iloadN X0.here hx rfl (hb hby d10_8) rfl ?_
      show Steps p.tables e below (s₁.setTop (mkF m 9 #[.val (.int p10_0), .val (.int p10_1), .val (.int p10_2), .val (.int p10_3), .val (.ref a10_4), .val (.int p10_5), .val v10_6, .unset] [(.int p10_1), (.int p10_0)])) t
      exact k
    by_cases hc143 : p10_1 < p10_0
    · skip
      refine own_by (T' := s₁) (g' := (mkF m 13 #[.val (.int p10_0), .val (.int p10_1), .val (.int p10_2), .val (.int p10_3), .val (.ref a10_4), .val (.int p10_5), .val v10_6, .unset] [.null])) (fun t k => ?_) ?_
      · show Steps p.tables e below (s₁.setTop (mkF m 9 #[.val (.int p10_0), .val (.int p10_1), .val (.int p10_2), .val (.int p10_3), .val (.ref a10_4), .val (.int p10_5), .val v10_6, .unset] [(.int p10_1), (.int p10_0)])) t
        refine XS.icmpNo X0.here hx rfl (hb hby d10_9) rfl (tlt hc143).2.2.2 ?_
        show Steps p.tables e below (s₁.setTop (mkF m 12 #[.val (.int p10_0), .val (.int p10_1), .val (.int p10_2), .val (.int p10_3), .val (.ref a10_4), .val (.int p10_5), .val v10_6, .unset] [])) t
        refine XS.aconstNull X0.here hx rfl (hb hby d10_12) ?_
        show Steps p.tables e below (s₁.setTop (mkF m 13 #[.val (.int p10_0), .val (.int p10_1), .val (.int p10_2), .val (.int p10_3), .val (.ref a10_4), .val (.int p10_5), .val v10_6, .unset] [.null])) t
        exact k
      rw [show own_F10 p10_0 p10_1 p10_2 p10_3 a10_4 p10_5 v10_6 = .null from ((if_neg hc142).trans ((if_pos hc143).trans rfl))]
      exact own_retR X0 hx Bd.returns rfl rfl rfl (hb hby d10_13) hlk (by decide) (by decide) ⟨rfl, N0, e0, rfl⟩
    · skip
      refine own_by (T' := s₁) (g' := (mkF m 20 #[.val (.int p10_0), .val (.int p10_1), .val (.int p10_2), .val (.int p10_3), .val (.ref a10_4), .val (.int p10_5), .val v10_6, .val (.int (p10_0 - (1 : Int32)))] [(.int p10_2)])) (fun t k => ?_) ?_
      · show Steps p.tables e below (s₁.setTop (mkF m 9 #[.val (.int p10_0), .val (.int p10_1), .val (.int p10_2), .val (.int p10_3), .val (.ref a10_4), .val (.int p10_5), .val v10_6, .unset] [(.int p10_1), (.int p10_0)])) t
        refine XS.icmpYes X0.here hx rfl (pc0 := 9) (pc' := 14) rfl (hb hby d10_9) rfl (flt hc143).2.2.2 (by decide) (by decide) ?_
        show Steps p.tables e below (s₁.setTop (mkF m 14 #[.val (.int p10_0), .val (.int p10_1), .val (.int p10_2), .val (.int p10_3), .val (.ref a10_4), .val (.int p10_5), .val v10_6, .unset] [])) t
        refine XS.iloadN X0.here hx rfl (hb hby d10_14) rfl ?_
        show Steps p.tables e below (s₁.setTop (mkF m 15 #[.val (.int p10_0), .val (.int p10_1), .val (.int p10_2), .val (.int p10_3), .val (.ref a10_4), .val (.int p10_5), .val v10_6, .unset] [(.int p10_0)])) t
        refine XS.iconst X0.here hx rfl (hb hby d10_15) ?_
        show Steps p.tables e below (s₁.setTop (mkF m 16 #[.val (.int p10_0), .val (.int p10_1), .val (.int p10_2), .val (.int p10_3), .val (.ref a10_4), .val (.int p10_5), .val v10_6, .unset] [(.int (1 : Int32)), (.int p10_0)])) t
        refine XS.isub X0.here hx rfl (hb hby d10_16) rfl ?_
        show Steps p.tables e below (s₁.setTop (mkF m 17 #[.val (.int p10_0), .val (.int p10_1), .val (.int p10_2), .val (.int p10_3), .val (.ref a10_4), .val (.int p10_5), .val v10_6, .unset] [(.int (p10_0 - (1 : Int32)))])) t
        refine XS.istore X0.here hx rfl (hb hby d10_17) rfl (l' := #[.val (.int p10_0), .val (.int p10_1), .val (.int p10_2), .val (.int p10_3), .val (.ref a10_4), .val (.int p10_5), .val v10_6, .val (.int (p10_0 - (1 : Int32)))]) rfl ?_
        show Steps p.tables e below (s₁.setTop (mkF m 19 #[.val (.int p10_0), .val (.int p10_1), .val (.int p10_2), .val (.int p10_3), .val (.ref a10_4), .val (.int p10_5), .val v10_6, .val (.int (p10_0 - (1 : Int32)))] [])) t
        refine XS.iloadN X0.here hx rfl (hb hby d10_19) rfl ?_
        show Steps p.tables e below (s₁.setTop (mkF m 20 #[.val (.int p10_0), .val (.int p10_1), .val (.int p10_2), .val (.int p10_3), .val (.ref a10_4), .val (.int p10_5), .val v10_6, .val (.int (p10_0 - (1 : Int32)))] [(.int p10_2)])) t
        exact k
      by_cases hc144 : p10_2 = (0 : Int32)
      · skip
        refine own_by (T' := s₁) (g' := (mkF m 47 #[.val (.int p10_0), .val (.int p10_1), .val (.int p10_2), .val (.int p10_3), .val (.ref a10_4), .val (.int p10_5), .val v10_6, .val (.int (p10_0 - (1 : Int32)))] [.null])) (fun t k => ?_) ?_
        · show Steps p.tables e below (s₁.setTop (mkF m 20 #[.val (.int p10_0), .val (.int p10_1), .val (.int p10_2), .val (.int p10_3), .val (.ref a10_4), .val (.int p10_5), .val v10_6, .val (.int (p10_0 - (1 : Int32)))] [(.int p10_2)])) t
          refine XS.ifYes X0.here hx rfl (pc0 := 20) (pc' := 33) rfl (hb hby d10_20) rfl ((if0 _ _).trans (teq hc144).1) (by decide) (by decide) ?_
          show Steps p.tables e below (s₁.setTop (mkF m 33 #[.val (.int p10_0), .val (.int p10_1), .val (.int p10_2), .val (.int p10_3), .val (.ref a10_4), .val (.int p10_5), .val v10_6, .val (.int (p10_0 - (1 : Int32)))] [])) t
          refine XS.iloadN X0.here hx rfl (hb hby d10_33) rfl ?_
          show Steps p.tables e below (s₁.setTop (mkF m 34 #[.val (.int p10_0), .val (.int p10_1), .val (.int p10_2), .val (.int p10_3), .val (.ref a10_4), .val (.int p10_5), .val v10_6, .val (.int (p10_0 - (1 : Int32)))] [(.int p10_2)])) t
          refine XS.ifYes X0.here hx rfl (pc0 := 34) (pc' := 46) rfl (hb hby d10_34) rfl ((if0 _ _).trans (teq hc144).1) (by decide) (by decide) ?_
          show Steps p.tables e below (s₁.setTop (mkF m 46 #[.val (.int p10_0), .val (.int p10_1), .val (.int p10_2), .val (.int p10_3), .val (.ref a10_4), .val (.int p10_5), .val v10_6, .val (.int (p10_0 - (1 : Int32)))] [])) t
          refine XS.aconstNull X0.here hx rfl (hb hby d10_46) ?_
          show Steps p.tables e below (s₁.setTop (mkF m 47 #[.val (.int p10_0), .val (.int p10_1), .val (.int p10_2), .val (.int p10_3), .val (.ref a10_4), .val (.int p10_5), .val v10_6, .val (.int (p10_0 - (1 : Int32)))] [.null])) t
          exact k
        rw [show own_F10 p10_0 p10_1 p10_2 p10_3 a10_4 p10_5 v10_6 = .null from ((if_neg hc142).trans ((if_neg hc143).trans ((if_pos hc144).trans rfl)))]
        exact own_retR X0 hx Bd.returns rfl rfl rfl (hb hby d10_47) hlk (by decide) (by decide) ⟨rfl, N0, e0, rfl⟩
      · skip
        refine own_by (T' := s₁) (g' := (mkF m 27 #[.val (.int p10_0), .val (.int p10_1), .val (.int p10_2), .val (.int p10_3), .val (.ref a10_4), .val (.int p10_5), .val v10_6, .val (.int (p10_0 - (1 : Int32)))] [(.int p10_5), (.int (p10_0 - (1 : Int32)))])) (fun t k => ?_) ?_
        · show Steps p.tables e below (s₁.setTop (mkF m 20 #[.val (.int p10_0), .val (.int p10_1), .val (.int p10_2), .val (.int p10_3), .val (.ref a10_4), .val (.int p10_5), .val v10_6, .val (.int (p10_0 - (1 : Int32)))] [(.int p10_2)])) t
          refine XS.ifNo X0.here hx rfl (hb hby d10_20) rfl ((if0 _ _).trans (feq hc144).1) ?_
          show Steps p.tables e below (s₁.setTop (mkF m 23 #[.val (.int p10_0), .val (.int p10_1), .val (.int p10_2), .val (.int p10_3), .val (.ref a10_4), .val (.int p10_5), .val v10_6, .val (.int (p10_0 - (1 : Int32)))] [])) t
          refine XS.iload X0.here hx rfl (hb hby d10_23) rfl ?_
          show Steps p.tables e below (s₁.setTop (mkF m 25 #[.val (.int p10_0), .val (.int p10_1), .val (.int p10_2), .val (.int p10_3), .val (.ref a10_4), .val (.int p10_5), .val v10_6, .val (.int (p10_0 - (1 : Int32)))] [(.int (p10_0 - (1 : Int32)))])) t
          refine XS.iload X0.here hx rfl (hb hby d10_25) rfl ?_
          show Steps p.tables e below (s₁.setTop (mkF m 27 #[.val (.int p10_0), .val (.int p10_1), .val (.int p10_2), .val (.int p10_3), .val (.ref a10_4), .val (.int p10_5), .val v10_6, .val (.int (p10_0 - (1 : Int32)))] [(.int p10_5), (.int (p10_0 - (1 : Int32)))])) t
          exact k
        by_cases hc145 : (p10_0 - (1 : Int32)) = p10_5
        · skip
          refine own_by (T' := s₁) (g' := (mkF m 32 #[.val (.int p10_0), .val (.int p10_1), .val (.int p10_2), .val (.int p10_3), .val (.ref a10_4), .val (.int p10_5), .val v10_6, .val (.int (p10_0 - (1 : Int32)))] [v10_6])) (fun t k => ?_) ?_
          · show Steps p.tables e below (s₁.setTop (mkF m 27 #[.val (.int p10_0), .val (.int p10_1), .val (.int p10_2), .val (.int p10_3), .val (.ref a10_4), .val (.int p10_5), .val v10_6, .val (.int (p10_0 - (1 : Int32)))] [(.int p10_5), (.int (p10_0 - (1 : Int32)))])) t
            refine XS.icmpNo X0.here hx rfl (hb hby d10_27) rfl (teq hc145).2 ?_
            show Steps p.tables e below (s₁.setTop (mkF m 30 #[.val (.int p10_0), .val (.int p10_1), .val (.int p10_2), .val (.int p10_3), .val (.ref a10_4), .val (.int p10_5), .val v10_6, .val (.int (p10_0 - (1 : Int32)))] [])) t
            refine XS.aload X0.here hx rfl (hb hby d10_30) rfl hr_v10_6 ?_
            show Steps p.tables e below (s₁.setTop (mkF m 32 #[.val (.int p10_0), .val (.int p10_1), .val (.int p10_2), .val (.int p10_3), .val (.ref a10_4), .val (.int p10_5), .val v10_6, .val (.int (p10_0 - (1 : Int32)))] [v10_6])) t
            exact k
          rw [show own_F10 p10_0 p10_1 p10_2 p10_3 a10_4 p10_5 v10_6 = v10_6 from ((if_neg hc142).trans ((if_neg hc143).trans ((if_neg hc144).trans ((if_pos hc145).trans rfl))))]
          exact own_retR X0 hx Bd.returns rfl hr_v10_6 rfl (hb hby d10_32) hlk (by decide) (by decide) ⟨rfl, N0, e0, hr_v10_6⟩
        · skip
          refine own_by (T' := s₁) (g' := (mkF m 40 #[.val (.int p10_0), .val (.int p10_1), .val (.int p10_2), .val (.int p10_3), .val (.ref a10_4), .val (.int p10_5), .val v10_6, .val (.int (p10_0 - (1 : Int32)))] [(.int p10_3), (.int (p10_0 - (1 : Int32)))])) (fun t k => ?_) ?_
          · show Steps p.tables e below (s₁.setTop (mkF m 27 #[.val (.int p10_0), .val (.int p10_1), .val (.int p10_2), .val (.int p10_3), .val (.ref a10_4), .val (.int p10_5), .val v10_6, .val (.int (p10_0 - (1 : Int32)))] [(.int p10_5), (.int (p10_0 - (1 : Int32)))])) t
            refine XS.icmpYes X0.here hx rfl (pc0 := 27) (pc' := 33) rfl (hb hby d10_27) rfl (feq hc145).2 (by decide) (by decide) ?_
            show Steps p.tables e below (s₁.setTop (mkF m 33 #[.val (.int p10_0), .val (.int p10_1), .val (.int p10_2), .val (.int p10_3), .val (.ref a10_4), .val (.int p10_5), .val v10_6, .val (.int (p10_0 - (1 : Int32)))] [])) t
            refine XS.iloadN X0.here hx rfl (hb hby d10_33) rfl ?_
            show Steps p.tables e below (s₁.setTop (mkF m 34 #[.val (.int p10_0), .val (.int p10_1), .val (.int p10_2), .val (.int p10_3), .val (.ref a10_4), .val (.int p10_5), .val v10_6, .val (.int (p10_0 - (1 : Int32)))] [(.int p10_2)])) t
            refine XS.ifNo X0.here hx rfl (hb hby d10_34) rfl ((if0 _ _).trans (feq hc144).1) ?_
            show Steps p.tables e below (s₁.setTop (mkF m 37 #[.val (.int p10_0), .val (.int p10_1), .val (.int p10_2), .val (.int p10_3), .val (.ref a10_4), .val (.int p10_5), .val v10_6, .val (.int (p10_0 - (1 : Int32)))] [])) t
            refine XS.iload X0.here hx rfl (hb hby d10_37) rfl ?_
            show Steps p.tables e below (s₁.setTop (mkF m 39 #[.val (.int p10_0), .val (.int p10_1), .val (.int p10_2), .val (.int p10_3), .val (.ref a10_4), .val (.int p10_5), .val v10_6, .val (.int (p10_0 - (1 : Int32)))] [(.int (p10_0 - (1 : Int32)))])) t
            refine XS.iloadN X0.here hx rfl (hb hby d10_39) rfl ?_
            show Steps p.tables e below (s₁.setTop (mkF m 40 #[.val (.int p10_0), .val (.int p10_1), .val (.int p10_2), .val (.int p10_3), .val (.ref a10_4), .val (.int p10_5), .val v10_6, .val (.int (p10_0 - (1 : Int32)))] [(.int p10_3), (.int (p10_0 - (1 : Int32)))])) t
            exact k
          by_cases hc146 : (p10_0 - (1 : Int32)) = p10_3
          · skip
            refine own_by (T' := s₁) (g' := (mkF m 45 #[.val (.int p10_0), .val (.int p10_1), .val (.int p10_2), .val (.int p10_3), .val (.ref a10_4), .val (.int p10_5), .val v10_6, .val (.int (p10_0 - (1 : Int32)))] [(.ref a10_4)])) (fun t k => ?_) ?_
            · show Steps p.tables e below (s₁.setTop (mkF m 40 #[.val (.int p10_0), .val (.int p10_1), .val (.int p10_2), .val (.int p10_3), .val (.ref a10_4), .val (.int p10_5), .val v10_6, .val (.int (p10_0 - (1 : Int32)))] [(.int p10_3), (.int (p10_0 - (1 : Int32)))])) t
              refine XS.icmpNo X0.here hx rfl (hb hby d10_40) rfl (teq hc146).2 ?_
              show Steps p.tables e below (s₁.setTop (mkF m 43 #[.val (.int p10_0), .val (.int p10_1), .val (.int p10_2), .val (.int p10_3), .val (.ref a10_4), .val (.int p10_5), .val v10_6, .val (.int (p10_0 - (1 : Int32)))] [])) t
              refine XS.aload X0.here hx rfl (hb hby d10_43) rfl rfl ?_
              show Steps p.tables e below (s₁.setTop (mkF m 45 #[.val (.int p10_0), .val (.int p10_1), .val (.int p10_2), .val (.int p10_3), .val (.ref a10_4), .val (.int p10_5), .val v10_6, .val (.int (p10_0 - (1 : Int32)))] [(.ref a10_4)])) t
              exact k
            rw [show own_F10 p10_0 p10_1 p10_2 p10_3 a10_4 p10_5 v10_6 = (.ref a10_4) from ((if_neg hc142).trans ((if_neg hc143).trans ((if_neg hc144).trans ((if_neg hc145).trans ((if_pos hc146).trans rfl)))))]
            exact own_retR X0 hx Bd.returns rfl rfl rfl (hb hby d10_45) hlk (by decide) (by decide) ⟨rfl, N0, e0, rfl⟩
          · skip
            refine own_by (T' := s₁) (g' := (mkF m 47 #[.val (.int p10_0), .val (.int p10_1), .val (.int p10_2), .val (.int p10_3), .val (.ref a10_4), .val (.int p10_5), .val v10_6, .val (.int (p10_0 - (1 : Int32)))] [.null])) (fun t k => ?_) ?_
            · show Steps p.tables e below (s₁.setTop (mkF m 40 #[.val (.int p10_0), .val (.int p10_1), .val (.int p10_2), .val (.int p10_3), .val (.ref a10_4), .val (.int p10_5), .val v10_6, .val (.int (p10_0 - (1 : Int32)))] [(.int p10_3), (.int (p10_0 - (1 : Int32)))])) t
              refine XS.icmpYes X0.here hx rfl (pc0 := 40) (pc' := 46) rfl (hb hby d10_40) rfl (feq hc146).2 (by decide) (by decide) ?_
              show Steps p.tables e below (s₁.setTop (mkF m 46 #[.val (.int p10_0), .val (.int p10_1), .val (.int p10_2), .val (.int p10_3), .val (.ref a10_4), .val (.int p10_5), .val v10_6, .val (.int (p10_0 - (1 : Int32)))] [])) t
              refine XS.aconstNull X0.here hx rfl (hb hby d10_46) ?_
              show Steps p.tables e below (s₁.setTop (mkF m 47 #[.val (.int p10_0), .val (.int p10_1), .val (.int p10_2), .val (.int p10_3), .val (.ref a10_4), .val (.int p10_5), .val v10_6, .val (.int (p10_0 - (1 : Int32)))] [.null])) t
              exact k
            rw [show own_F10 p10_0 p10_1 p10_2 p10_3 a10_4 p10_5 v10_6 = .null from ((if_neg hc142).trans ((if_neg hc143).trans ((if_neg hc144).trans ((if_neg hc145).trans ((if_neg hc146).trans rfl)))))]
            exact own_retR X0 hx Bd.returns rfl rfl rfl (hb hby d10_47) hlk (by decide) (by decide) ⟨rfl, N0, e0, rfl⟩
theorem own_012 {x n : Int32} (h : ¬ x < 0 ∧ x < n) (hn : ¬ (3 : Int32) < n) : x = 0 ∨ x = 1 ∨ x = 2 := by
  obtain ⟨a, b⟩ := h
  rw [Int32.lt_iff_toInt_lt, show (0 : Int32).toInt = 0 from by decide] at a
  rw [Int32.lt_iff_toInt_lt] at b
  rw [Int32.lt_iff_toInt_lt, show (3 : Int32).toInt = 3 from by decide] at hn
  simp only [← Int32.toInt_inj, show (0 : Int32).toInt = 0 from by decide, show (1 : Int32).toInt = 1 from by decide, show (2 : Int32).toInt = 2 from by decide]
  omega
theorem own_pos1 {x : Int32} : (x < (1 : Int32)) ↔ ¬ (0 : Int32) < x := by
  rw [Int32.lt_iff_toInt_lt, Int32.lt_iff_toInt_lt, show (0 : Int32).toInt = 0 from by decide, show (1 : Int32).toInt = 1 from by decide]
  omega
theorem own_ag1 {b y k1 : Addr} {pos n i1 i2 : Int32} {v2 : Value} (hn : ¬ n < 0 ∧ ¬ (3 : Int32) < n) (h1 : ¬ i1 < 0 ∧ i1 < n) (h2 : ¬ i2 < 0 ∧ i2 < n) : own_F9 b pos y n ((([.null, .null, .null] : List Value).set i1.toNatClampNeg (.ref k1)).set i2.toNatClampNeg v2) = own_F10 pos n (1 : Int32) i1 k1 i2 v2 := by
  unfold own_F9 own_F10
  by_cases c1 : (0 : Int32) < pos
  · rw [if_pos c1, if_neg (fun q => own_pos1.mp q c1)]
    by_cases c2 : n < pos
    · rw [if_pos c2, if_pos c2]
    · rw [if_neg c2, if_neg c2, if_neg (by decide)]
      have h3 := own_pos c1 c2
      generalize pos - (1 : Int32) = x at h3 ⊢
      rcases own_012 h3 hn.2 with rfl | rfl | rfl <;> rcases own_012 h1 hn.2 with rfl | rfl | rfl <;> rcases own_012 h2 hn.2 with rfl | rfl | rfl <;> rfl
  · rw [if_neg c1, if_pos (own_pos1.mpr c1)]
theorem own_ag0 {b y k1 : Addr} {pos n i1 i2 : Int32} {v2 : Value} : own_F9 b pos y n ([.null, .null, .null] : List Value) = own_F10 pos n (0 : Int32) i1 k1 i2 v2 := by
  have e : ∀ k : Nat, ([.null, .null, .null] : List Value).getD k .null = .null := fun k => by
    match k with
    | 0 => rfl
    | 1 => rfl
    | 2 => rfl
    | k + 3 => rfl
  unfold own_F9 own_F10
  rw [e, if_pos rfl]
  simp only [ite_self]

theorem pd___C_V : parseMethodDescriptor "([C)V" = some ⟨[(.array .char)], none⟩ := by decide +kernel
theorem pd__Ljava_util_Map_I_V : parseMethodDescriptor "(Ljava/util/Map;I)V" = some ⟨[(.object "java/util/Map"), .int], none⟩ := by decide +kernel
theorem pd__Ljava_lang_String_II_V : parseMethodDescriptor "(Ljava/lang/String;II)V" = some ⟨[(.object "java/lang/String"), .int, .int], none⟩ := by decide +kernel
theorem pd__I_Ljava_lang_String_ : parseMethodDescriptor "(I)Ljava/lang/String;" = some ⟨[.int], some (.object "java/lang/String")⟩ := by decide +kernel
theorem pd__IIZILjava_lang_String_ILjava_lang_String__Ljava_lang_String_ : parseMethodDescriptor "(IIZILjava/lang/String;ILjava/lang/String;)Ljava/lang/String;" = some ⟨[.int, .int, .boolean, .int, (.object "java/lang/String"), .int, (.object "java/lang/String")], some (.object "java/lang/String")⟩ := by decide +kernel
theorem own_ef0 (m : MethodId) (x0 : Int32) (x1 : Int32) (x2 : Int32) (x3 : Int32) (x4 : Int32) : entryFrame m #[(.int x0), (.int x1), (.int x2), (.int x3), (.int x4)] maxLocals = mkF m 0 #[.val (.int x0), .val (.int x1), .val (.int x2), .val (.int x3), .val (.int x4), .unset, .unset, .unset, .unset, .unset, .unset, .unset, .unset, .unset, .unset, .unset, .unset] [] := by first | (simp [entryFrame, mkF, argsToLocals, Value.category, maxLocals]; done) | rfl
def own_Q0 (r : Int32) (h0 : Heap) (n0 : Nat) (v : Option Value) (h : Heap) (L : List Loc) : Prop := v = some (.int r) ∧ Fr n0 L
set_option maxRecDepth 65536 in
set_option maxHeartbeats 40000000 in
theorem own_rm0 (l : Launch) (Z : State) (a0 : Array Value) (hw : ∀ d ∈ tables_1, d.before a0 Z = true) (ws : List Jvm.Cond) (p0_0 : Int32) (p0_1 : Int32) (p0_2 : Int32) (p0_3 : Int32) (p0_4 : Int32) (cs : Int32) (h0 : Heap) (n0 : Nat) (Z0 : n0 ≤ h0.size) (O0 : Old Z n0 h0) (SC : Sta Z Z.heap "java/lang/String" "COMPACT_STRINGS" "Z" (.int cs)) (HCS : ¬ (cs = (0 : Int32))) :
    MetFree l x (head1 (Jvm.Cond.code x code maxLocals ret :: ws) room_1) (fun a U => a = #[(.int p0_0), (.int p0_1), (.int p0_2), (.int p0_3), (.int p0_4)] ∧ Z.Warmed39 U.vm ∧ U.heap = h0) (fun _ _ _ _ _ => True) (fun _ U o U' => ∃ v L, o = .returned v ∧ own_Q0 (1 : Int32) h0 n0 v U'.heap L ∧ FrameEnd U o U' L room_1.cells room_1.slots) := by
  refine MetFree.of_bodySF (plainFor_of_name pn_com_example_yohokit_yohokit_PartsKeyAtPinLaw) hisR ?_
  intro p e s m args below meth c s₁ Bd hml0 hP hK
  obtain ⟨rfl, hZ, hh⟩ := hP
  have hx := Bd.exec
  have hby := Bd.bytes
  have hlk : meth.locks = false := BodyLoose.notSynchronized Bd
  have hml : c.maxLocals = 17 := hml0
  have hown : s.vm.findClass "com/example/yohokit/yohokit/PartsKeyAtPinLaw" = some m.cls := findClass_of_methodNamed Bd.named
  have hnm := (name_of_methodNamed Bd.named Bd.method).1
  have X0 : Stand p l e room_1 s m #[(.int p0_0), (.int p0_1), (.int p0_2), (.int p0_3), (.int p0_4)] below meth c s₁ [] 0 0 := Stand.of_body Bd
  have e0 : s₁.heap = h0 := by rw [← hh, Bd.state]; rfl
  have N0 := Fr.nil n0
  show own_Go p e below (own_P s below room_1 (own_Q0 (1 : Int32) h0 n0)) s₁ (entryFrame m #[(.int p0_0), (.int p0_1), (.int p0_2), (.int p0_3), (.int p0_4)] maxLocals)
  refine own_in (own_ef0 m p0_0 p0_1 p0_2 p0_3 p0_4) ?_
  refine own_by (T' := s₁) (g' := (mkF m 6 #[.val (.int p0_0), .val (.int p0_1), .val (.int p0_2), .val (.int p0_3), .val (.int p0_4), .val (.int (p0_0 &&& (3 : Int32))), .unset, .unset, .unset, .unset, .unset, .unset, .unset, .unset, .unset, .unset, .unset] [(.int (1 : Int32))])) (fun t k => ?_) ?_
  · show Steps p.tables e below (s₁.setTop (mkF m 0 #[.val (.int p0_0), .val (.int p0_1), .val (.int p0_2), .val (.int p0_3), .val (.int p0_4), .unset, .unset, .unset, .unset, .unset, .unset, .unset, .unset, .unset, .unset, .unset, .unset] [])) t
    refine XS.iloadN X0.here hx rfl (hb hby at_0) rfl ?_
    show Steps p.tables e below (s₁.setTop (mkF m 1 #[.val (.int p0_0), .val (.int p0_1), .val (.int p0_2), .val (.int p0_3), .val (.int p0_4), .unset, .unset, .unset, .unset, .unset, .unset, .unset, .unset, .unset, .unset, .unset, .unset] [(.int p0_0)])) t
    refine XS.iconst X0.here hx rfl (hb hby at_1) ?_
    show Steps p.tables e below (s₁.setTop (mkF m 2 #[.val (.int p0_0), .val (.int p0_1), .val (.int p0_2), .val (.int p0_3), .val (.int p0_4), .unset, .unset, .unset, .unset, .unset, .unset, .unset, .unset, .unset, .unset, .unset, .unset] [(.int (3 : Int32)), (.int p0_0)])) t
    refine XS.iand X0.here hx rfl (hb hby at_2) rfl ?_
    show Steps p.tables e below (s₁.setTop (mkF m 3 #[.val (.int p0_0), .val (.int p0_1), .val (.int p0_2), .val (.int p0_3), .val (.int p0_4), .unset, .unset, .unset, .unset, .unset, .unset, .unset, .unset, .unset, .unset, .unset, .unset] [(.int (p0_0 &&& (3 : Int32)))])) t
    refine XS.istore X0.here hx rfl (hb hby at_3) rfl (l' := #[.val (.int p0_0), .val (.int p0_1), .val (.int p0_2), .val (.int p0_3), .val (.int p0_4), .val (.int (p0_0 &&& (3 : Int32))), .unset, .unset, .unset, .unset, .unset, .unset, .unset, .unset, .unset, .unset, .unset]) rfl ?_
    show Steps p.tables e below (s₁.setTop (mkF m 5 #[.val (.int p0_0), .val (.int p0_1), .val (.int p0_2), .val (.int p0_3), .val (.int p0_4), .val (.int (p0_0 &&& (3 : Int32))), .unset, .unset, .unset, .unset, .unset, .unset, .unset, .unset, .unset, .unset, .unset] [])) t
    refine XS.iconst X0.here hx rfl (hb hby at_5) ?_
    show Steps p.tables e below (s₁.setTop (mkF m 6 #[.val (.int p0_0), .val (.int p0_1), .val (.int p0_2), .val (.int p0_3), .val (.int p0_4), .val (.int (p0_0 &&& (3 : Int32))), .unset, .unset, .unset, .unset, .unset, .unset, .unset, .unset, .unset, .unset, .unset] [(.int (1 : Int32))])) t
    exact k
  obtain ⟨T147, h147, k147, X147, e147, E147, A147, st147⟩ := newP X0 hx hZ (hw _ (List.mem_of_getElem? (i := 0) rfl)) e0 (g := (mkF m 6 #[.val (.int p0_0), .val (.int p0_1), .val (.int p0_2), .val (.int p0_3), .val (.int p0_4), .val (.int (p0_0 &&& (3 : Int32))), .unset, .unset, .unset, .unset, .unset, .unset, .unset, .unset, .unset, .unset, .unset] [(.int (1 : Int32))])) rfl (hb hby at_6) rfl (by decide) (cap := 1) (by decide) (by decide) (by decide) (by decide)
  obtain ⟨b147, g147⟩ : ∃ z, z = h0.size := ⟨_, rfl⟩
  rw [← g147] at A147 st147
  have gn_b147 : n0 ≤ b147 := Nat.le_trans Z0 (Nat.le_of_eq g147.symm)
  have sz_b147 : h0.size ≤ b147 := Nat.le_trans (Keep.refl h0 []).1 (Nat.le_of_eq g147.symm)
  have K148 : Keep h0 h147 [] := (Keep.refl h0 []).ext E147
  have O149 := O0.ext E147
  have Z150 := Nat.le_trans Z0 E147.1
  have f151 : Arv Z h147 b147 k147 .char (1 : Int32) [(.int (0 : Int32))] (.int (0 : Int32)) := (Arv.new A147 (by decide)).pad (pad_rep [] (.int (0 : Int32)) 1)
  refine own_by (T' := T147) (g' := (mkF m 8 #[.val (.int p0_0), .val (.int p0_1), .val (.int p0_2), .val (.int p0_3), .val (.int p0_4), .val (.int (p0_0 &&& (3 : Int32))), .unset, .unset, .unset, .unset, .unset, .unset, .unset, .unset, .unset, .unset, .unset] [(.ref b147)])) st147 ?_
  refine own_by (T' := T147) (g' := (mkF m 16 #[.val (.int p0_0), .val (.int p0_1), .val (.int p0_2), .val (.int p0_3), .val (.int p0_4), .val (.int (p0_0 &&& (3 : Int32))), .unset, .unset, .unset, .unset, .unset, .unset, .unset, .unset, .unset, .unset, .unset] [(.int ((p0_2 &&& (255 : Int32)).toUInt32.toUInt16.toUInt32.toInt32)), (.int (0 : Int32)), (.ref b147), (.ref b147)])) (fun t k => ?_) ?_
  · show Steps p.tables e below (T147.setTop (mkF m 8 #[.val (.int p0_0), .val (.int p0_1), .val (.int p0_2), .val (.int p0_3), .val (.int p0_4), .val (.int (p0_0 &&& (3 : Int32))), .unset, .unset, .unset, .unset, .unset, .unset, .unset, .unset, .unset, .unset, .unset] [(.ref b147)])) t
    refine XS.dup X147.here hx rfl (hb hby at_8) rfl rfl ?_
    show Steps p.tables e below (T147.setTop (mkF m 9 #[.val (.int p0_0), .val (.int p0_1), .val (.int p0_2), .val (.int p0_3), .val (.int p0_4), .val (.int (p0_0 &&& (3 : Int32))), .unset, .unset, .unset, .unset, .unset, .unset, .unset, .unset, .unset, .unset, .unset] [(.ref b147), (.ref b147)])) t
    refine XS.iconst X147.here hx rfl (hb hby at_9) ?_
    show Steps p.tables e below (T147.setTop (mkF m 10 #[.val (.int p0_0), .val (.int p0_1), .val (.int p0_2), .val (.int p0_3), .val (.int p0_4), .val (.int (p0_0 &&& (3 : Int32))), .unset, .unset, .unset, .unset, .unset, .unset, .unset, .unset, .unset, .unset, .unset] [(.int (0 : Int32)), (.ref b147), (.ref b147)])) t
    refine XS.iloadN X147.here hx rfl (hb hby at_10) rfl ?_
    show Steps p.tables e below (T147.setTop (mkF m 11 #[.val (.int p0_0), .val (.int p0_1), .val (.int p0_2), .val (.int p0_3), .val (.int p0_4), .val (.int (p0_0 &&& (3 : Int32))), .unset, .unset, .unset, .unset, .unset, .unset, .unset, .unset, .unset, .unset, .unset] [(.int p0_2), (.int (0 : Int32)), (.ref b147), (.ref b147)])) t
    refine XS.sipush X147.here hx rfl (hb hby at_11) ?_
    show Steps p.tables e below (T147.setTop (mkF m 14 #[.val (.int p0_0), .val (.int p0_1), .val (.int p0_2), .val (.int p0_3), .val (.int p0_4), .val (.int (p0_0 &&& (3 : Int32))), .unset, .unset, .unset, .unset, .unset, .unset, .unset, .unset, .unset, .unset, .unset] [(.int (255 : Int32)), (.int p0_2), (.int (0 : Int32)), (.ref b147), (.ref b147)])) t
    refine XS.iand X147.here hx rfl (hb hby at_14) rfl ?_
    show Steps p.tables e below (T147.setTop (mkF m 15 #[.val (.int p0_0), .val (.int p0_1), .val (.int p0_2), .val (.int p0_3), .val (.int p0_4), .val (.int (p0_0 &&& (3 : Int32))), .unset, .unset, .unset, .unset, .unset, .unset, .unset, .unset, .unset, .unset, .unset] [(.int (p0_2 &&& (255 : Int32))), (.int (0 : Int32)), (.ref b147), (.ref b147)])) t
    refine XS.i2c X147.here hx rfl (hb hby at_15) rfl ?_
    show Steps p.tables e below (T147.setTop (mkF m 16 #[.val (.int p0_0), .val (.int p0_1), .val (.int p0_2), .val (.int p0_3), .val (.int p0_4), .val (.int (p0_0 &&& (3 : Int32))), .unset, .unset, .unset, .unset, .unset, .unset, .unset, .unset, .unset, .unset, .unset] [(.int ((p0_2 &&& (255 : Int32)).toUInt32.toUInt16.toUInt32.toInt32)), (.int (0 : Int32)), (.ref b147), (.ref b147)])) t
    exact k
  obtain ⟨cl152, Ar152, q152, S152, N152, H152, G152⟩ := f151
  obtain ⟨T153, h153, X153, e153, W153, st153⟩ := stC X147 hx hZ e147 Ar152 (j := (0 : Int32)) (inb_of S152 ⟨by decide, by decide⟩) (g := (mkF m 16 #[.val (.int p0_0), .val (.int p0_1), .val (.int p0_2), .val (.int p0_3), .val (.int p0_4), .val (.int (p0_0 &&& (3 : Int32))), .unset, .unset, .unset, .unset, .unset, .unset, .unset, .unset, .unset, .unset, .unset] [(.int ((p0_2 &&& (255 : Int32)).toUInt32.toUInt16.toUInt32.toInt32)), (.int (0 : Int32)), (.ref b147), (.ref b147)])) rfl rfl (hb hby at_16)
  have f154 : Arv Z h153 b147 k147 .char (1 : Int32) [(.int (nar .char ((p0_2 &&& (255 : Int32)).toUInt32.toUInt16.toUInt32.toInt32)))] (.int (0 : Int32)) := Arv.set Ar152 q152 S152 N152 H152 G152 (fits_nar_char _) W153 0 rfl (Nat.le_of_ble_eq_true rfl)
  have K156 : Keep h0 h153 [] := K148.wr W153 (Or.inr sz_b147)
  have N157 := Fr.snoc X153 N0 gn_b147
  obtain ⟨Lh153, X153, N157⟩ := own_hide X153 N157
  have O158 := O149.wr W153 gn_b147
  have Z159 := (Nat.le_trans Z150 (Keep.of_wr W153).1)
  refine own_by (T' := T153) (g' := (mkF m 17 #[.val (.int p0_0), .val (.int p0_1), .val (.int p0_2), .val (.int p0_3), .val (.int p0_4), .val (.int (p0_0 &&& (3 : Int32))), .unset, .unset, .unset, .unset, .unset, .unset, .unset, .unset, .unset, .unset, .unset] [(.ref b147)])) st153 ?_
  refine own_by (T' := T153) (g' := (mkF m 20 #[.val (.int p0_0), .val (.int p0_1), .val (.int p0_2), .val (.int p0_3), .val (.int p0_4), .val (.int (p0_0 &&& (3 : Int32))), .val (.ref b147), .unset, .unset, .unset, .unset, .unset, .unset, .unset, .unset, .unset, .unset] [(.int (1 : Int32))])) (fun t k => ?_) ?_
  · show Steps p.tables e below (T153.setTop (mkF m 17 #[.val (.int p0_0), .val (.int p0_1), .val (.int p0_2), .val (.int p0_3), .val (.int p0_4), .val (.int (p0_0 &&& (3 : Int32))), .unset, .unset, .unset, .unset, .unset, .unset, .unset, .unset, .unset, .unset, .unset] [(.ref b147)])) t
    refine XS.astore X153.here hx rfl (hb hby at_17) rfl rfl (l' := #[.val (.int p0_0), .val (.int p0_1), .val (.int p0_2), .val (.int p0_3), .val (.int p0_4), .val (.int (p0_0 &&& (3 : Int32))), .val (.ref b147), .unset, .unset, .unset, .unset, .unset, .unset, .unset, .unset, .unset, .unset]) rfl ?_
    show Steps p.tables e below (T153.setTop (mkF m 19 #[.val (.int p0_0), .val (.int p0_1), .val (.int p0_2), .val (.int p0_3), .val (.int p0_4), .val (.int (p0_0 &&& (3 : Int32))), .val (.ref b147), .unset, .unset, .unset, .unset, .unset, .unset, .unset, .unset, .unset, .unset] [])) t
    refine XS.iconst X153.here hx rfl (hb hby at_19) ?_
    show Steps p.tables e below (T153.setTop (mkF m 20 #[.val (.int p0_0), .val (.int p0_1), .val (.int p0_2), .val (.int p0_3), .val (.int p0_4), .val (.int (p0_0 &&& (3 : Int32))), .val (.ref b147), .unset, .unset, .unset, .unset, .unset, .unset, .unset, .unset, .unset, .unset] [(.int (1 : Int32))])) t
    exact k
  obtain ⟨T160, h160, k160, X160, e160, E160, A160, st160⟩ := newP X153 hx hZ (hw _ (List.mem_of_getElem? (i := 0) rfl)) e153 (g := (mkF m 20 #[.val (.int p0_0), .val (.int p0_1), .val (.int p0_2), .val (.int p0_3), .val (.int p0_4), .val (.int (p0_0 &&& (3 : Int32))), .val (.ref b147), .unset, .unset, .unset, .unset, .unset, .unset, .unset, .unset, .unset, .unset] [(.int (1 : Int32))])) rfl (hb hby at_20) rfl (by decide) (cap := 1) (by decide) (by decide) (by decide) (by decide)
  obtain ⟨b160, g160⟩ : ∃ z, z = h153.size := ⟨_, rfl⟩
  rw [← g160] at A160 st160
  have gn_b160 : n0 ≤ b160 := Nat.le_trans Z159 (Nat.le_of_eq g160.symm)
  have sz_b160 : h0.size ≤ b160 := Nat.le_trans K156.1 (Nat.le_of_eq g160.symm)
  have ne_b147_b160 : b147 ≠ b160 := Nat.ne_of_lt (Nat.lt_of_lt_of_le f154.lt (Nat.le_of_eq g160.symm))
  have f161 := f154.ext E160
  have K162 : Keep h0 h160 [] := K156.ext E160
  have O163 := O158.ext E160
  have Z164 := Nat.le_trans Z159 E160.1
  have f165 : Arv Z h160 b160 k160 .char (1 : Int32) [(.int (0 : Int32))] (.int (0 : Int32)) := (Arv.new A160 (by decide)).pad (pad_rep [] (.int (0 : Int32)) 1)
  refine own_by (T' := T160) (g' := (mkF m 22 #[.val (.int p0_0), .val (.int p0_1), .val (.int p0_2), .val (.int p0_3), .val (.int p0_4), .val (.int (p0_0 &&& (3 : Int32))), .val (.ref b147), .unset, .unset, .unset, .unset, .unset, .unset, .unset, .unset, .unset, .unset] [(.ref b160)])) st160 ?_
  refine own_by (T' := T160) (g' := (mkF m 33 #[.val (.int p0_0), .val (.int p0_1), .val (.int p0_2), .val (.int p0_3), .val (.int p0_4), .val (.int (p0_0 &&& (3 : Int32))), .val (.ref b147), .unset, .unset, .unset, .unset, .unset, .unset, .unset, .unset, .unset, .unset] [(.int ((((p0_2.toUInt32 >>> ((8 : Int32) &&& 31).toUInt32).toInt32) &&& (255 : Int32)).toUInt32.toUInt16.toUInt32.toInt32)), (.int (0 : Int32)), (.ref b160), (.ref b160)])) (fun t k => ?_) ?_
  · show Steps p.tables e below (T160.setTop (mkF m 22 #[.val (.int p0_0), .val (.int p0_1), .val (.int p0_2), .val (.int p0_3), .val (.int p0_4), .val (.int (p0_0 &&& (3 : Int32))), .val (.ref b147), .unset, .unset, .unset, .unset, .unset, .unset, .unset, .unset, .unset, .unset] [(.ref b160)])) t
    refine XS.dup X160.here hx rfl (hb hby at_22) rfl rfl ?_
    show Steps p.tables e below (T160.setTop (mkF m 23 #[.val (.int p0_0), .val (.int p0_1), .val (.int p0_2), .val (.int p0_3), .val (.int p0_4), .val (.int (p0_0 &&& (3 : Int32))), .val (.ref b147), .unset, .unset, .unset, .unset, .unset, .unset, .unset, .unset, .unset, .unset] [(.ref b160), (.ref b160)])) t
    refine XS.iconst X160.here hx rfl (hb hby at_23) ?_
    show Steps p.tables e below (T160.setTop (mkF m 24 #[.val (.int p0_0), .val (.int p0_1), .val (.int p0_2), .val (.int p0_3), .val (.int p0_4), .val (.int (p0_0 &&& (3 : Int32))), .val (.ref b147), .unset, .unset, .unset, .unset, .unset, .unset, .unset, .unset, .unset, .unset] [(.int (0 : Int32)), (.ref b160), (.ref b160)])) t
    refine XS.iloadN X160.here hx rfl (hb hby at_24) rfl ?_
    show Steps p.tables e below (T160.setTop (mkF m 25 #[.val (.int p0_0), .val (.int p0_1), .val (.int p0_2), .val (.int p0_3), .val (.int p0_4), .val (.int (p0_0 &&& (3 : Int32))), .val (.ref b147), .unset, .unset, .unset, .unset, .unset, .unset, .unset, .unset, .unset, .unset] [(.int p0_2), (.int (0 : Int32)), (.ref b160), (.ref b160)])) t
    refine XS.bipush X160.here hx rfl (hb hby at_25) ?_
    show Steps p.tables e below (T160.setTop (mkF m 27 #[.val (.int p0_0), .val (.int p0_1), .val (.int p0_2), .val (.int p0_3), .val (.int p0_4), .val (.int (p0_0 &&& (3 : Int32))), .val (.ref b147), .unset, .unset, .unset, .unset, .unset, .unset, .unset, .unset, .unset, .unset] [(.int (8 : Int32)), (.int p0_2), (.int (0 : Int32)), (.ref b160), (.ref b160)])) t
    refine XS.iushr X160.here hx rfl (hb hby at_27) rfl ?_
    show Steps p.tables e below (T160.setTop (mkF m 28 #[.val (.int p0_0), .val (.int p0_1), .val (.int p0_2), .val (.int p0_3), .val (.int p0_4), .val (.int (p0_0 &&& (3 : Int32))), .val (.ref b147), .unset, .unset, .unset, .unset, .unset, .unset, .unset, .unset, .unset, .unset] [(.int ((p0_2.toUInt32 >>> ((8 : Int32) &&& 31).toUInt32).toInt32)), (.int (0 : Int32)), (.ref b160), (.ref b160)])) t
    refine XS.sipush X160.here hx rfl (hb hby at_28) ?_
    show Steps p.tables e below (T160.setTop (mkF m 31 #[.val (.int p0_0), .val (.int p0_1), .val (.int p0_2), .val (.int p0_3), .val (.int p0_4), .val (.int (p0_0 &&& (3 : Int32))), .val (.ref b147), .unset, .unset, .unset, .unset, .unset, .unset, .unset, .unset, .unset, .unset] [(.int (255 : Int32)), (.int ((p0_2.toUInt32 >>> ((8 : Int32) &&& 31).toUInt32).toInt32)), (.int (0 : Int32)), (.ref b160), (.ref b160)])) t
    refine XS.iand X160.here hx rfl (hb hby at_31) rfl ?_
    show Steps p.tables e below (T160.setTop (mkF m 32 #[.val (.int p0_0), .val (.int p0_1), .val (.int p0_2), .val (.int p0_3), .val (.int p0_4), .val (.int (p0_0 &&& (3 : Int32))), .val (.ref b147), .unset, .unset, .unset, .unset, .unset, .unset, .unset, .unset, .unset, .unset] [(.int (((p0_2.toUInt32 >>> ((8 : Int32) &&& 31).toUInt32).toInt32) &&& (255 : Int32))), (.int (0 : Int32)), (.ref b160), (.ref b160)])) t
    refine XS.i2c X160.here hx rfl (hb hby at_32) rfl ?_
    show Steps p.tables e below (T160.setTop (mkF m 33 #[.val (.int p0_0), .val (.int p0_1), .val (.int p0_2), .val (.int p0_3), .val (.int p0_4), .val (.int (p0_0 &&& (3 : Int32))), .val (.ref b147), .unset, .unset, .unset, .unset, .unset, .unset, .unset, .unset, .unset, .unset] [(.int ((((p0_2.toUInt32 >>> ((8 : Int32) &&& 31).toUInt32).toInt32) &&& (255 : Int32)).toUInt32.toUInt16.toUInt32.toInt32)), (.int (0 : Int32)), (.ref b160), (.ref b160)])) t
    exact k
  obtain ⟨cl166, Ar166, q166, S166, N166, H166, G166⟩ := f165
  obtain ⟨T167, h167, X167, e167, W167, st167⟩ := stC X160 hx hZ e160 Ar166 (j := (0 : Int32)) (inb_of S166 ⟨by decide, by decide⟩) (g := (mkF m 33 #[.val (.int p0_0), .val (.int p0_1), .val (.int p0_2), .val (.int p0_3), .val (.int p0_4), .val (.int (p0_0 &&& (3 : Int32))), .val (.ref b147), .unset, .unset, .unset, .unset, .unset, .unset, .unset, .unset, .unset, .unset] [(.int ((((p0_2.toUInt32 >>> ((8 : Int32) &&& 31).toUInt32).toInt32) &&& (255 : Int32)).toUInt32.toUInt16.toUInt32.toInt32)), (.int (0 : Int32)), (.ref b160), (.ref b160)])) rfl rfl (hb hby at_33)
  have f168 : Arv Z h167 b160 k160 .char (1 : Int32) [(.int (nar .char ((((p0_2.toUInt32 >>> ((8 : Int32) &&& 31).toUInt32).toInt32) &&& (255 : Int32)).toUInt32.toUInt16.toUInt32.toInt32)))] (.int (0 : Int32)) := Arv.set Ar166 q166 S166 N166 H166 G166 (fits_nar_char _) W167 0 rfl (Nat.le_of_ble_eq_true rfl)
  have f169 := f161.other W167 ne_b147_b160
  have K171 : Keep h0 h167 [] := K162.wr W167 (Or.inr sz_b160)
  have N172 := Fr.snoc X167 N157 gn_b160
  obtain ⟨Lh167, X167, N172⟩ := own_hide X167 N172
  have O173 := O163.wr W167 gn_b160
  have Z174 := (Nat.le_trans Z164 (Keep.of_wr W167).1)
  refine own_by (T' := T167) (g' := (mkF m 34 #[.val (.int p0_0), .val (.int p0_1), .val (.int p0_2), .val (.int p0_3), .val (.int p0_4), .val (.int (p0_0 &&& (3 : Int32))), .val (.ref b147), .unset, .unset, .unset, .unset, .unset, .unset, .unset, .unset, .unset, .unset] [(.ref b160)])) st167 ?_
  refine own_by (T' := T167) (g' := (mkF m 36 #[.val (.int p0_0), .val (.int p0_1), .val (.int p0_2), .val (.int p0_3), .val (.int p0_4), .val (.int (p0_0 &&& (3 : Int32))), .val (.ref b147), .val (.ref b160), .unset, .unset, .unset, .unset, .unset, .unset, .unset, .unset, .unset] [])) (fun t k => ?_) ?_
  · show Steps p.tables e below (T167.setTop (mkF m 34 #[.val (.int p0_0), .val (.int p0_1), .val (.int p0_2), .val (.int p0_3), .val (.int p0_4), .val (.int (p0_0 &&& (3 : Int32))), .val (.ref b147), .unset, .unset, .unset, .unset, .unset, .unset, .unset, .unset, .unset, .unset] [(.ref b160)])) t
    refine XS.astore X167.here hx rfl (hb hby at_34) rfl rfl (l' := #[.val (.int p0_0), .val (.int p0_1), .val (.int p0_2), .val (.int p0_3), .val (.int p0_4), .val (.int (p0_0 &&& (3 : Int32))), .val (.ref b147), .val (.ref b160), .unset, .unset, .unset, .unset, .unset, .unset, .unset, .unset, .unset]) rfl ?_
    show Steps p.tables e below (T167.setTop (mkF m 36 #[.val (.int p0_0), .val (.int p0_1), .val (.int p0_2), .val (.int p0_3), .val (.int p0_4), .val (.int (p0_0 &&& (3 : Int32))), .val (.ref b147), .val (.ref b160), .unset, .unset, .unset, .unset, .unset, .unset, .unset, .unset, .unset] [])) t
    exact k
  obtain ⟨T175, h175, X175, e175, E175, A175, D175, -, st175⟩ := newO X167 hx hZ hown (hw _ (List.mem_of_getElem? (i := 1) rfl)) (hw _ (List.mem_of_getElem? (i := 2) rfl)) (hw _ (List.mem_of_getElem? (i := 3) rfl)) e167 (g := (mkF m 36 #[.val (.int p0_0), .val (.int p0_1), .val (.int p0_2), .val (.int p0_3), .val (.int p0_4), .val (.int (p0_0 &&& (3 : Int32))), .val (.ref b147), .val (.ref b160), .unset, .unset, .unset, .unset, .unset, .unset, .unset, .unset, .unset] [])) rfl (hb hby at_36) (by decide) (by decide)
  obtain ⟨b175, g175⟩ : ∃ z, z = h167.size := ⟨_, rfl⟩
  rw [← g175] at A175 D175 st175
  have gn_b175 : n0 ≤ b175 := Nat.le_trans Z174 (Nat.le_of_eq g175.symm)
  have sz_b175 : h0.size ≤ b175 := Nat.le_trans K171.1 (Nat.le_of_eq g175.symm)
  have ne_b147_b175 : b147 ≠ b175 := Nat.ne_of_lt (Nat.lt_of_lt_of_le f169.lt (Nat.le_of_eq g175.symm))
  have ne_b160_b175 : b160 ≠ b175 := Nat.ne_of_lt (Nat.lt_of_lt_of_le f168.lt (Nat.le_of_eq g175.symm))
  have f176 := f169.ext E175
  have f177 := f168.ext E175
  have K178 : Keep h0 h175 [] := K171.ext E175
  have O179 := O173.ext E175
  have Z180 := Nat.le_trans Z174 E175.1
  have f181 : Fld Z h175 b175 "java/lang/String" "coder" "B" (.int (0 : Int32)) := D175 (Or.inr (hw _ (List.mem_of_getElem? (i := 27) rfl))) (ty := .byte) (by decide)
  have f182 : Fld Z h175 b175 "java/lang/String" "value" "[B" .null := D175 (Or.inr (hw _ (List.mem_of_getElem? (i := 29) rfl))) (ty := (.array .byte)) (by decide)
  refine own_by (T' := T175) (g' := (mkF m 39 #[.val (.int p0_0), .val (.int p0_1), .val (.int p0_2), .val (.int p0_3), .val (.int p0_4), .val (.int (p0_0 &&& (3 : Int32))), .val (.ref b147), .val (.ref b160), .unset, .unset, .unset, .unset, .unset, .unset, .unset, .unset, .unset] [(.ref b175)])) st175 ?_
  refine own_by (T' := T175) (g' := (mkF m 42 #[.val (.int p0_0), .val (.int p0_1), .val (.int p0_2), .val (.int p0_3), .val (.int p0_4), .val (.int (p0_0 &&& (3 : Int32))), .val (.ref b147), .val (.ref b160), .unset, .unset, .unset, .unset, .unset, .unset, .unset, .unset, .unset] [(.ref b147), (.ref b175), (.ref b175)])) (fun t k => ?_) ?_
  · show Steps p.tables e below (T175.setTop (mkF m 39 #[.val (.int p0_0), .val (.int p0_1), .val (.int p0_2), .val (.int p0_3), .val (.int p0_4), .val (.int (p0_0 &&& (3 : Int32))), .val (.ref b147), .val (.ref b160), .unset, .unset, .unset, .unset, .unset, .unset, .unset, .unset, .unset] [(.ref b175)])) t
    refine XS.dup X175.here hx rfl (hb hby at_39) rfl rfl ?_
    show Steps p.tables e below (T175.setTop (mkF m 40 #[.val (.int p0_0), .val (.int p0_1), .val (.int p0_2), .val (.int p0_3), .val (.int p0_4), .val (.int (p0_0 &&& (3 : Int32))), .val (.ref b147), .val (.ref b160), .unset, .unset, .unset, .unset, .unset, .unset, .unset, .unset, .unset] [(.ref b175), (.ref b175)])) t
    refine XS.aload X175.here hx rfl (hb hby at_40) rfl rfl ?_
    show Steps p.tables e below (T175.setTop (mkF m 42 #[.val (.int p0_0), .val (.int p0_1), .val (.int p0_2), .val (.int p0_3), .val (.int p0_4), .val (.int (p0_0 &&& (3 : Int32))), .val (.ref b147), .val (.ref b160), .unset, .unset, .unset, .unset, .unset, .unset, .unset, .unset, .unset] [(.ref b147), (.ref b175), (.ref b175)])) t
    exact k
  have hws183 : ∀ d ∈ StrChars.Road.words, d.before a0 Z = true := fun d hd => hw d ((by decide +kernel : ∀ d ∈ StrChars.Road.words, d ∈ tables_1) d hd)
  have hp183 : ∀ c ∈ ([(nar .char ((p0_2 &&& (255 : Int32)).toUInt32.toUInt16.toUInt32.toInt32))] : List Int32), ¬ c < 0 ∧ ¬ (255 : Int32) < c := by
    intro c hc
    simp only [List.mem_cons, List.not_mem_nil, or_false] at hc
    rcases hc with rfl
    · exact own_ch p0_2
  obtain ⟨v183, _, ⟨T183, L183, k183, n183⟩, -, X183, ⟨Lc183, hQ183, l183, y183, z183⟩, st183⟩ := X175.specialBack hx (y := (⟨"java/lang/String", "<init>", "([C)V"⟩ : MethodName)) rfl hown (mvT hZ (hw _ (List.mem_of_getElem? (i := 4) rfl))) (mvT hZ (hw _ (List.mem_of_getElem? (i := 5) rfl))) (mvT hZ (hw _ (List.mem_of_getElem? (i := 6) rfl))) (by decide) (StrChars.Road.backV (W := 1) hZ hws183 (kI := 4) (hw _ (List.mem_of_getElem? (i := 2) rfl)) (cs := ([(nar .char ((p0_2 &&& (255 : Int32)).toUInt32.toUInt16.toUInt32.toInt32))] : List Int32)) (bs := ([(nar .char ((p0_2 &&& (255 : Int32)).toUInt32.toUInt16.toUInt32.toInt32))] : List Int32).map (fun c => c.toInt8.toInt32)) (n := 1) gn_b175 Z180 A175 f182 f181 f176 (SC.ext O179.2) HCS rfl rfl (by decide) (by decide) hp183 rfl (by decide) (by decide)) (g := (mkF m 42 #[.val (.int p0_0), .val (.int p0_1), .val (.int p0_2), .val (.int p0_3), .val (.int p0_4), .val (.int (p0_0 &&& (3 : Int32))), .val (.ref b147), .val (.ref b160), .unset, .unset, .unset, .unset, .unset, .unset, .unset, .unset, .unset] [(.ref b147), (.ref b175), (.ref b175)])) rfl (by rw [hml]; rfl) (Steps.refl _) (a := b175) (argsL := [(.ref b147)]) (rest := [(.ref b175)]) (lenOf pd___C_V rfl) rfl (by show 2 * 0 + _ ≤ _; exact Nat.le_of_eq rfl) (hb hby at_42) (fun _ _ => ⟨rfl, e175, (by decide : 3 + 1 ≤ _), (by decide : 6 + 1 ≤ _)⟩)
  dsimp only [Pt.U, Pt.locs, Pt.cells, Pt.slots] at X183 l183 y183 z183 st183 hQ183
  subst y183 z183
  obtain ⟨rfl, M183, K183, f184, f185, b183, kb183, gn183, sz183, nt183, f186, f187⟩ := hQ183
  have f188 := f176.keep K183 (ninS ne_b147_b175 nin0)
  have f189 := f177.keep K183 (ninS ne_b160_b175 nin0)
  have f190 := A175.keep K183
  have K191 : Keep h0 T183.heap [] := K178.trans K183 (allS (Or.inr sz_b175) all0)
  have O192 := O179.keep K183 (allS gn_b175 all0)
  have Z193 := Nat.le_trans Z180 K183.1
  have sz_b183 : h0.size ≤ b183 := Nat.le_trans K178.1 sz183
  have ne_b147_b183 : b147 ≠ b183 := Nat.ne_of_lt (Nat.lt_of_lt_of_le f176.lt sz183)
  have ne_b160_b183 : b160 ≠ b183 := Nat.ne_of_lt (Nat.lt_of_lt_of_le f177.lt sz183)
  have ne_b175_b183 : b175 ≠ b183 := Nat.ne_of_lt (Nat.lt_of_lt_of_le f182.lt sz183)
  have N194 : Fr n0 L183 := by rw [l183]; exact Fr.app N172 M183
  refine own_via (T' := T183) (g' := (mkF m 45 #[.val (.int p0_0), .val (.int p0_1), .val (.int p0_2), .val (.int p0_3), .val (.int p0_4), .val (.int (p0_0 &&& (3 : Int32))), .val (.ref b147), .val (.ref b160), .unset, .unset, .unset, .unset, .unset, .unset, .unset, .unset, .unset] [(.ref b175)])) st183 ?_
  refine own_by (T' := T183) (g' := (mkF m 53 #[.val (.int p0_0), .val (.int p0_1), .val (.int p0_2), .val (.int p0_3), .val (.int p0_4), .val (.int (p0_0 &&& (3 : Int32))), .val (.ref b147), .val (.ref b160), .val (.ref b175), .unset, .unset, .unset, .unset, .unset, .unset, .unset, .unset] [(.int (((p0_2.toUInt32 >>> ((16 : Int32) &&& 31).toUInt32).toInt32) &&& (1 : Int32)))])) (fun t k => ?_) ?_
  · show Steps p.tables e below (T183.setTop (mkF m 45 #[.val (.int p0_0), .val (.int p0_1), .val (.int p0_2), .val (.int p0_3), .val (.int p0_4), .val (.int (p0_0 &&& (3 : Int32))), .val (.ref b147), .val (.ref b160), .unset, .unset, .unset, .unset, .unset, .unset, .unset, .unset, .unset] [(.ref b175)])) t
    refine XS.astore X183.here hx rfl (hb hby at_45) rfl rfl (l' := #[.val (.int p0_0), .val (.int p0_1), .val (.int p0_2), .val (.int p0_3), .val (.int p0_4), .val (.int (p0_0 &&& (3 : Int32))), .val (.ref b147), .val (.ref b160), .val (.ref b175), .unset, .unset, .unset, .unset, .unset, .unset, .unset, .unset]) rfl ?_
    show Steps p.tables e below (T183.setTop (mkF m 47 #[.val (.int p0_0), .val (.int p0_1), .val (.int p0_2), .val (.int p0_3), .val (.int p0_4), .val (.int (p0_0 &&& (3 : Int32))), .val (.ref b147), .val (.ref b160), .val (.ref b175), .unset, .unset, .unset, .unset, .unset, .unset, .unset, .unset] [])) t
    refine XS.iloadN X183.here hx rfl (hb hby at_47) rfl ?_
    show Steps p.tables e below (T183.setTop (mkF m 48 #[.val (.int p0_0), .val (.int p0_1), .val (.int p0_2), .val (.int p0_3), .val (.int p0_4), .val (.int (p0_0 &&& (3 : Int32))), .val (.ref b147), .val (.ref b160), .val (.ref b175), .unset, .unset, .unset, .unset, .unset, .unset, .unset, .unset] [(.int p0_2)])) t
    refine XS.bipush X183.here hx rfl (hb hby at_48) ?_
    show Steps p.tables e below (T183.setTop (mkF m 50 #[.val (.int p0_0), .val (.int p0_1), .val (.int p0_2), .val (.int p0_3), .val (.int p0_4), .val (.int (p0_0 &&& (3 : Int32))), .val (.ref b147), .val (.ref b160), .val (.ref b175), .unset, .unset, .unset, .unset, .unset, .unset, .unset, .unset] [(.int (16 : Int32)), (.int p0_2)])) t
    refine XS.iushr X183.here hx rfl (hb hby at_50) rfl ?_
    show Steps p.tables e below (T183.setTop (mkF m 51 #[.val (.int p0_0), .val (.int p0_1), .val (.int p0_2), .val (.int p0_3), .val (.int p0_4), .val (.int (p0_0 &&& (3 : Int32))), .val (.ref b147), .val (.ref b160), .val (.ref b175), .unset, .unset, .unset, .unset, .unset, .unset, .unset, .unset] [(.int ((p0_2.toUInt32 >>> ((16 : Int32) &&& 31).toUInt32).toInt32))])) t
    refine XS.iconst X183.here hx rfl (hb hby at_51) ?_
    show Steps p.tables e below (T183.setTop (mkF m 52 #[.val (.int p0_0), .val (.int p0_1), .val (.int p0_2), .val (.int p0_3), .val (.int p0_4), .val (.int (p0_0 &&& (3 : Int32))), .val (.ref b147), .val (.ref b160), .val (.ref b175), .unset, .unset, .unset, .unset, .unset, .unset, .unset, .unset] [(.int (1 : Int32)), (.int ((p0_2.toUInt32 >>> ((16 : Int32) &&& 31).toUInt32).toInt32))])) t
    refine XS.iand X183.here hx rfl (hb hby at_52) rfl ?_
    show Steps p.tables e below (T183.setTop (mkF m 53 #[.val (.int p0_0), .val (.int p0_1), .val (.int p0_2), .val (.int p0_3), .val (.int p0_4), .val (.int (p0_0 &&& (3 : Int32))), .val (.ref b147), .val (.ref b160), .val (.ref b175), .unset, .unset, .unset, .unset, .unset, .unset, .unset, .unset] [(.int (((p0_2.toUInt32 >>> ((16 : Int32) &&& 31).toUInt32).toInt32) &&& (1 : Int32)))])) t
    exact k
  by_cases hc195 : (((p0_2.toUInt32 >>> ((16 : Int32) &&& 31).toUInt32).toInt32) &&& (1 : Int32)) = (0 : Int32)
  · skip
    refine own_by (T' := T183) (g' := (mkF m 60 #[.val (.int p0_0), .val (.int p0_1), .val (.int p0_2), .val (.int p0_3), .val (.int p0_4), .val (.int (p0_0 &&& (3 : Int32))), .val (.ref b147), .val (.ref b160), .val (.ref b175), .unset, .unset, .unset, .unset, .unset, .unset, .unset, .unset] [])) (fun t k => ?_) ?_
    · show Steps p.tables e below (T183.setTop (mkF m 53 #[.val (.int p0_0), .val (.int p0_1), .val (.int p0_2), .val (.int p0_3), .val (.int p0_4), .val (.int (p0_0 &&& (3 : Int32))), .val (.ref b147), .val (.ref b160), .val (.ref b175), .unset, .unset, .unset, .unset, .unset, .unset, .unset, .unset] [(.int (((p0_2.toUInt32 >>> ((16 : Int32) &&& 31).toUInt32).toInt32) &&& (1 : Int32)))])) t
      refine XS.ifYes X183.here hx rfl (pc0 := 53) (pc' := 60) rfl (hb hby at_53) rfl ((if0 _ _).trans (teq hc195).1) (by decide) (by decide) ?_
      show Steps p.tables e below (T183.setTop (mkF m 60 #[.val (.int p0_0), .val (.int p0_1), .val (.int p0_2), .val (.int p0_3), .val (.int p0_4), .val (.int (p0_0 &&& (3 : Int32))), .val (.ref b147), .val (.ref b160), .val (.ref b175), .unset, .unset, .unset, .unset, .unset, .unset, .unset, .unset] [])) t
      exact k
    obtain ⟨T196, h196, X196, e196, E196, A196, D196, -, st196⟩ := newO X183 hx hZ hown (hw _ (List.mem_of_getElem? (i := 1) rfl)) (hw _ (List.mem_of_getElem? (i := 2) rfl)) (hw _ (List.mem_of_getElem? (i := 3) rfl)) rfl (g := (mkF m 60 #[.val (.int p0_0), .val (.int p0_1), .val (.int p0_2), .val (.int p0_3), .val (.int p0_4), .val (.int (p0_0 &&& (3 : Int32))), .val (.ref b147), .val (.ref b160), .val (.ref b175), .unset, .unset, .unset, .unset, .unset, .unset, .unset, .unset] [])) rfl (hb hby at_60) (by decide) (by decide)
    obtain ⟨b196, g196⟩ : ∃ z, z = T183.heap.size := ⟨_, rfl⟩
    rw [← g196] at A196 D196 st196
    have gn_b196 : n0 ≤ b196 := Nat.le_trans Z193 (Nat.le_of_eq g196.symm)
    have sz_b196 : h0.size ≤ b196 := Nat.le_trans K191.1 (Nat.le_of_eq g196.symm)
    have ne_b147_b196 : b147 ≠ b196 := Nat.ne_of_lt (Nat.lt_of_lt_of_le f188.lt (Nat.le_of_eq g196.symm))
    have ne_b160_b196 : b160 ≠ b196 := Nat.ne_of_lt (Nat.lt_of_lt_of_le f189.lt (Nat.le_of_eq g196.symm))
    have ne_b175_b196 : b175 ≠ b196 := Nat.ne_of_lt (Nat.lt_of_lt_of_le f186.lt (Nat.le_of_eq g196.symm))
    have f197 := f188.ext E196
    have f198 := f189.ext E196
    have f199 := f184.ext E196
    have f200 := f185.ext E196
    have f201 := f186.ext E196
    have K202 : Keep h0 h196 [] := K191.ext E196
    have O203 := O192.ext E196
    have Z204 := Nat.le_trans Z193 E196.1
    have f205 : Fld Z h196 b196 "java/lang/String" "coder" "B" (.int (0 : Int32)) := D196 (Or.inr (hw _ (List.mem_of_getElem? (i := 27) rfl))) (ty := .byte) (by decide)
    have f206 : Fld Z h196 b196 "java/lang/String" "value" "[B" .null := D196 (Or.inr (hw _ (List.mem_of_getElem? (i := 29) rfl))) (ty := (.array .byte)) (by decide)
    refine own_by (T' := T196) (g' := (mkF m 63 #[.val (.int p0_0), .val (.int p0_1), .val (.int p0_2), .val (.int p0_3), .val (.int p0_4), .val (.int (p0_0 &&& (3 : Int32))), .val (.ref b147), .val (.ref b160), .val (.ref b175), .unset, .unset, .unset, .unset, .unset, .unset, .unset, .unset] [(.ref b196)])) st196 ?_
    refine own_by (T' := T196) (g' := (mkF m 66 #[.val (.int p0_0), .val (.int p0_1), .val (.int p0_2), .val (.int p0_3), .val (.int p0_4), .val (.int (p0_0 &&& (3 : Int32))), .val (.ref b147), .val (.ref b160), .val (.ref b175), .unset, .unset, .unset, .unset, .unset, .unset, .unset, .unset] [(.ref b160), (.ref b196), (.ref b196)])) (fun t k => ?_) ?_
    · show Steps p.tables e below (T196.setTop (mkF m 63 #[.val (.int p0_0), .val (.int p0_1), .val (.int p0_2), .val (.int p0_3), .val (.int p0_4), .val (.int (p0_0 &&& (3 : Int32))), .val (.ref b147), .val (.ref b160), .val (.ref b175), .unset, .unset, .unset, .unset, .unset, .unset, .unset, .unset] [(.ref b196)])) t
      refine XS.dup X196.here hx rfl (hb hby at_63) rfl rfl ?_
      show Steps p.tables e below (T196.setTop (mkF m 64 #[.val (.int p0_0), .val (.int p0_1), .val (.int p0_2), .val (.int p0_3), .val (.int p0_4), .val (.int (p0_0 &&& (3 : Int32))), .val (.ref b147), .val (.ref b160), .val (.ref b175), .unset, .unset, .unset, .unset, .unset, .unset, .unset, .unset] [(.ref b196), (.ref b196)])) t
      refine XS.aload X196.here hx rfl (hb hby at_64) rfl rfl ?_
      show Steps p.tables e below (T196.setTop (mkF m 66 #[.val (.int p0_0), .val (.int p0_1), .val (.int p0_2), .val (.int p0_3), .val (.int p0_4), .val (.int (p0_0 &&& (3 : Int32))), .val (.ref b147), .val (.ref b160), .val (.ref b175), .unset, .unset, .unset, .unset, .unset, .unset, .unset, .unset] [(.ref b160), (.ref b196), (.ref b196)])) t
      exact k
    have hws207 : ∀ d ∈ StrChars.Road.words, d.before a0 Z = true := fun d hd => hw d ((by decide +kernel : ∀ d ∈ StrChars.Road.words, d ∈ tables_1) d hd)
    have hp207 : ∀ c ∈ ([(nar .char ((((p0_2.toUInt32 >>> ((8 : Int32) &&& 31).toUInt32).toInt32) &&& (255 : Int32)).toUInt32.toUInt16.toUInt32.toInt32))] : List Int32), ¬ c < 0 ∧ ¬ (255 : Int32) < c := by
      intro c hc
      simp only [List.mem_cons, List.not_mem_nil, or_false] at hc
      rcases hc with rfl
      · exact own_ch ((p0_2.toUInt32 >>> ((8 : Int32) &&& 31).toUInt32).toInt32)
    obtain ⟨v207, _, ⟨T207, L207, k207, n207⟩, -, X207, ⟨Lc207, hQ207, l207, y207, z207⟩, st207⟩ := X196.specialBack hx (y := (⟨"java/lang/String", "<init>", "([C)V"⟩ : MethodName)) rfl hown (mvT hZ (hw _ (List.mem_of_getElem? (i := 4) rfl))) (mvT hZ (hw _ (List.mem_of_getElem? (i := 5) rfl))) (mvT hZ (hw _ (List.mem_of_getElem? (i := 6) rfl))) (by decide) (StrChars.Road.backV (W := 1) hZ hws207 (kI := 4) (hw _ (List.mem_of_getElem? (i := 2) rfl)) (cs := ([(nar .char ((((p0_2.toUInt32 >>> ((8 : Int32) &&& 31).toUInt32).toInt32) &&& (255 : Int32)).toUInt32.toUInt16.toUInt32.toInt32))] : List Int32)) (bs := ([(nar .char ((((p0_2.toUInt32 >>> ((8 : Int32) &&& 31).toUInt32).toInt32) &&& (255 : Int32)).toUInt32.toUInt16.toUInt32.toInt32))] : List Int32).map (fun c => c.toInt8.toInt32)) (n := 1) gn_b196 Z204 A196 f206 f205 f198 (SC.ext O203.2) HCS rfl rfl (by decide) (by decide) hp207 rfl (by decide) (by decide)) (g := (mkF m 66 #[.val (.int p0_0), .val (.int p0_1), .val (.int p0_2), .val (.int p0_3), .val (.int p0_4), .val (.int (p0_0 &&& (3 : Int32))), .val (.ref b147), .val (.ref b160), .val (.ref b175), .unset, .unset, .unset, .unset, .unset, .unset, .unset, .unset] [(.ref b160), (.ref b196), (.ref b196)])) rfl (by rw [hml]; rfl) (Steps.refl _) (a := b196) (argsL := [(.ref b160)]) (rest := [(.ref b196)]) (lenOf pd___C_V rfl) rfl (by show 2 * 0 + _ ≤ _; exact Nat.le_of_eq rfl) (hb hby at_66) (fun _ _ => ⟨rfl, e196, (by decide : 5 + 1 ≤ _), (by decide : 11 + 1 ≤ _)⟩)
    dsimp only [Pt.U, Pt.locs, Pt.cells, Pt.slots] at X207 l207 y207 z207 st207 hQ207
    subst y207 z207
    obtain ⟨rfl, M207, K207, f208, f209, b207, kb207, gn207, sz207, nt207, f210, f211⟩ := hQ207
    have f212 := f197.keep K207 (ninS ne_b147_b196 nin0)
    have f213 := f198.keep K207 (ninS ne_b160_b196 nin0)
    have f214 := f199.keep K207
    have f215 := f200.keep K207 (ninS ne_b175_b196 nin0)
    have f216 := f201.keep K207 (ninS ne_b175_b196 nin0)
    have f217 := A196.keep K207
    have K218 : Keep h0 T207.heap [] := K202.trans K207 (allS (Or.inr sz_b196) all0)
    have O219 := O203.keep K207 (allS gn_b196 all0)
    have Z220 := Nat.le_trans Z204 K207.1
    have sz_b207 : h0.size ≤ b207 := Nat.le_trans K202.1 sz207
    have ne_b147_b207 : b147 ≠ b207 := Nat.ne_of_lt (Nat.lt_of_lt_of_le f197.lt sz207)
    have ne_b160_b207 : b160 ≠ b207 := Nat.ne_of_lt (Nat.lt_of_lt_of_le f198.lt sz207)
    have ne_b175_b207 : b175 ≠ b207 := Nat.ne_of_lt (Nat.lt_of_lt_of_le f201.lt sz207)
    have ne_b196_b207 : b196 ≠ b207 := Nat.ne_of_lt (Nat.lt_of_lt_of_le f206.lt sz207)
    have N221 : Fr n0 L207 := by rw [l207]; exact Fr.app N194 M207
    refine own_via (T' := T207) (g' := (mkF m 69 #[.val (.int p0_0), .val (.int p0_1), .val (.int p0_2), .val (.int p0_3), .val (.int p0_4), .val (.int (p0_0 &&& (3 : Int32))), .val (.ref b147), .val (.ref b160), .val (.ref b175), .unset, .unset, .unset, .unset, .unset, .unset, .unset, .unset] [(.ref b196)])) st207 ?_
    refine own_by (T' := T207) (g' := (mkF m 71 #[.val (.int p0_0), .val (.int p0_1), .val (.int p0_2), .val (.int p0_3), .val (.int p0_4), .val (.int (p0_0 &&& (3 : Int32))), .val (.ref b147), .val (.ref b160), .val (.ref b175), .val (.ref b196), .unset, .unset, .unset, .unset, .unset, .unset, .unset] [])) (fun t k => ?_) ?_
    · show Steps p.tables e below (T207.setTop (mkF m 69 #[.val (.int p0_0), .val (.int p0_1), .val (.int p0_2), .val (.int p0_3), .val (.int p0_4), .val (.int (p0_0 &&& (3 : Int32))), .val (.ref b147), .val (.ref b160), .val (.ref b175), .unset, .unset, .unset, .unset, .unset, .unset, .unset, .unset] [(.ref b196)])) t
      refine XS.astore X207.here hx rfl (hb hby at_69) rfl rfl (l' := #[.val (.int p0_0), .val (.int p0_1), .val (.int p0_2), .val (.int p0_3), .val (.int p0_4), .val (.int (p0_0 &&& (3 : Int32))), .val (.ref b147), .val (.ref b160), .val (.ref b175), .val (.ref b196), .unset, .unset, .unset, .unset, .unset, .unset, .unset]) rfl ?_
      show Steps p.tables e below (T207.setTop (mkF m 71 #[.val (.int p0_0), .val (.int p0_1), .val (.int p0_2), .val (.int p0_3), .val (.int p0_4), .val (.int (p0_0 &&& (3 : Int32))), .val (.ref b147), .val (.ref b160), .val (.ref b175), .val (.ref b196), .unset, .unset, .unset, .unset, .unset, .unset, .unset] [])) t
      exact k
    obtain ⟨T222, h222, X222, e222, E222, A222, D222, -, st222⟩ := newO X207 hx hZ hown (hw _ (List.mem_of_getElem? (i := 30) rfl)) (hw _ (List.mem_of_getElem? (i := 31) rfl)) (hw _ (List.mem_of_getElem? (i := 32) rfl)) rfl (g := (mkF m 71 #[.val (.int p0_0), .val (.int p0_1), .val (.int p0_2), .val (.int p0_3), .val (.int p0_4), .val (.int (p0_0 &&& (3 : Int32))), .val (.ref b147), .val (.ref b160), .val (.ref b175), .val (.ref b196), .unset, .unset, .unset, .unset, .unset, .unset, .unset] [])) rfl (hb hby at_71) (by decide) (by decide)
    obtain ⟨b222, g222⟩ : ∃ z, z = T207.heap.size := ⟨_, rfl⟩
    rw [← g222] at A222 D222 st222
    have gn_b222 : n0 ≤ b222 := Nat.le_trans Z220 (Nat.le_of_eq g222.symm)
    have sz_b222 : h0.size ≤ b222 := Nat.le_trans K218.1 (Nat.le_of_eq g222.symm)
    have ne_b147_b222 : b147 ≠ b222 := Nat.ne_of_lt (Nat.lt_of_lt_of_le f212.lt (Nat.le_of_eq g222.symm))
    have ne_b160_b222 : b160 ≠ b222 := Nat.ne_of_lt (Nat.lt_of_lt_of_le f213.lt (Nat.le_of_eq g222.symm))
    have ne_b175_b222 : b175 ≠ b222 := Nat.ne_of_lt (Nat.lt_of_lt_of_le f216.lt (Nat.le_of_eq g222.symm))
    have ne_b196_b222 : b196 ≠ b222 := Nat.ne_of_lt (Nat.lt_of_lt_of_le f210.lt (Nat.le_of_eq g222.symm))
    have f223 := f212.ext E222
    have f224 := f213.ext E222
    have f225 := f214.ext E222
    have f226 := f215.ext E222
    have f227 := f216.ext E222
    have f228 := f208.ext E222
    have f229 := f209.ext E222
    have f230 := f210.ext E222
    have K231 : Keep h0 h222 [] := K218.ext E222
    have O232 := O219.ext E222
    have Z233 := Nat.le_trans Z220 E222.1
    have f234 : Fld Z h222 b222 "com/example/yohokit/yohokit/Parts" "lines" "Ljava/util/Map;" .null := D222 (Or.inr (hw _ (List.mem_of_getElem? (i := 38) rfl))) (ty := (.object "java/util/Map")) (by decide)
    have f235 : Fld Z h222 b222 "com/example/yohokit/yohokit/Parts" "characters" "[I" .null := D222 (Or.inr (hw _ (List.mem_of_getElem? (i := 41) rfl))) (ty := (.array .int)) (by decide)
    have f236 : Fld Z h222 b222 "com/example/yohokit/yohokit/Parts" "keys" "[Ljava/lang/String;" .null := D222 (Or.inr (hw _ (List.mem_of_getElem? (i := 49) rfl))) (ty := (.array (.object "java/lang/String"))) (by decide)
    refine own_by (T' := T222) (g' := (mkF m 74 #[.val (.int p0_0), .val (.int p0_1), .val (.int p0_2), .val (.int p0_3), .val (.int p0_4), .val (.int (p0_0 &&& (3 : Int32))), .val (.ref b147), .val (.ref b160), .val (.ref b175), .val (.ref b196), .unset, .unset, .unset, .unset, .unset, .unset, .unset] [(.ref b222)])) st222 ?_
    refine own_by (T' := T222) (g' := (mkF m 78 #[.val (.int p0_0), .val (.int p0_1), .val (.int p0_2), .val (.int p0_3), .val (.int p0_4), .val (.int (p0_0 &&& (3 : Int32))), .val (.ref b147), .val (.ref b160), .val (.ref b175), .val (.ref b196), .unset, .unset, .unset, .unset, .unset, .unset, .unset] [(.int (p0_0 &&& (3 : Int32))), .null, (.ref b222), (.ref b222)])) (fun t k => ?_) ?_
    · show Steps p.tables e below (T222.setTop (mkF m 74 #[.val (.int p0_0), .val (.int p0_1), .val (.int p0_2), .val (.int p0_3), .val (.int p0_4), .val (.int (p0_0 &&& (3 : Int32))), .val (.ref b147), .val (.ref b160), .val (.ref b175), .val (.ref b196), .unset, .unset, .unset, .unset, .unset, .unset, .unset] [(.ref b222)])) t
      refine XS.dup X222.here hx rfl (hb hby at_74) rfl rfl ?_
      show Steps p.tables e below (T222.setTop (mkF m 75 #[.val (.int p0_0), .val (.int p0_1), .val (.int p0_2), .val (.int p0_3), .val (.int p0_4), .val (.int (p0_0 &&& (3 : Int32))), .val (.ref b147), .val (.ref b160), .val (.ref b175), .val (.ref b196), .unset, .unset, .unset, .unset, .unset, .unset, .unset] [(.ref b222), (.ref b222)])) t
      refine XS.aconstNull X222.here hx rfl (hb hby at_75) ?_
      show Steps p.tables e below (T222.setTop (mkF m 76 #[.val (.int p0_0), .val (.int p0_1), .val (.int p0_2), .val (.int p0_3), .val (.int p0_4), .val (.int (p0_0 &&& (3 : Int32))), .val (.ref b147), .val (.ref b160), .val (.ref b175), .val (.ref b196), .unset, .unset, .unset, .unset, .unset, .unset, .unset] [.null, (.ref b222), (.ref b222)])) t
      refine XS.iload X222.here hx rfl (hb hby at_76) rfl ?_
      show Steps p.tables e below (T222.setTop (mkF m 78 #[.val (.int p0_0), .val (.int p0_1), .val (.int p0_2), .val (.int p0_3), .val (.int p0_4), .val (.int (p0_0 &&& (3 : Int32))), .val (.ref b147), .val (.ref b160), .val (.ref b175), .val (.ref b196), .unset, .unset, .unset, .unset, .unset, .unset, .unset] [(.int (p0_0 &&& (3 : Int32))), .null, (.ref b222), (.ref b222)])) t
      exact k
    obtain ⟨v237, _, ⟨T237, L237, k237, n237⟩, -, X237, ⟨Lc237, hQ237, l237, y237, z237⟩, st237⟩ := X222.specialBack hx (y := (⟨"com/example/yohokit/yohokit/Parts", "<init>", "(Ljava/util/Map;I)V"⟩ : MethodName)) rfl hown (mvT hZ (hw _ (List.mem_of_getElem? (i := 33) rfl))) (mvT hZ (hw _ (List.mem_of_getElem? (i := 34) rfl))) (mvT hZ (hw _ (List.mem_of_getElem? (i := 35) rfl))) (by decide) (backOf (W := 1) (own_rm7 l Z a0 hw [] b222 (p0_0 &&& (3 : Int32)) .null .null .null h222 n0 Z233 (own_n3 p0_0).1 (own_n3 p0_0).2 A222 f234 gn_b222 f235 f236) hZ (hw _ (List.mem_of_getElem? (i := 35) rfl)) (hw _ (List.mem_of_getElem? (i := 32) rfl)) (by decide) (by decide)) (g := (mkF m 78 #[.val (.int p0_0), .val (.int p0_1), .val (.int p0_2), .val (.int p0_3), .val (.int p0_4), .val (.int (p0_0 &&& (3 : Int32))), .val (.ref b147), .val (.ref b160), .val (.ref b175), .val (.ref b196), .unset, .unset, .unset, .unset, .unset, .unset, .unset] [(.int (p0_0 &&& (3 : Int32))), .null, (.ref b222), (.ref b222)])) rfl (by rw [hml]; rfl) (Steps.refl _) (a := b222) (argsL := [.null, (.int (p0_0 &&& (3 : Int32)))]) (rest := [(.ref b222)]) (lenOf pd__Ljava_util_Map_I_V rfl) rfl (by show 2 * 0 + _ ≤ _; exact Nat.le_of_eq rfl) (hb hby at_78) (fun _ _ => ⟨rfl, e222, (by decide : 7 + 2 ≤ _), (by decide : 15 + 6 ≤ _)⟩)
    dsimp only [Pt.U, Pt.locs, Pt.cells, Pt.slots] at X237 l237 y237 z237 st237 hQ237
    subst y237 z237
    obtain ⟨x237, y237, rfl, M237, K237, f238, f239, f240, s1237, g1237, s2237, g2237, nb237, f241, f242⟩ := hQ237
    have f243 := f223.keep K237 (ninS ne_b147_b222 nin0)
    have f244 := f224.keep K237 (ninS ne_b160_b222 nin0)
    have f245 := f225.keep K237
    have f246 := f226.keep K237 (ninS ne_b175_b222 nin0)
    have f247 := f227.keep K237 (ninS ne_b175_b222 nin0)
    have f248 := f228.keep K237
    have f249 := f229.keep K237 (ninS ne_b196_b222 nin0)
    have f250 := f230.keep K237 (ninS ne_b196_b222 nin0)
    have f251 := A222.keep K237
    have K252 : Keep h0 T237.heap [] := K231.trans K237 (allS (Or.inr sz_b222) all0)
    have O253 := O232.keep K237 (allS gn_b222 all0)
    have Z254 := Nat.le_trans Z233 K237.1
    have sz_x237 : h0.size ≤ x237 := Nat.le_trans K231.1 s1237
    have ne_b147_x237 : b147 ≠ x237 := Nat.ne_of_lt (Nat.lt_of_lt_of_le f223.lt s1237)
    have ne_b160_x237 : b160 ≠ x237 := Nat.ne_of_lt (Nat.lt_of_lt_of_le f224.lt s1237)
    have ne_b175_x237 : b175 ≠ x237 := Nat.ne_of_lt (Nat.lt_of_lt_of_le f227.lt s1237)
    have ne_b196_x237 : b196 ≠ x237 := Nat.ne_of_lt (Nat.lt_of_lt_of_le f230.lt s1237)
    have ne_b222_x237 : b222 ≠ x237 := Nat.ne_of_lt (Nat.lt_of_lt_of_le f236.lt s1237)
    have sz_y237 : h0.size ≤ y237 := Nat.le_trans K231.1 s2237
    have ne_b147_y237 : b147 ≠ y237 := Nat.ne_of_lt (Nat.lt_of_lt_of_le f223.lt s2237)
    have ne_b160_y237 : b160 ≠ y237 := Nat.ne_of_lt (Nat.lt_of_lt_of_le f224.lt s2237)
    have ne_b175_y237 : b175 ≠ y237 := Nat.ne_of_lt (Nat.lt_of_lt_of_le f227.lt s2237)
    have ne_b196_y237 : b196 ≠ y237 := Nat.ne_of_lt (Nat.lt_of_lt_of_le f230.lt s2237)
    have ne_b222_y237 : b222 ≠ y237 := Nat.ne_of_lt (Nat.lt_of_lt_of_le f236.lt s2237)
    have N255 : Fr n0 L237 := by rw [l237]; exact Fr.app N221 M237
    refine own_via (T' := T237) (g' := (mkF m 81 #[.val (.int p0_0), .val (.int p0_1), .val (.int p0_2), .val (.int p0_3), .val (.int p0_4), .val (.int (p0_0 &&& (3 : Int32))), .val (.ref b147), .val (.ref b160), .val (.ref b175), .val (.ref b196), .unset, .unset, .unset, .unset, .unset, .unset, .unset] [(.ref b222)])) st237 ?_
    refine own_by (T' := T237) (g' := (mkF m 85 #[.val (.int p0_0), .val (.int p0_1), .val (.int p0_2), .val (.int p0_3), .val (.int p0_4), .val (.int (p0_0 &&& (3 : Int32))), .val (.ref b147), .val (.ref b160), .val (.ref b175), .val (.ref b196), .val (.ref b222), .unset, .unset, .unset, .unset, .unset, .unset] [(.int (p0_0 &&& (3 : Int32)))])) (fun t k => ?_) ?_
    · show Steps p.tables e below (T237.setTop (mkF m 81 #[.val (.int p0_0), .val (.int p0_1), .val (.int p0_2), .val (.int p0_3), .val (.int p0_4), .val (.int (p0_0 &&& (3 : Int32))), .val (.ref b147), .val (.ref b160), .val (.ref b175), .val (.ref b196), .unset, .unset, .unset, .unset, .unset, .unset, .unset] [(.ref b222)])) t
      refine XS.astore X237.here hx rfl (hb hby at_81) rfl rfl (l' := #[.val (.int p0_0), .val (.int p0_1), .val (.int p0_2), .val (.int p0_3), .val (.int p0_4), .val (.int (p0_0 &&& (3 : Int32))), .val (.ref b147), .val (.ref b160), .val (.ref b175), .val (.ref b196), .val (.ref b222), .unset, .unset, .unset, .unset, .unset, .unset]) rfl ?_
      show Steps p.tables e below (T237.setTop (mkF m 83 #[.val (.int p0_0), .val (.int p0_1), .val (.int p0_2), .val (.int p0_3), .val (.int p0_4), .val (.int (p0_0 &&& (3 : Int32))), .val (.ref b147), .val (.ref b160), .val (.ref b175), .val (.ref b196), .val (.ref b222), .unset, .unset, .unset, .unset, .unset, .unset] [])) t
      refine XS.iload X237.here hx rfl (hb hby at_83) rfl ?_
      show Steps p.tables e below (T237.setTop (mkF m 85 #[.val (.int p0_0), .val (.int p0_1), .val (.int p0_2), .val (.int p0_3), .val (.int p0_4), .val (.int (p0_0 &&& (3 : Int32))), .val (.ref b147), .val (.ref b160), .val (.ref b175), .val (.ref b196), .val (.ref b222), .unset, .unset, .unset, .unset, .unset, .unset] [(.int (p0_0 &&& (3 : Int32)))])) t
      exact k
    by_cases hc256 : (0 : Int32) < (p0_0 &&& (3 : Int32))
    · skip
      refine own_by (T' := T237) (g' := (mkF m 135 #[.val (.int p0_0), .val (.int p0_1), .val (.int p0_2), .val (.int p0_3), .val (.int p0_4), .val (.int (p0_0 &&& (3 : Int32))), .val (.ref b147), .val (.ref b160), .val (.ref b175), .val (.ref b196), .val (.ref b222), .val (.int (1 : Int32)), .val (.int ((p0_1 &&& (65535 : Int32)) % (p0_0 &&& (3 : Int32)))), .val (.int ((((p0_1.toUInt32 >>> ((16 : Int32) &&& 31).toUInt32).toInt32) &&& (32767 : Int32)) % (p0_0 &&& (3 : Int32)))), .unset, .unset, .unset] [(.int p0_2), (.int ((p0_1 &&& (65535 : Int32)) % (p0_0 &&& (3 : Int32)))), (.ref b175), (.ref b222)])) (fun t k => ?_) ?_
      · show Steps p.tables e below (T237.setTop (mkF m 85 #[.val (.int p0_0), .val (.int p0_1), .val (.int p0_2), .val (.int p0_3), .val (.int p0_4), .val (.int (p0_0 &&& (3 : Int32))), .val (.ref b147), .val (.ref b160), .val (.ref b175), .val (.ref b196), .val (.ref b222), .unset, .unset, .unset, .unset, .unset, .unset] [(.int (p0_0 &&& (3 : Int32)))])) t
        refine XS.ifNo X237.here hx rfl (hb hby at_85) rfl ((if0 _ _).trans (tlt hc256).2.2.2) ?_
        show Steps p.tables e below (T237.setTop (mkF m 88 #[.val (.int p0_0), .val (.int p0_1), .val (.int p0_2), .val (.int p0_3), .val (.int p0_4), .val (.int (p0_0 &&& (3 : Int32))), .val (.ref b147), .val (.ref b160), .val (.ref b175), .val (.ref b196), .val (.ref b222), .unset, .unset, .unset, .unset, .unset, .unset] [])) t
        refine XS.iconst X237.here hx rfl (hb hby at_88) ?_
        show Steps p.tables e below (T237.setTop (mkF m 89 #[.val (.int p0_0), .val (.int p0_1), .val (.int p0_2), .val (.int p0_3), .val (.int p0_4), .val (.int (p0_0 &&& (3 : Int32))), .val (.ref b147), .val (.ref b160), .val (.ref b175), .val (.ref b196), .val (.ref b222), .unset, .unset, .unset, .unset, .unset, .unset] [(.int (1 : Int32))])) t
        refine XS.goto X237.here hx rfl (pc0 := 89) (pc' := 93) rfl (hb hby at_89) (by decide) (by decide) ?_
        show Steps p.tables e below (T237.setTop (mkF m 93 #[.val (.int p0_0), .val (.int p0_1), .val (.int p0_2), .val (.int p0_3), .val (.int p0_4), .val (.int (p0_0 &&& (3 : Int32))), .val (.ref b147), .val (.ref b160), .val (.ref b175), .val (.ref b196), .val (.ref b222), .unset, .unset, .unset, .unset, .unset, .unset] [(.int (1 : Int32))])) t
        refine XS.istore X237.here hx rfl (hb hby at_93) rfl (l' := #[.val (.int p0_0), .val (.int p0_1), .val (.int p0_2), .val (.int p0_3), .val (.int p0_4), .val (.int (p0_0 &&& (3 : Int32))), .val (.ref b147), .val (.ref b160), .val (.ref b175), .val (.ref b196), .val (.ref b222), .val (.int (1 : Int32)), .unset, .unset, .unset, .unset, .unset]) rfl ?_
        show Steps p.tables e below (T237.setTop (mkF m 95 #[.val (.int p0_0), .val (.int p0_1), .val (.int p0_2), .val (.int p0_3), .val (.int p0_4), .val (.int (p0_0 &&& (3 : Int32))), .val (.ref b147), .val (.ref b160), .val (.ref b175), .val (.ref b196), .val (.ref b222), .val (.int (1 : Int32)), .unset, .unset, .unset, .unset, .unset] [])) t
        refine XS.iconst X237.here hx rfl (hb hby at_95) ?_
        show Steps p.tables e below (T237.setTop (mkF m 96 #[.val (.int p0_0), .val (.int p0_1), .val (.int p0_2), .val (.int p0_3), .val (.int p0_4), .val (.int (p0_0 &&& (3 : Int32))), .val (.ref b147), .val (.ref b160), .val (.ref b175), .val (.ref b196), .val (.ref b222), .val (.int (1 : Int32)), .unset, .unset, .unset, .unset, .unset] [(.int (0 : Int32))])) t
        refine XS.istore X237.here hx rfl (hb hby at_96) rfl (l' := #[.val (.int p0_0), .val (.int p0_1), .val (.int p0_2), .val (.int p0_3), .val (.int p0_4), .val (.int (p0_0 &&& (3 : Int32))), .val (.ref b147), .val (.ref b160), .val (.ref b175), .val (.ref b196), .val (.ref b222), .val (.int (1 : Int32)), .val (.int (0 : Int32)), .unset, .unset, .unset, .unset]) rfl ?_
        show Steps p.tables e below (T237.setTop (mkF m 98 #[.val (.int p0_0), .val (.int p0_1), .val (.int p0_2), .val (.int p0_3), .val (.int p0_4), .val (.int (p0_0 &&& (3 : Int32))), .val (.ref b147), .val (.ref b160), .val (.ref b175), .val (.ref b196), .val (.ref b222), .val (.int (1 : Int32)), .val (.int (0 : Int32)), .unset, .unset, .unset, .unset] [])) t
        refine XS.iconst X237.here hx rfl (hb hby at_98) ?_
        show Steps p.tables e below (T237.setTop (mkF m 99 #[.val (.int p0_0), .val (.int p0_1), .val (.int p0_2), .val (.int p0_3), .val (.int p0_4), .val (.int (p0_0 &&& (3 : Int32))), .val (.ref b147), .val (.ref b160), .val (.ref b175), .val (.ref b196), .val (.ref b222), .val (.int (1 : Int32)), .val (.int (0 : Int32)), .unset, .unset, .unset, .unset] [(.int (0 : Int32))])) t
        refine XS.istore X237.here hx rfl (hb hby at_99) rfl (l' := #[.val (.int p0_0), .val (.int p0_1), .val (.int p0_2), .val (.int p0_3), .val (.int p0_4), .val (.int (p0_0 &&& (3 : Int32))), .val (.ref b147), .val (.ref b160), .val (.ref b175), .val (.ref b196), .val (.ref b222), .val (.int (1 : Int32)), .val (.int (0 : Int32)), .val (.int (0 : Int32)), .unset, .unset, .unset]) rfl ?_
        show Steps p.tables e below (T237.setTop (mkF m 101 #[.val (.int p0_0), .val (.int p0_1), .val (.int p0_2), .val (.int p0_3), .val (.int p0_4), .val (.int (p0_0 &&& (3 : Int32))), .val (.ref b147), .val (.ref b160), .val (.ref b175), .val (.ref b196), .val (.ref b222), .val (.int (1 : Int32)), .val (.int (0 : Int32)), .val (.int (0 : Int32)), .unset, .unset, .unset] [])) t
        refine XS.iload X237.here hx rfl (hb hby at_101) rfl ?_
        show Steps p.tables e below (T237.setTop (mkF m 103 #[.val (.int p0_0), .val (.int p0_1), .val (.int p0_2), .val (.int p0_3), .val (.int p0_4), .val (.int (p0_0 &&& (3 : Int32))), .val (.ref b147), .val (.ref b160), .val (.ref b175), .val (.ref b196), .val (.ref b222), .val (.int (1 : Int32)), .val (.int (0 : Int32)), .val (.int (0 : Int32)), .unset, .unset, .unset] [(.int (1 : Int32))])) t
        refine XS.ifNo X237.here hx rfl (hb hby at_103) rfl ((if0 _ _).trans (feq (by decide : ¬ ((1 : Int32) = (0 : Int32)))).1) ?_
        show Steps p.tables e below (T237.setTop (mkF m 106 #[.val (.int p0_0), .val (.int p0_1), .val (.int p0_2), .val (.int p0_3), .val (.int p0_4), .val (.int (p0_0 &&& (3 : Int32))), .val (.ref b147), .val (.ref b160), .val (.ref b175), .val (.ref b196), .val (.ref b222), .val (.int (1 : Int32)), .val (.int (0 : Int32)), .val (.int (0 : Int32)), .unset, .unset, .unset] [])) t
        refine XS.iloadN X237.here hx rfl (hb hby at_106) rfl ?_
        show Steps p.tables e below (T237.setTop (mkF m 107 #[.val (.int p0_0), .val (.int p0_1), .val (.int p0_2), .val (.int p0_3), .val (.int p0_4), .val (.int (p0_0 &&& (3 : Int32))), .val (.ref b147), .val (.ref b160), .val (.ref b175), .val (.ref b196), .val (.ref b222), .val (.int (1 : Int32)), .val (.int (0 : Int32)), .val (.int (0 : Int32)), .unset, .unset, .unset] [(.int p0_1)])) t
        refine X237.ldcInt hx hown (mvT hZ (hw _ (List.mem_of_getElem? (i := 59) rfl))) (g := (mkF m 107 #[.val (.int p0_0), .val (.int p0_1), .val (.int p0_2), .val (.int p0_3), .val (.int p0_4), .val (.int (p0_0 &&& (3 : Int32))), .val (.ref b147), .val (.ref b160), .val (.ref b175), .val (.ref b196), .val (.ref b222), .val (.int (1 : Int32)), .val (.int (0 : Int32)), .val (.int (0 : Int32)), .unset, .unset, .unset] [(.int p0_1)])) rfl (hb hby at_107) _ ?_
        show Steps p.tables e below (T237.setTop (mkF m 109 #[.val (.int p0_0), .val (.int p0_1), .val (.int p0_2), .val (.int p0_3), .val (.int p0_4), .val (.int (p0_0 &&& (3 : Int32))), .val (.ref b147), .val (.ref b160), .val (.ref b175), .val (.ref b196), .val (.ref b222), .val (.int (1 : Int32)), .val (.int (0 : Int32)), .val (.int (0 : Int32)), .unset, .unset, .unset] [(.int (65535 : Int32)), (.int p0_1)])) t
        refine XS.iand X237.here hx rfl (hb hby at_109) rfl ?_
        show Steps p.tables e below (T237.setTop (mkF m 110 #[.val (.int p0_0), .val (.int p0_1), .val (.int p0_2), .val (.int p0_3), .val (.int p0_4), .val (.int (p0_0 &&& (3 : Int32))), .val (.ref b147), .val (.ref b160), .val (.ref b175), .val (.ref b196), .val (.ref b222), .val (.int (1 : Int32)), .val (.int (0 : Int32)), .val (.int (0 : Int32)), .unset, .unset, .unset] [(.int (p0_1 &&& (65535 : Int32)))])) t
        refine XS.iload X237.here hx rfl (hb hby at_110) rfl ?_
        show Steps p.tables e below (T237.setTop (mkF m 112 #[.val (.int p0_0), .val (.int p0_1), .val (.int p0_2), .val (.int p0_3), .val (.int p0_4), .val (.int (p0_0 &&& (3 : Int32))), .val (.ref b147), .val (.ref b160), .val (.ref b175), .val (.ref b196), .val (.ref b222), .val (.int (1 : Int32)), .val (.int (0 : Int32)), .val (.int (0 : Int32)), .unset, .unset, .unset] [(.int (p0_0 &&& (3 : Int32))), (.int (p0_1 &&& (65535 : Int32)))])) t
        refine iremM (g := (mkF m 112 #[.val (.int p0_0), .val (.int p0_1), .val (.int p0_2), .val (.int p0_3), .val (.int p0_4), .val (.int (p0_0 &&& (3 : Int32))), .val (.ref b147), .val (.ref b160), .val (.ref b175), .val (.ref b196), .val (.ref b222), .val (.int (1 : Int32)), .val (.int (0 : Int32)), .val (.int (0 : Int32)), .unset, .unset, .unset] [(.int (p0_0 &&& (3 : Int32))), (.int (p0_1 &&& (65535 : Int32)))])) X237 hx rfl (hb hby at_112) rfl (own_nz hc256) ?_
        show Steps p.tables e below (T237.setTop (mkF m 113 #[.val (.int p0_0), .val (.int p0_1), .val (.int p0_2), .val (.int p0_3), .val (.int p0_4), .val (.int (p0_0 &&& (3 : Int32))), .val (.ref b147), .val (.ref b160), .val (.ref b175), .val (.ref b196), .val (.ref b222), .val (.int (1 : Int32)), .val (.int (0 : Int32)), .val (.int (0 : Int32)), .unset, .unset, .unset] [(.int ((p0_1 &&& (65535 : Int32)) % (p0_0 &&& (3 : Int32))))])) t
        refine XS.istore X237.here hx rfl (hb hby at_113) rfl (l' := #[.val (.int p0_0), .val (.int p0_1), .val (.int p0_2), .val (.int p0_3), .val (.int p0_4), .val (.int (p0_0 &&& (3 : Int32))), .val (.ref b147), .val (.ref b160), .val (.ref b175), .val (.ref b196), .val (.ref b222), .val (.int (1 : Int32)), .val (.int ((p0_1 &&& (65535 : Int32)) % (p0_0 &&& (3 : Int32)))), .val (.int (0 : Int32)), .unset, .unset, .unset]) rfl ?_
        show Steps p.tables e below (T237.setTop (mkF m 115 #[.val (.int p0_0), .val (.int p0_1), .val (.int p0_2), .val (.int p0_3), .val (.int p0_4), .val (.int (p0_0 &&& (3 : Int32))), .val (.ref b147), .val (.ref b160), .val (.ref b175), .val (.ref b196), .val (.ref b222), .val (.int (1 : Int32)), .val (.int ((p0_1 &&& (65535 : Int32)) % (p0_0 &&& (3 : Int32)))), .val (.int (0 : Int32)), .unset, .unset, .unset] [])) t
        refine XS.iloadN X237.here hx rfl (hb hby at_115) rfl ?_
        show Steps p.tables e below (T237.setTop (mkF m 116 #[.val (.int p0_0), .val (.int p0_1), .val (.int p0_2), .val (.int p0_3), .val (.int p0_4), .val (.int (p0_0 &&& (3 : Int32))), .val (.ref b147), .val (.ref b160), .val (.ref b175), .val (.ref b196), .val (.ref b222), .val (.int (1 : Int32)), .val (.int ((p0_1 &&& (65535 : Int32)) % (p0_0 &&& (3 : Int32)))), .val (.int (0 : Int32)), .unset, .unset, .unset] [(.int p0_1)])) t
        refine XS.bipush X237.here hx rfl (hb hby at_116) ?_
        show Steps p.tables e below (T237.setTop (mkF m 118 #[.val (.int p0_0), .val (.int p0_1), .val (.int p0_2), .val (.int p0_3), .val (.int p0_4), .val (.int (p0_0 &&& (3 : Int32))), .val (.ref b147), .val (.ref b160), .val (.ref b175), .val (.ref b196), .val (.ref b222), .val (.int (1 : Int32)), .val (.int ((p0_1 &&& (65535 : Int32)) % (p0_0 &&& (3 : Int32)))), .val (.int (0 : Int32)), .unset, .unset, .unset] [(.int (16 : Int32)), (.int p0_1)])) t
        refine XS.iushr X237.here hx rfl (hb hby at_118) rfl ?_
        show Steps p.tables e below (T237.setTop (mkF m 119 #[.val (.int p0_0), .val (.int p0_1), .val (.int p0_2), .val (.int p0_3), .val (.int p0_4), .val (.int (p0_0 &&& (3 : Int32))), .val (.ref b147), .val (.ref b160), .val (.ref b175), .val (.ref b196), .val (.ref b222), .val (.int (1 : Int32)), .val (.int ((p0_1 &&& (65535 : Int32)) % (p0_0 &&& (3 : Int32)))), .val (.int (0 : Int32)), .unset, .unset, .unset] [(.int ((p0_1.toUInt32 >>> ((16 : Int32) &&& 31).toUInt32).toInt32))])) t
        refine XS.sipush X237.here hx rfl (hb hby at_119) ?_
        show Steps p.tables e below (T237.setTop (mkF m 122 #[.val (.int p0_0), .val (.int p0_1), .val (.int p0_2), .val (.int p0_3), .val (.int p0_4), .val (.int (p0_0 &&& (3 : Int32))), .val (.ref b147), .val (.ref b160), .val (.ref b175), .val (.ref b196), .val (.ref b222), .val (.int (1 : Int32)), .val (.int ((p0_1 &&& (65535 : Int32)) % (p0_0 &&& (3 : Int32)))), .val (.int (0 : Int32)), .unset, .unset, .unset] [(.int (32767 : Int32)), (.int ((p0_1.toUInt32 >>> ((16 : Int32) &&& 31).toUInt32).toInt32))])) t
        refine XS.iand X237.here hx rfl (hb hby at_122) rfl ?_
        show Steps p.tables e below (T237.setTop (mkF m 123 #[.val (.int p0_0), .val (.int p0_1), .val (.int p0_2), .val (.int p0_3), .val (.int p0_4), .val (.int (p0_0 &&& (3 : Int32))), .val (.ref b147), .val (.ref b160), .val (.ref b175), .val (.ref b196), .val (.ref b222), .val (.int (1 : Int32)), .val (.int ((p0_1 &&& (65535 : Int32)) % (p0_0 &&& (3 : Int32)))), .val (.int (0 : Int32)), .unset, .unset, .unset] [(.int (((p0_1.toUInt32 >>> ((16 : Int32) &&& 31).toUInt32).toInt32) &&& (32767 : Int32)))])) t
        refine XS.iload X237.here hx rfl (hb hby at_123) rfl ?_
        show Steps p.tables e below (T237.setTop (mkF m 125 #[.val (.int p0_0), .val (.int p0_1), .val (.int p0_2), .val (.int p0_3), .val (.int p0_4), .val (.int (p0_0 &&& (3 : Int32))), .val (.ref b147), .val (.ref b160), .val (.ref b175), .val (.ref b196), .val (.ref b222), .val (.int (1 : Int32)), .val (.int ((p0_1 &&& (65535 : Int32)) % (p0_0 &&& (3 : Int32)))), .val (.int (0 : Int32)), .unset, .unset, .unset] [(.int (p0_0 &&& (3 : Int32))), (.int (((p0_1.toUInt32 >>> ((16 : Int32) &&& 31).toUInt32).toInt32) &&& (32767 : Int32)))])) t
        refine iremM (g := (mkF m 125 #[.val (.int p0_0), .val (.int p0_1), .val (.int p0_2), .val (.int p0_3), .val (.int p0_4), .val (.int (p0_0 &&& (3 : Int32))), .val (.ref b147), .val (.ref b160), .val (.ref b175), .val (.ref b196), .val (.ref b222), .val (.int (1 : Int32)), .val (.int ((p0_1 &&& (65535 : Int32)) % (p0_0 &&& (3 : Int32)))), .val (.int (0 : Int32)), .unset, .unset, .unset] [(.int (p0_0 &&& (3 : Int32))), (.int (((p0_1.toUInt32 >>> ((16 : Int32) &&& 31).toUInt32).toInt32) &&& (32767 : Int32)))])) X237 hx rfl (hb hby at_125) rfl (own_nz hc256) ?_
        show Steps p.tables e below (T237.setTop (mkF m 126 #[.val (.int p0_0), .val (.int p0_1), .val (.int p0_2), .val (.int p0_3), .val (.int p0_4), .val (.int (p0_0 &&& (3 : Int32))), .val (.ref b147), .val (.ref b160), .val (.ref b175), .val (.ref b196), .val (.ref b222), .val (.int (1 : Int32)), .val (.int ((p0_1 &&& (65535 : Int32)) % (p0_0 &&& (3 : Int32)))), .val (.int (0 : Int32)), .unset, .unset, .unset] [(.int ((((p0_1.toUInt32 >>> ((16 : Int32) &&& 31).toUInt32).toInt32) &&& (32767 : Int32)) % (p0_0 &&& (3 : Int32))))])) t
        refine XS.istore X237.here hx rfl (hb hby at_126) rfl (l' := #[.val (.int p0_0), .val (.int p0_1), .val (.int p0_2), .val (.int p0_3), .val (.int p0_4), .val (.int (p0_0 &&& (3 : Int32))), .val (.ref b147), .val (.ref b160), .val (.ref b175), .val (.ref b196), .val (.ref b222), .val (.int (1 : Int32)), .val (.int ((p0_1 &&& (65535 : Int32)) % (p0_0 &&& (3 : Int32)))), .val (.int ((((p0_1.toUInt32 >>> ((16 : Int32) &&& 31).toUInt32).toInt32) &&& (32767 : Int32)) % (p0_0 &&& (3 : Int32)))), .unset, .unset, .unset]) rfl ?_
        show Steps p.tables e below (T237.setTop (mkF m 128 #[.val (.int p0_0), .val (.int p0_1), .val (.int p0_2), .val (.int p0_3), .val (.int p0_4), .val (.int (p0_0 &&& (3 : Int32))), .val (.ref b147), .val (.ref b160), .val (.ref b175), .val (.ref b196), .val (.ref b222), .val (.int (1 : Int32)), .val (.int ((p0_1 &&& (65535 : Int32)) % (p0_0 &&& (3 : Int32)))), .val (.int ((((p0_1.toUInt32 >>> ((16 : Int32) &&& 31).toUInt32).toInt32) &&& (32767 : Int32)) % (p0_0 &&& (3 : Int32)))), .unset, .unset, .unset] [])) t
        refine XS.aload X237.here hx rfl (hb hby at_128) rfl rfl ?_
        show Steps p.tables e below (T237.setTop (mkF m 130 #[.val (.int p0_0), .val (.int p0_1), .val (.int p0_2), .val (.int p0_3), .val (.int p0_4), .val (.int (p0_0 &&& (3 : Int32))), .val (.ref b147), .val (.ref b160), .val (.ref b175), .val (.ref b196), .val (.ref b222), .val (.int (1 : Int32)), .val (.int ((p0_1 &&& (65535 : Int32)) % (p0_0 &&& (3 : Int32)))), .val (.int ((((p0_1.toUInt32 >>> ((16 : Int32) &&& 31).toUInt32).toInt32) &&& (32767 : Int32)) % (p0_0 &&& (3 : Int32)))), .unset, .unset, .unset] [(.ref b222)])) t
        refine XS.aload X237.here hx rfl (hb hby at_130) rfl rfl ?_
        show Steps p.tables e below (T237.setTop (mkF m 132 #[.val (.int p0_0), .val (.int p0_1), .val (.int p0_2), .val (.int p0_3), .val (.int p0_4), .val (.int (p0_0 &&& (3 : Int32))), .val (.ref b147), .val (.ref b160), .val (.ref b175), .val (.ref b196), .val (.ref b222), .val (.int (1 : Int32)), .val (.int ((p0_1 &&& (65535 : Int32)) % (p0_0 &&& (3 : Int32)))), .val (.int ((((p0_1.toUInt32 >>> ((16 : Int32) &&& 31).toUInt32).toInt32) &&& (32767 : Int32)) % (p0_0 &&& (3 : Int32)))), .unset, .unset, .unset] [(.ref b175), (.ref b222)])) t
        refine XS.iload X237.here hx rfl (hb hby at_132) rfl ?_
        show Steps p.tables e below (T237.setTop (mkF m 134 #[.val (.int p0_0), .val (.int p0_1), .val (.int p0_2), .val (.int p0_3), .val (.int p0_4), .val (.int (p0_0 &&& (3 : Int32))), .val (.ref b147), .val (.ref b160), .val (.ref b175), .val (.ref b196), .val (.ref b222), .val (.int (1 : Int32)), .val (.int ((p0_1 &&& (65535 : Int32)) % (p0_0 &&& (3 : Int32)))), .val (.int ((((p0_1.toUInt32 >>> ((16 : Int32) &&& 31).toUInt32).toInt32) &&& (32767 : Int32)) % (p0_0 &&& (3 : Int32)))), .unset, .unset, .unset] [(.int ((p0_1 &&& (65535 : Int32)) % (p0_0 &&& (3 : Int32)))), (.ref b175), (.ref b222)])) t
        refine XS.iloadN X237.here hx rfl (hb hby at_134) rfl ?_
        show Steps p.tables e below (T237.setTop (mkF m 135 #[.val (.int p0_0), .val (.int p0_1), .val (.int p0_2), .val (.int p0_3), .val (.int p0_4), .val (.int (p0_0 &&& (3 : Int32))), .val (.ref b147), .val (.ref b160), .val (.ref b175), .val (.ref b196), .val (.ref b222), .val (.int (1 : Int32)), .val (.int ((p0_1 &&& (65535 : Int32)) % (p0_0 &&& (3 : Int32)))), .val (.int ((((p0_1.toUInt32 >>> ((16 : Int32) &&& 31).toUInt32).toInt32) &&& (32767 : Int32)) % (p0_0 &&& (3 : Int32)))), .unset, .unset, .unset] [(.int p0_2), (.int ((p0_1 &&& (65535 : Int32)) % (p0_0 &&& (3 : Int32)))), (.ref b175), (.ref b222)])) t
        exact k
      obtain ⟨cq257, kq257, q257a, q257b, q257c⟩ := isOf hZ rfl f238
      obtain ⟨v257, _, ⟨T257, L257, k257, n257⟩, -, X257, ⟨Lc257, hQ257, l257, y257, z257⟩, st257⟩ := X237.virtualBack hx (y := (⟨"com/example/yohokit/yohokit/Parts", "write", "(Ljava/lang/String;II)V"⟩ : MethodName)) (z := (⟨"com/example/yohokit/yohokit/Parts", "write", "(Ljava/lang/String;II)V"⟩ : MethodName)) hown (mvT hZ (hw _ (List.mem_of_getElem? (i := 60) rfl))) (mvT hZ (hw _ (List.mem_of_getElem? (i := 61) rfl))) (notFace_of_selects (args := #[]) (mvT hZ (hw _ (List.mem_of_getElem? (i := 63) rfl)))) (mvT hZ (hw _ (List.mem_of_getElem? (i := 63) rfl))) (mvT hZ (hw _ (List.mem_of_getElem? (i := 62) rfl))) (by decide) (backOf (W := 0) (own_rm11 l Z a0 hw [] b222 (.ref b175) ((p0_1 &&& (65535 : Int32)) % (p0_0 &&& (3 : Int32))) p0_2 x237 y237 (p0_0 &&& (3 : Int32)) ([.null, .null, .null]) T237.heap n0 Z254 rfl f241 f242 (own_n3 p0_0).2 (own_mod (own_and_le _ 65535 65535 (by decide) (by decide)).1 hc256) (Or.inr ⟨b175, rfl, f245⟩) f239 (Ne.symm nb237) ne_b222_x237 g1237 f240 ne_b222_y237 nb237 g2237) hZ (hw _ (List.mem_of_getElem? (i := 64) rfl)) (hw _ (List.mem_of_getElem? (i := 32) rfl)) (by decide) (by decide)) q257a q257c (g := (mkF m 135 #[.val (.int p0_0), .val (.int p0_1), .val (.int p0_2), .val (.int p0_3), .val (.int p0_4), .val (.int (p0_0 &&& (3 : Int32))), .val (.ref b147), .val (.ref b160), .val (.ref b175), .val (.ref b196), .val (.ref b222), .val (.int (1 : Int32)), .val (.int ((p0_1 &&& (65535 : Int32)) % (p0_0 &&& (3 : Int32)))), .val (.int ((((p0_1.toUInt32 >>> ((16 : Int32) &&& 31).toUInt32).toInt32) &&& (32767 : Int32)) % (p0_0 &&& (3 : Int32)))), .unset, .unset, .unset] [(.int p0_2), (.int ((p0_1 &&& (65535 : Int32)) % (p0_0 &&& (3 : Int32)))), (.ref b175), (.ref b222)])) rfl (by rw [hml]; rfl) (Steps.refl _) (argsL := [(.ref b175), (.int ((p0_1 &&& (65535 : Int32)) % (p0_0 &&& (3 : Int32)))), (.int p0_2)]) (rest := []) (lenOf pd__Ljava_lang_String_II_V rfl) rfl (by show 2 * 0 + _ ≤ _; exact Nat.le_of_eq rfl) (hb hby at_135) (fun _ _ => ⟨rfl, rfl, (by decide : 9 + 0 ≤ _), (by decide : 21 + 0 ≤ _)⟩)
      dsimp only [Pt.U, Pt.locs, Pt.cells, Pt.slots] at X257 l257 y257 z257 st257 hQ257
      subst y257 z257
      obtain ⟨rfl, M257, K257, f258, f259⟩ := hQ257
      have f260 := f243.keep K257 (ninS ne_b147_x237 (ninS ne_b147_y237 nin0))
      have f261 := f244.keep K257 (ninS ne_b160_x237 (ninS ne_b160_y237 nin0))
      have f262 := f245.keep K257
      have f263 := f246.keep K257 (ninS ne_b175_x237 (ninS ne_b175_y237 nin0))
      have f264 := f247.keep K257 (ninS ne_b175_x237 (ninS ne_b175_y237 nin0))
      have f265 := f248.keep K257
      have f266 := f249.keep K257 (ninS ne_b196_x237 (ninS ne_b196_y237 nin0))
      have f267 := f250.keep K257 (ninS ne_b196_x237 (ninS ne_b196_y237 nin0))
      have f268 := f238.keep K257
      have f269 := f239.keep K257 (ninS ne_b222_x237 (ninS ne_b222_y237 nin0))
      have f270 := f240.keep K257 (ninS ne_b222_x237 (ninS ne_b222_y237 nin0))
      have K271 : Keep h0 T257.heap [] := K252.trans K257 (allS (Or.inr sz_x237) (allS (Or.inr sz_y237) all0))
      have O272 := O253.keep K257 (allS g1237 (allS g2237 all0))
      have Z273 := Nat.le_trans Z254 K257.1
      have N274 : Fr n0 L257 := by rw [l257]; exact Fr.app N255 M257
      refine own_via (T' := T257) (g' := (mkF m 138 #[.val (.int p0_0), .val (.int p0_1), .val (.int p0_2), .val (.int p0_3), .val (.int p0_4), .val (.int (p0_0 &&& (3 : Int32))), .val (.ref b147), .val (.ref b160), .val (.ref b175), .val (.ref b196), .val (.ref b222), .val (.int (1 : Int32)), .val (.int ((p0_1 &&& (65535 : Int32)) % (p0_0 &&& (3 : Int32)))), .val (.int ((((p0_1.toUInt32 >>> ((16 : Int32) &&& 31).toUInt32).toInt32) &&& (32767 : Int32)) % (p0_0 &&& (3 : Int32)))), .unset, .unset, .unset] [])) st257 ?_
      refine own_by (T' := T257) (g' := (mkF m 146 #[.val (.int p0_0), .val (.int p0_1), .val (.int p0_2), .val (.int p0_3), .val (.int p0_4), .val (.int (p0_0 &&& (3 : Int32))), .val (.ref b147), .val (.ref b160), .val (.ref b175), .val (.ref b196), .val (.ref b222), .val (.int (1 : Int32)), .val (.int ((p0_1 &&& (65535 : Int32)) % (p0_0 &&& (3 : Int32)))), .val (.int ((((p0_1.toUInt32 >>> ((16 : Int32) &&& 31).toUInt32).toInt32) &&& (32767 : Int32)) % (p0_0 &&& (3 : Int32)))), .unset, .unset, .unset] [(.int (48 : Int32)), (.int ((((p0_1.toUInt32 >>> ((16 : Int32) &&& 31).toUInt32).toInt32) &&& (32767 : Int32)) % (p0_0 &&& (3 : Int32)))), (.ref b196), (.ref b222)])) (fun t k => ?_) ?_
      · show Steps p.tables e below (T257.setTop (mkF m 138 #[.val (.int p0_0), .val (.int p0_1), .val (.int p0_2), .val (.int p0_3), .val (.int p0_4), .val (.int (p0_0 &&& (3 : Int32))), .val (.ref b147), .val (.ref b160), .val (.ref b175), .val (.ref b196), .val (.ref b222), .val (.int (1 : Int32)), .val (.int ((p0_1 &&& (65535 : Int32)) % (p0_0 &&& (3 : Int32)))), .val (.int ((((p0_1.toUInt32 >>> ((16 : Int32) &&& 31).toUInt32).toInt32) &&& (32767 : Int32)) % (p0_0 &&& (3 : Int32)))), .unset, .unset, .unset] [])) t
        refine XS.aload X257.here hx rfl (hb hby at_138) rfl rfl ?_
        show Steps p.tables e below (T257.setTop (mkF m 140 #[.val (.int p0_0), .val (.int p0_1), .val (.int p0_2), .val (.int p0_3), .val (.int p0_4), .val (.int (p0_0 &&& (3 : Int32))), .val (.ref b147), .val (.ref b160), .val (.ref b175), .val (.ref b196), .val (.ref b222), .val (.int (1 : Int32)), .val (.int ((p0_1 &&& (65535 : Int32)) % (p0_0 &&& (3 : Int32)))), .val (.int ((((p0_1.toUInt32 >>> ((16 : Int32) &&& 31).toUInt32).toInt32) &&& (32767 : Int32)) % (p0_0 &&& (3 : Int32)))), .unset, .unset, .unset] [(.ref b222)])) t
        refine XS.aload X257.here hx rfl (hb hby at_140) rfl rfl ?_
        show Steps p.tables e below (T257.setTop (mkF m 142 #[.val (.int p0_0), .val (.int p0_1), .val (.int p0_2), .val (.int p0_3), .val (.int p0_4), .val (.int (p0_0 &&& (3 : Int32))), .val (.ref b147), .val (.ref b160), .val (.ref b175), .val (.ref b196), .val (.ref b222), .val (.int (1 : Int32)), .val (.int ((p0_1 &&& (65535 : Int32)) % (p0_0 &&& (3 : Int32)))), .val (.int ((((p0_1.toUInt32 >>> ((16 : Int32) &&& 31).toUInt32).toInt32) &&& (32767 : Int32)) % (p0_0 &&& (3 : Int32)))), .unset, .unset, .unset] [(.ref b196), (.ref b222)])) t
        refine XS.iload X257.here hx rfl (hb hby at_142) rfl ?_
        show Steps p.tables e below (T257.setTop (mkF m 144 #[.val (.int p0_0), .val (.int p0_1), .val (.int p0_2), .val (.int p0_3), .val (.int p0_4), .val (.int (p0_0 &&& (3 : Int32))), .val (.ref b147), .val (.ref b160), .val (.ref b175), .val (.ref b196), .val (.ref b222), .val (.int (1 : Int32)), .val (.int ((p0_1 &&& (65535 : Int32)) % (p0_0 &&& (3 : Int32)))), .val (.int ((((p0_1.toUInt32 >>> ((16 : Int32) &&& 31).toUInt32).toInt32) &&& (32767 : Int32)) % (p0_0 &&& (3 : Int32)))), .unset, .unset, .unset] [(.int ((((p0_1.toUInt32 >>> ((16 : Int32) &&& 31).toUInt32).toInt32) &&& (32767 : Int32)) % (p0_0 &&& (3 : Int32)))), (.ref b196), (.ref b222)])) t
        refine XS.bipush X257.here hx rfl (hb hby at_144) ?_
        show Steps p.tables e below (T257.setTop (mkF m 146 #[.val (.int p0_0), .val (.int p0_1), .val (.int p0_2), .val (.int p0_3), .val (.int p0_4), .val (.int (p0_0 &&& (3 : Int32))), .val (.ref b147), .val (.ref b160), .val (.ref b175), .val (.ref b196), .val (.ref b222), .val (.int (1 : Int32)), .val (.int ((p0_1 &&& (65535 : Int32)) % (p0_0 &&& (3 : Int32)))), .val (.int ((((p0_1.toUInt32 >>> ((16 : Int32) &&& 31).toUInt32).toInt32) &&& (32767 : Int32)) % (p0_0 &&& (3 : Int32)))), .unset, .unset, .unset] [(.int (48 : Int32)), (.int ((((p0_1.toUInt32 >>> ((16 : Int32) &&& 31).toUInt32).toInt32) &&& (32767 : Int32)) % (p0_0 &&& (3 : Int32)))), (.ref b196), (.ref b222)])) t
        exact k
      obtain ⟨cq275, kq275, q275a, q275b, q275c⟩ := isOf hZ rfl f268
      obtain ⟨v275, _, ⟨T275, L275, k275, n275⟩, -, X275, ⟨Lc275, hQ275, l275, y275, z275⟩, st275⟩ := X257.virtualBack hx (y := (⟨"com/example/yohokit/yohokit/Parts", "write", "(Ljava/lang/String;II)V"⟩ : MethodName)) (z := (⟨"com/example/yohokit/yohokit/Parts", "write", "(Ljava/lang/String;II)V"⟩ : MethodName)) hown (mvT hZ (hw _ (List.mem_of_getElem? (i := 60) rfl))) (mvT hZ (hw _ (List.mem_of_getElem? (i := 61) rfl))) (notFace_of_selects (args := #[]) (mvT hZ (hw _ (List.mem_of_getElem? (i := 63) rfl)))) (mvT hZ (hw _ (List.mem_of_getElem? (i := 63) rfl))) (mvT hZ (hw _ (List.mem_of_getElem? (i := 62) rfl))) (by decide) (backOf (W := 0) (own_rm11 l Z a0 hw [] b222 (.ref b196) ((((p0_1.toUInt32 >>> ((16 : Int32) &&& 31).toUInt32).toInt32) &&& (32767 : Int32)) % (p0_0 &&& (3 : Int32))) (48 : Int32) x237 y237 (p0_0 &&& (3 : Int32)) (([.null, .null, .null]).set ((p0_1 &&& (65535 : Int32)) % (p0_0 &&& (3 : Int32))).toNatClampNeg (.ref b175)) T257.heap n0 Z273 rfl f258 f259 (own_n3 p0_0).2 (own_mod (own_and_le _ 32767 32767 (by decide) (by decide)).1 hc256) (Or.inr ⟨b196, rfl, f265⟩) f269 (Ne.symm nb237) ne_b222_x237 g1237 f270 ne_b222_y237 nb237 g2237) hZ (hw _ (List.mem_of_getElem? (i := 64) rfl)) (hw _ (List.mem_of_getElem? (i := 32) rfl)) (by decide) (by decide)) q275a q275c (g := (mkF m 146 #[.val (.int p0_0), .val (.int p0_1), .val (.int p0_2), .val (.int p0_3), .val (.int p0_4), .val (.int (p0_0 &&& (3 : Int32))), .val (.ref b147), .val (.ref b160), .val (.ref b175), .val (.ref b196), .val (.ref b222), .val (.int (1 : Int32)), .val (.int ((p0_1 &&& (65535 : Int32)) % (p0_0 &&& (3 : Int32)))), .val (.int ((((p0_1.toUInt32 >>> ((16 : Int32) &&& 31).toUInt32).toInt32) &&& (32767 : Int32)) % (p0_0 &&& (3 : Int32)))), .unset, .unset, .unset] [(.int (48 : Int32)), (.int ((((p0_1.toUInt32 >>> ((16 : Int32) &&& 31).toUInt32).toInt32) &&& (32767 : Int32)) % (p0_0 &&& (3 : Int32)))), (.ref b196), (.ref b222)])) rfl (by rw [hml]; rfl) (Steps.refl _) (argsL := [(.ref b196), (.int ((((p0_1.toUInt32 >>> ((16 : Int32) &&& 31).toUInt32).toInt32) &&& (32767 : Int32)) % (p0_0 &&& (3 : Int32)))), (.int (48 : Int32))]) (rest := []) (lenOf pd__Ljava_lang_String_II_V rfl) rfl (by show 2 * 0 + _ ≤ _; exact Nat.le_of_eq rfl) (hb hby at_146) (fun _ _ => ⟨rfl, rfl, (by decide : 9 + 0 ≤ _), (by decide : 21 + 0 ≤ _)⟩)
      dsimp only [Pt.U, Pt.locs, Pt.cells, Pt.slots] at X275 l275 y275 z275 st275 hQ275
      subst y275 z275
      obtain ⟨rfl, M275, K275, f276, f277⟩ := hQ275
      have f278 := f260.keep K275 (ninS ne_b147_x237 (ninS ne_b147_y237 nin0))
      have f279 := f261.keep K275 (ninS ne_b160_x237 (ninS ne_b160_y237 nin0))
      have f280 := f262.keep K275
      have f281 := f263.keep K275 (ninS ne_b175_x237 (ninS ne_b175_y237 nin0))
      have f282 := f264.keep K275 (ninS ne_b175_x237 (ninS ne_b175_y237 nin0))
      have f283 := f265.keep K275
      have f284 := f266.keep K275 (ninS ne_b196_x237 (ninS ne_b196_y237 nin0))
      have f285 := f267.keep K275 (ninS ne_b196_x237 (ninS ne_b196_y237 nin0))
      have f286 := f268.keep K275
      have f287 := f269.keep K275 (ninS ne_b222_x237 (ninS ne_b222_y237 nin0))
      have f288 := f270.keep K275 (ninS ne_b222_x237 (ninS ne_b222_y237 nin0))
      have K289 : Keep h0 T275.heap [] := K271.trans K275 (allS (Or.inr sz_x237) (allS (Or.inr sz_y237) all0))
      have O290 := O272.keep K275 (allS g1237 (allS g2237 all0))
      have Z291 := Nat.le_trans Z273 K275.1
      have N292 : Fr n0 L275 := by rw [l275]; exact Fr.app N274 M275
      refine own_via (T' := T275) (g' := (mkF m 149 #[.val (.int p0_0), .val (.int p0_1), .val (.int p0_2), .val (.int p0_3), .val (.int p0_4), .val (.int (p0_0 &&& (3 : Int32))), .val (.ref b147), .val (.ref b160), .val (.ref b175), .val (.ref b196), .val (.ref b222), .val (.int (1 : Int32)), .val (.int ((p0_1 &&& (65535 : Int32)) % (p0_0 &&& (3 : Int32)))), .val (.int ((((p0_1.toUInt32 >>> ((16 : Int32) &&& 31).toUInt32).toInt32) &&& (32767 : Int32)) % (p0_0 &&& (3 : Int32)))), .unset, .unset, .unset] [])) st275 ?_
      refine own_by (T' := T275) (g' := (mkF m 161 #[.val (.int p0_0), .val (.int p0_1), .val (.int p0_2), .val (.int p0_3), .val (.int p0_4), .val (.int (p0_0 &&& (3 : Int32))), .val (.ref b147), .val (.ref b160), .val (.ref b175), .val (.ref b196), .val (.ref b222), .val (.int (1 : Int32)), .val (.int ((p0_1 &&& (65535 : Int32)) % (p0_0 &&& (3 : Int32)))), .val (.int ((((p0_1.toUInt32 >>> ((16 : Int32) &&& 31).toUInt32).toInt32) &&& (32767 : Int32)) % (p0_0 &&& (3 : Int32)))), .val (.int ((p0_4 &&& (7 : Int32)) - (2 : Int32))), .unset, .unset] [(.int p0_3), (.ref b222)])) (fun t k => ?_) ?_
      · show Steps p.tables e below (T275.setTop (mkF m 149 #[.val (.int p0_0), .val (.int p0_1), .val (.int p0_2), .val (.int p0_3), .val (.int p0_4), .val (.int (p0_0 &&& (3 : Int32))), .val (.ref b147), .val (.ref b160), .val (.ref b175), .val (.ref b196), .val (.ref b222), .val (.int (1 : Int32)), .val (.int ((p0_1 &&& (65535 : Int32)) % (p0_0 &&& (3 : Int32)))), .val (.int ((((p0_1.toUInt32 >>> ((16 : Int32) &&& 31).toUInt32).toInt32) &&& (32767 : Int32)) % (p0_0 &&& (3 : Int32)))), .unset, .unset, .unset] [])) t
        refine XS.iload X275.here hx rfl (hb hby at_149) rfl ?_
        show Steps p.tables e below (T275.setTop (mkF m 151 #[.val (.int p0_0), .val (.int p0_1), .val (.int p0_2), .val (.int p0_3), .val (.int p0_4), .val (.int (p0_0 &&& (3 : Int32))), .val (.ref b147), .val (.ref b160), .val (.ref b175), .val (.ref b196), .val (.ref b222), .val (.int (1 : Int32)), .val (.int ((p0_1 &&& (65535 : Int32)) % (p0_0 &&& (3 : Int32)))), .val (.int ((((p0_1.toUInt32 >>> ((16 : Int32) &&& 31).toUInt32).toInt32) &&& (32767 : Int32)) % (p0_0 &&& (3 : Int32)))), .unset, .unset, .unset] [(.int p0_4)])) t
        refine XS.bipush X275.here hx rfl (hb hby at_151) ?_
        show Steps p.tables e below (T275.setTop (mkF m 153 #[.val (.int p0_0), .val (.int p0_1), .val (.int p0_2), .val (.int p0_3), .val (.int p0_4), .val (.int (p0_0 &&& (3 : Int32))), .val (.ref b147), .val (.ref b160), .val (.ref b175), .val (.ref b196), .val (.ref b222), .val (.int (1 : Int32)), .val (.int ((p0_1 &&& (65535 : Int32)) % (p0_0 &&& (3 : Int32)))), .val (.int ((((p0_1.toUInt32 >>> ((16 : Int32) &&& 31).toUInt32).toInt32) &&& (32767 : Int32)) % (p0_0 &&& (3 : Int32)))), .unset, .unset, .unset] [(.int (7 : Int32)), (.int p0_4)])) t
        refine XS.iand X275.here hx rfl (hb hby at_153) rfl ?_
        show Steps p.tables e below (T275.setTop (mkF m 154 #[.val (.int p0_0), .val (.int p0_1), .val (.int p0_2), .val (.int p0_3), .val (.int p0_4), .val (.int (p0_0 &&& (3 : Int32))), .val (.ref b147), .val (.ref b160), .val (.ref b175), .val (.ref b196), .val (.ref b222), .val (.int (1 : Int32)), .val (.int ((p0_1 &&& (65535 : Int32)) % (p0_0 &&& (3 : Int32)))), .val (.int ((((p0_1.toUInt32 >>> ((16 : Int32) &&& 31).toUInt32).toInt32) &&& (32767 : Int32)) % (p0_0 &&& (3 : Int32)))), .unset, .unset, .unset] [(.int (p0_4 &&& (7 : Int32)))])) t
        refine XS.iconst X275.here hx rfl (hb hby at_154) ?_
        show Steps p.tables e below (T275.setTop (mkF m 155 #[.val (.int p0_0), .val (.int p0_1), .val (.int p0_2), .val (.int p0_3), .val (.int p0_4), .val (.int (p0_0 &&& (3 : Int32))), .val (.ref b147), .val (.ref b160), .val (.ref b175), .val (.ref b196), .val (.ref b222), .val (.int (1 : Int32)), .val (.int ((p0_1 &&& (65535 : Int32)) % (p0_0 &&& (3 : Int32)))), .val (.int ((((p0_1.toUInt32 >>> ((16 : Int32) &&& 31).toUInt32).toInt32) &&& (32767 : Int32)) % (p0_0 &&& (3 : Int32)))), .unset, .unset, .unset] [(.int (2 : Int32)), (.int (p0_4 &&& (7 : Int32)))])) t
        refine XS.isub X275.here hx rfl (hb hby at_155) rfl ?_
        show Steps p.tables e below (T275.setTop (mkF m 156 #[.val (.int p0_0), .val (.int p0_1), .val (.int p0_2), .val (.int p0_3), .val (.int p0_4), .val (.int (p0_0 &&& (3 : Int32))), .val (.ref b147), .val (.ref b160), .val (.ref b175), .val (.ref b196), .val (.ref b222), .val (.int (1 : Int32)), .val (.int ((p0_1 &&& (65535 : Int32)) % (p0_0 &&& (3 : Int32)))), .val (.int ((((p0_1.toUInt32 >>> ((16 : Int32) &&& 31).toUInt32).toInt32) &&& (32767 : Int32)) % (p0_0 &&& (3 : Int32)))), .unset, .unset, .unset] [(.int ((p0_4 &&& (7 : Int32)) - (2 : Int32)))])) t
        refine XS.istore X275.here hx rfl (hb hby at_156) rfl (l' := #[.val (.int p0_0), .val (.int p0_1), .val (.int p0_2), .val (.int p0_3), .val (.int p0_4), .val (.int (p0_0 &&& (3 : Int32))), .val (.ref b147), .val (.ref b160), .val (.ref b175), .val (.ref b196), .val (.ref b222), .val (.int (1 : Int32)), .val (.int ((p0_1 &&& (65535 : Int32)) % (p0_0 &&& (3 : Int32)))), .val (.int ((((p0_1.toUInt32 >>> ((16 : Int32) &&& 31).toUInt32).toInt32) &&& (32767 : Int32)) % (p0_0 &&& (3 : Int32)))), .val (.int ((p0_4 &&& (7 : Int32)) - (2 : Int32))), .unset, .unset]) rfl ?_
        show Steps p.tables e below (T275.setTop (mkF m 158 #[.val (.int p0_0), .val (.int p0_1), .val (.int p0_2), .val (.int p0_3), .val (.int p0_4), .val (.int (p0_0 &&& (3 : Int32))), .val (.ref b147), .val (.ref b160), .val (.ref b175), .val (.ref b196), .val (.ref b222), .val (.int (1 : Int32)), .val (.int ((p0_1 &&& (65535 : Int32)) % (p0_0 &&& (3 : Int32)))), .val (.int ((((p0_1.toUInt32 >>> ((16 : Int32) &&& 31).toUInt32).toInt32) &&& (32767 : Int32)) % (p0_0 &&& (3 : Int32)))), .val (.int ((p0_4 &&& (7 : Int32)) - (2 : Int32))), .unset, .unset] [])) t
        refine XS.aload X275.here hx rfl (hb hby at_158) rfl rfl ?_
        show Steps p.tables e below (T275.setTop (mkF m 160 #[.val (.int p0_0), .val (.int p0_1), .val (.int p0_2), .val (.int p0_3), .val (.int p0_4), .val (.int (p0_0 &&& (3 : Int32))), .val (.ref b147), .val (.ref b160), .val (.ref b175), .val (.ref b196), .val (.ref b222), .val (.int (1 : Int32)), .val (.int ((p0_1 &&& (65535 : Int32)) % (p0_0 &&& (3 : Int32)))), .val (.int ((((p0_1.toUInt32 >>> ((16 : Int32) &&& 31).toUInt32).toInt32) &&& (32767 : Int32)) % (p0_0 &&& (3 : Int32)))), .val (.int ((p0_4 &&& (7 : Int32)) - (2 : Int32))), .unset, .unset] [(.ref b222)])) t
        refine XS.iloadN X275.here hx rfl (hb hby at_160) rfl ?_
        show Steps p.tables e below (T275.setTop (mkF m 161 #[.val (.int p0_0), .val (.int p0_1), .val (.int p0_2), .val (.int p0_3), .val (.int p0_4), .val (.int (p0_0 &&& (3 : Int32))), .val (.ref b147), .val (.ref b160), .val (.ref b175), .val (.ref b196), .val (.ref b222), .val (.int (1 : Int32)), .val (.int ((p0_1 &&& (65535 : Int32)) % (p0_0 &&& (3 : Int32)))), .val (.int ((((p0_1.toUInt32 >>> ((16 : Int32) &&& 31).toUInt32).toInt32) &&& (32767 : Int32)) % (p0_0 &&& (3 : Int32)))), .val (.int ((p0_4 &&& (7 : Int32)) - (2 : Int32))), .unset, .unset] [(.int p0_3), (.ref b222)])) t
        exact k
      obtain ⟨cq293, kq293, q293a, q293b, q293c⟩ := isOf hZ rfl f286
      obtain ⟨v293, _, ⟨T293, L293, k293, n293⟩, -, X293, ⟨Lc293, hQ293, l293, y293, z293⟩, st293⟩ := X275.virtualBack hx (y := (⟨"com/example/yohokit/yohokit/Parts", "keyAt", "(I)Ljava/lang/String;"⟩ : MethodName)) (z := (⟨"com/example/yohokit/yohokit/Parts", "keyAt", "(I)Ljava/lang/String;"⟩ : MethodName)) hown (mvT hZ (hw _ (List.mem_of_getElem? (i := 50) rfl))) (mvT hZ (hw _ (List.mem_of_getElem? (i := 51) rfl))) (notFace_of_selects (args := #[]) (mvT hZ (hw _ (List.mem_of_getElem? (i := 53) rfl)))) (mvT hZ (hw _ (List.mem_of_getElem? (i := 53) rfl))) (mvT hZ (hw _ (List.mem_of_getElem? (i := 52) rfl))) (by decide) (backOf (W := 0) (own_rm9 l Z a0 hw [] b222 p0_3 y237 (p0_0 &&& (3 : Int32)) ((([.null, .null, .null]).set ((p0_1 &&& (65535 : Int32)) % (p0_0 &&& (3 : Int32))).toNatClampNeg (.ref b175)).set ((((p0_1.toUInt32 >>> ((16 : Int32) &&& 31).toUInt32).toInt32) &&& (32767 : Int32)) % (p0_0 &&& (3 : Int32))).toNatClampNeg (.ref b196)) T275.heap n0 Z291 f277 f288) hZ (hw _ (List.mem_of_getElem? (i := 54) rfl)) (hw _ (List.mem_of_getElem? (i := 32) rfl)) (by decide) (by decide)) q293a q293c (g := (mkF m 161 #[.val (.int p0_0), .val (.int p0_1), .val (.int p0_2), .val (.int p0_3), .val (.int p0_4), .val (.int (p0_0 &&& (3 : Int32))), .val (.ref b147), .val (.ref b160), .val (.ref b175), .val (.ref b196), .val (.ref b222), .val (.int (1 : Int32)), .val (.int ((p0_1 &&& (65535 : Int32)) % (p0_0 &&& (3 : Int32)))), .val (.int ((((p0_1.toUInt32 >>> ((16 : Int32) &&& 31).toUInt32).toInt32) &&& (32767 : Int32)) % (p0_0 &&& (3 : Int32)))), .val (.int ((p0_4 &&& (7 : Int32)) - (2 : Int32))), .unset, .unset] [(.int p0_3), (.ref b222)])) rfl (by rw [hml]; rfl) (Steps.refl _) (argsL := [(.int p0_3)]) (rest := []) (lenOf pd__I_Ljava_lang_String_ rfl) rfl (by show 2 * 0 + _ ≤ _; exact Nat.le_of_eq rfl) (hb hby at_161) (fun _ _ => ⟨rfl, rfl, (by decide : 9 + 0 ≤ _), (by decide : 21 + 0 ≤ _)⟩)
      dsimp only [Pt.U, Pt.locs, Pt.cells, Pt.slots] at X293 l293 y293 z293 st293 hQ293
      subst y293 z293
      obtain ⟨rfl, M293, e293, hr293⟩ := hQ293
      have N294 : Fr n0 L293 := by rw [l293]; exact Fr.app N292 M293
      refine own_via (T' := T293) (g' := (mkF m 164 #[.val (.int p0_0), .val (.int p0_1), .val (.int p0_2), .val (.int p0_3), .val (.int p0_4), .val (.int (p0_0 &&& (3 : Int32))), .val (.ref b147), .val (.ref b160), .val (.ref b175), .val (.ref b196), .val (.ref b222), .val (.int (1 : Int32)), .val (.int ((p0_1 &&& (65535 : Int32)) % (p0_0 &&& (3 : Int32)))), .val (.int ((((p0_1.toUInt32 >>> ((16 : Int32) &&& 31).toUInt32).toInt32) &&& (32767 : Int32)) % (p0_0 &&& (3 : Int32)))), .val (.int ((p0_4 &&& (7 : Int32)) - (2 : Int32))), .unset, .unset] [(own_F9 b222 p0_3 y237 (p0_0 &&& (3 : Int32)) ((([.null, .null, .null]).set ((p0_1 &&& (65535 : Int32)) % (p0_0 &&& (3 : Int32))).toNatClampNeg (.ref b175)).set ((((p0_1.toUInt32 >>> ((16 : Int32) &&& 31).toUInt32).toInt32) &&& (32767 : Int32)) % (p0_0 &&& (3 : Int32))).toNatClampNeg (.ref b196)))])) st293 ?_
      refine own_by (T' := T293) (g' := (mkF m 170 #[.val (.int p0_0), .val (.int p0_1), .val (.int p0_2), .val (.int p0_3), .val (.int p0_4), .val (.int (p0_0 &&& (3 : Int32))), .val (.ref b147), .val (.ref b160), .val (.ref b175), .val (.ref b196), .val (.ref b222), .val (.int (1 : Int32)), .val (.int ((p0_1 &&& (65535 : Int32)) % (p0_0 &&& (3 : Int32)))), .val (.int ((((p0_1.toUInt32 >>> ((16 : Int32) &&& 31).toUInt32).toInt32) &&& (32767 : Int32)) % (p0_0 &&& (3 : Int32)))), .val (.int ((p0_4 &&& (7 : Int32)) - (2 : Int32))), .val (own_F9 b222 p0_3 y237 (p0_0 &&& (3 : Int32)) ((([.null, .null, .null]).set ((p0_1 &&& (65535 : Int32)) % (p0_0 &&& (3 : Int32))).toNatClampNeg (.ref b175)).set ((((p0_1.toUInt32 >>> ((16 : Int32) &&& 31).toUInt32).toInt32) &&& (32767 : Int32)) % (p0_0 &&& (3 : Int32))).toNatClampNeg (.ref b196))), .unset] [(.int ((p0_4 &&& (7 : Int32)) - (2 : Int32))), (.ref b222)])) (fun t k => ?_) ?_
      · show Steps p.tables e below (T293.setTop (mkF m 164 #[.val (.int p0_0), .val (.int p0_1), .val (.int p0_2), .val (.int p0_3), .val (.int p0_4), .val (.int (p0_0 &&& (3 : Int32))), .val (.ref b147), .val (.ref b160), .val (.ref b175), .val (.ref b196), .val (.ref b222), .val (.int (1 : Int32)), .val (.int ((p0_1 &&& (65535 : Int32)) % (p0_0 &&& (3 : Int32)))), .val (.int ((((p0_1.toUInt32 >>> ((16 : Int32) &&& 31).toUInt32).toInt32) &&& (32767 : Int32)) % (p0_0 &&& (3 : Int32)))), .val (.int ((p0_4 &&& (7 : Int32)) - (2 : Int32))), .unset, .unset] [(own_F9 b222 p0_3 y237 (p0_0 &&& (3 : Int32)) ((([.null, .null, .null]).set ((p0_1 &&& (65535 : Int32)) % (p0_0 &&& (3 : Int32))).toNatClampNeg (.ref b175)).set ((((p0_1.toUInt32 >>> ((16 : Int32) &&& 31).toUInt32).toInt32) &&& (32767 : Int32)) % (p0_0 &&& (3 : Int32))).toNatClampNeg (.ref b196)))])) t
        refine XS.astore X293.here hx rfl (hb hby at_164) rfl hr293 (l' := #[.val (.int p0_0), .val (.int p0_1), .val (.int p0_2), .val (.int p0_3), .val (.int p0_4), .val (.int (p0_0 &&& (3 : Int32))), .val (.ref b147), .val (.ref b160), .val (.ref b175), .val (.ref b196), .val (.ref b222), .val (.int (1 : Int32)), .val (.int ((p0_1 &&& (65535 : Int32)) % (p0_0 &&& (3 : Int32)))), .val (.int ((((p0_1.toUInt32 >>> ((16 : Int32) &&& 31).toUInt32).toInt32) &&& (32767 : Int32)) % (p0_0 &&& (3 : Int32)))), .val (.int ((p0_4 &&& (7 : Int32)) - (2 : Int32))), .val (own_F9 b222 p0_3 y237 (p0_0 &&& (3 : Int32)) ((([.null, .null, .null]).set ((p0_1 &&& (65535 : Int32)) % (p0_0 &&& (3 : Int32))).toNatClampNeg (.ref b175)).set ((((p0_1.toUInt32 >>> ((16 : Int32) &&& 31).toUInt32).toInt32) &&& (32767 : Int32)) % (p0_0 &&& (3 : Int32))).toNatClampNeg (.ref b196))), .unset]) (XS.store1 (o := .unset) rfl (Or.inl rfl) (own_cat1 hr293)) ?_
        show Steps p.tables e below (T293.setTop (mkF m 166 #[.val (.int p0_0), .val (.int p0_1), .val (.int p0_2), .val (.int p0_3), .val (.int p0_4), .val (.int (p0_0 &&& (3 : Int32))), .val (.ref b147), .val (.ref b160), .val (.ref b175), .val (.ref b196), .val (.ref b222), .val (.int (1 : Int32)), .val (.int ((p0_1 &&& (65535 : Int32)) % (p0_0 &&& (3 : Int32)))), .val (.int ((((p0_1.toUInt32 >>> ((16 : Int32) &&& 31).toUInt32).toInt32) &&& (32767 : Int32)) % (p0_0 &&& (3 : Int32)))), .val (.int ((p0_4 &&& (7 : Int32)) - (2 : Int32))), .val (own_F9 b222 p0_3 y237 (p0_0 &&& (3 : Int32)) ((([.null, .null, .null]).set ((p0_1 &&& (65535 : Int32)) % (p0_0 &&& (3 : Int32))).toNatClampNeg (.ref b175)).set ((((p0_1.toUInt32 >>> ((16 : Int32) &&& 31).toUInt32).toInt32) &&& (32767 : Int32)) % (p0_0 &&& (3 : Int32))).toNatClampNeg (.ref b196))), .unset] [])) t
        refine XS.aload X293.here hx rfl (hb hby at_166) rfl rfl ?_
        show Steps p.tables e below (T293.setTop (mkF m 168 #[.val (.int p0_0), .val (.int p0_1), .val (.int p0_2), .val (.int p0_3), .val (.int p0_4), .val (.int (p0_0 &&& (3 : Int32))), .val (.ref b147), .val (.ref b160), .val (.ref b175), .val (.ref b196), .val (.ref b222), .val (.int (1 : Int32)), .val (.int ((p0_1 &&& (65535 : Int32)) % (p0_0 &&& (3 : Int32)))), .val (.int ((((p0_1.toUInt32 >>> ((16 : Int32) &&& 31).toUInt32).toInt32) &&& (32767 : Int32)) % (p0_0 &&& (3 : Int32)))), .val (.int ((p0_4 &&& (7 : Int32)) - (2 : Int32))), .val (own_F9 b222 p0_3 y237 (p0_0 &&& (3 : Int32)) ((([.null, .null, .null]).set ((p0_1 &&& (65535 : Int32)) % (p0_0 &&& (3 : Int32))).toNatClampNeg (.ref b175)).set ((((p0_1.toUInt32 >>> ((16 : Int32) &&& 31).toUInt32).toInt32) &&& (32767 : Int32)) % (p0_0 &&& (3 : Int32))).toNatClampNeg (.ref b196))), .unset] [(.ref b222)])) t
        refine XS.iload X293.here hx rfl (hb hby at_168) rfl ?_
        show Steps p.tables e below (T293.setTop (mkF m 170 #[.val (.int p0_0), .val (.int p0_1), .val (.int p0_2), .val (.int p0_3), .val (.int p0_4), .val (.int (p0_0 &&& (3 : Int32))), .val (.ref b147), .val (.ref b160), .val (.ref b175), .val (.ref b196), .val (.ref b222), .val (.int (1 : Int32)), .val (.int ((p0_1 &&& (65535 : Int32)) % (p0_0 &&& (3 : Int32)))), .val (.int ((((p0_1.toUInt32 >>> ((16 : Int32) &&& 31).toUInt32).toInt32) &&& (32767 : Int32)) % (p0_0 &&& (3 : Int32)))), .val (.int ((p0_4 &&& (7 : Int32)) - (2 : Int32))), .val (own_F9 b222 p0_3 y237 (p0_0 &&& (3 : Int32)) ((([.null, .null, .null]).set ((p0_1 &&& (65535 : Int32)) % (p0_0 &&& (3 : Int32))).toNatClampNeg (.ref b175)).set ((((p0_1.toUInt32 >>> ((16 : Int32) &&& 31).toUInt32).toInt32) &&& (32767 : Int32)) % (p0_0 &&& (3 : Int32))).toNatClampNeg (.ref b196))), .unset] [(.int ((p0_4 &&& (7 : Int32)) - (2 : Int32))), (.ref b222)])) t
        exact k
      obtain ⟨cq295, kq295, q295a, q295b, q295c⟩ := isOf hZ e293 f286
      obtain ⟨v295, _, ⟨T295, L295, k295, n295⟩, -, X295, ⟨Lc295, hQ295, l295, y295, z295⟩, st295⟩ := X293.virtualBack hx (y := (⟨"com/example/yohokit/yohokit/Parts", "keyAt", "(I)Ljava/lang/String;"⟩ : MethodName)) (z := (⟨"com/example/yohokit/yohokit/Parts", "keyAt", "(I)Ljava/lang/String;"⟩ : MethodName)) hown (mvT hZ (hw _ (List.mem_of_getElem? (i := 50) rfl))) (mvT hZ (hw _ (List.mem_of_getElem? (i := 51) rfl))) (notFace_of_selects (args := #[]) (mvT hZ (hw _ (List.mem_of_getElem? (i := 53) rfl)))) (mvT hZ (hw _ (List.mem_of_getElem? (i := 53) rfl))) (mvT hZ (hw _ (List.mem_of_getElem? (i := 52) rfl))) (by decide) (backOf (W := 0) (own_rm9 l Z a0 hw [] b222 ((p0_4 &&& (7 : Int32)) - (2 : Int32)) y237 (p0_0 &&& (3 : Int32)) ((([.null, .null, .null]).set ((p0_1 &&& (65535 : Int32)) % (p0_0 &&& (3 : Int32))).toNatClampNeg (.ref b175)).set ((((p0_1.toUInt32 >>> ((16 : Int32) &&& 31).toUInt32).toInt32) &&& (32767 : Int32)) % (p0_0 &&& (3 : Int32))).toNatClampNeg (.ref b196)) T275.heap n0 Z291 f277 f288) hZ (hw _ (List.mem_of_getElem? (i := 54) rfl)) (hw _ (List.mem_of_getElem? (i := 32) rfl)) (by decide) (by decide)) q295a q295c (g := (mkF m 170 #[.val (.int p0_0), .val (.int p0_1), .val (.int p0_2), .val (.int p0_3), .val (.int p0_4), .val (.int (p0_0 &&& (3 : Int32))), .val (.ref b147), .val (.ref b160), .val (.ref b175), .val (.ref b196), .val (.ref b222), .val (.int (1 : Int32)), .val (.int ((p0_1 &&& (65535 : Int32)) % (p0_0 &&& (3 : Int32)))), .val (.int ((((p0_1.toUInt32 >>> ((16 : Int32) &&& 31).toUInt32).toInt32) &&& (32767 : Int32)) % (p0_0 &&& (3 : Int32)))), .val (.int ((p0_4 &&& (7 : Int32)) - (2 : Int32))), .val (own_F9 b222 p0_3 y237 (p0_0 &&& (3 : Int32)) ((([.null, .null, .null]).set ((p0_1 &&& (65535 : Int32)) % (p0_0 &&& (3 : Int32))).toNatClampNeg (.ref b175)).set ((((p0_1.toUInt32 >>> ((16 : Int32) &&& 31).toUInt32).toInt32) &&& (32767 : Int32)) % (p0_0 &&& (3 : Int32))).toNatClampNeg (.ref b196))), .unset] [(.int ((p0_4 &&& (7 : Int32)) - (2 : Int32))), (.ref b222)])) rfl (by rw [hml]; rfl) (Steps.refl _) (argsL := [(.int ((p0_4 &&& (7 : Int32)) - (2 : Int32)))]) (rest := []) (lenOf pd__I_Ljava_lang_String_ rfl) rfl (by show 2 * 0 + _ ≤ _; exact Nat.le_of_eq rfl) (hb hby at_170) (fun _ _ => ⟨rfl, e293, (by decide : 9 + 0 ≤ _), (by decide : 21 + 0 ≤ _)⟩)
      dsimp only [Pt.U, Pt.locs, Pt.cells, Pt.slots] at X295 l295 y295 z295 st295 hQ295
      subst y295 z295
      obtain ⟨rfl, M295, e295, hr295⟩ := hQ295
      have N296 : Fr n0 L295 := by rw [l295]; exact Fr.app N294 M295
      refine own_via (T' := T295) (g' := (mkF m 173 #[.val (.int p0_0), .val (.int p0_1), .val (.int p0_2), .val (.int p0_3), .val (.int p0_4), .val (.int (p0_0 &&& (3 : Int32))), .val (.ref b147), .val (.ref b160), .val (.ref b175), .val (.ref b196), .val (.ref b222), .val (.int (1 : Int32)), .val (.int ((p0_1 &&& (65535 : Int32)) % (p0_0 &&& (3 : Int32)))), .val (.int ((((p0_1.toUInt32 >>> ((16 : Int32) &&& 31).toUInt32).toInt32) &&& (32767 : Int32)) % (p0_0 &&& (3 : Int32)))), .val (.int ((p0_4 &&& (7 : Int32)) - (2 : Int32))), .val (own_F9 b222 p0_3 y237 (p0_0 &&& (3 : Int32)) ((([.null, .null, .null]).set ((p0_1 &&& (65535 : Int32)) % (p0_0 &&& (3 : Int32))).toNatClampNeg (.ref b175)).set ((((p0_1.toUInt32 >>> ((16 : Int32) &&& 31).toUInt32).toInt32) &&& (32767 : Int32)) % (p0_0 &&& (3 : Int32))).toNatClampNeg (.ref b196))), .unset] [(own_F9 b222 ((p0_4 &&& (7 : Int32)) - (2 : Int32)) y237 (p0_0 &&& (3 : Int32)) ((([.null, .null, .null]).set ((p0_1 &&& (65535 : Int32)) % (p0_0 &&& (3 : Int32))).toNatClampNeg (.ref b175)).set ((((p0_1.toUInt32 >>> ((16 : Int32) &&& 31).toUInt32).toInt32) &&& (32767 : Int32)) % (p0_0 &&& (3 : Int32))).toNatClampNeg (.ref b196)))])) st295 ?_
      refine own_by (T' := T295) (g' := (mkF m 190 #[.val (.int p0_0), .val (.int p0_1), .val (.int p0_2), .val (.int p0_3), .val (.int p0_4), .val (.int (p0_0 &&& (3 : Int32))), .val (.ref b147), .val (.ref b160), .val (.ref b175), .val (.ref b196), .val (.ref b222), .val (.int (1 : Int32)), .val (.int ((p0_1 &&& (65535 : Int32)) % (p0_0 &&& (3 : Int32)))), .val (.int ((((p0_1.toUInt32 >>> ((16 : Int32) &&& 31).toUInt32).toInt32) &&& (32767 : Int32)) % (p0_0 &&& (3 : Int32)))), .val (.int ((p0_4 &&& (7 : Int32)) - (2 : Int32))), .val (own_F9 b222 p0_3 y237 (p0_0 &&& (3 : Int32)) ((([.null, .null, .null]).set ((p0_1 &&& (65535 : Int32)) % (p0_0 &&& (3 : Int32))).toNatClampNeg (.ref b175)).set ((((p0_1.toUInt32 >>> ((16 : Int32) &&& 31).toUInt32).toInt32) &&& (32767 : Int32)) % (p0_0 &&& (3 : Int32))).toNatClampNeg (.ref b196))), .val (own_F9 b222 ((p0_4 &&& (7 : Int32)) - (2 : Int32)) y237 (p0_0 &&& (3 : Int32)) ((([.null, .null, .null]).set ((p0_1 &&& (65535 : Int32)) % (p0_0 &&& (3 : Int32))).toNatClampNeg (.ref b175)).set ((((p0_1.toUInt32 >>> ((16 : Int32) &&& 31).toUInt32).toInt32) &&& (32767 : Int32)) % (p0_0 &&& (3 : Int32))).toNatClampNeg (.ref b196)))] [(.ref b196), (.int ((((p0_1.toUInt32 >>> ((16 : Int32) &&& 31).toUInt32).toInt32) &&& (32767 : Int32)) % (p0_0 &&& (3 : Int32)))), (.ref b175), (.int ((p0_1 &&& (65535 : Int32)) % (p0_0 &&& (3 : Int32)))), (.int (1 : Int32)), (.int (p0_0 &&& (3 : Int32))), (.int p0_3), (own_F9 b222 p0_3 y237 (p0_0 &&& (3 : Int32)) ((([.null, .null, .null]).set ((p0_1 &&& (65535 : Int32)) % (p0_0 &&& (3 : Int32))).toNatClampNeg (.ref b175)).set ((((p0_1.toUInt32 >>> ((16 : Int32) &&& 31).toUInt32).toInt32) &&& (32767 : Int32)) % (p0_0 &&& (3 : Int32))).toNatClampNeg (.ref b196)))])) (fun t k => ?_) ?_
      · show Steps p.tables e below (T295.setTop (mkF m 173 #[.val (.int p0_0), .val (.int p0_1), .val (.int p0_2), .val (.int p0_3), .val (.int p0_4), .val (.int (p0_0 &&& (3 : Int32))), .val (.ref b147), .val (.ref b160), .val (.ref b175), .val (.ref b196), .val (.ref b222), .val (.int (1 : Int32)), .val (.int ((p0_1 &&& (65535 : Int32)) % (p0_0 &&& (3 : Int32)))), .val (.int ((((p0_1.toUInt32 >>> ((16 : Int32) &&& 31).toUInt32).toInt32) &&& (32767 : Int32)) % (p0_0 &&& (3 : Int32)))), .val (.int ((p0_4 &&& (7 : Int32)) - (2 : Int32))), .val (own_F9 b222 p0_3 y237 (p0_0 &&& (3 : Int32)) ((([.null, .null, .null]).set ((p0_1 &&& (65535 : Int32)) % (p0_0 &&& (3 : Int32))).toNatClampNeg (.ref b175)).set ((((p0_1.toUInt32 >>> ((16 : Int32) &&& 31).toUInt32).toInt32) &&& (32767 : Int32)) % (p0_0 &&& (3 : Int32))).toNatClampNeg (.ref b196))), .unset] [(own_F9 b222 ((p0_4 &&& (7 : Int32)) - (2 : Int32)) y237 (p0_0 &&& (3 : Int32)) ((([.null, .null, .null]).set ((p0_1 &&& (65535 : Int32)) % (p0_0 &&& (3 : Int32))).toNatClampNeg (.ref b175)).set ((((p0_1.toUInt32 >>> ((16 : Int32) &&& 31).toUInt32).toInt32) &&& (32767 : Int32)) % (p0_0 &&& (3 : Int32))).toNatClampNeg (.ref b196)))])) t
        refine XS.astore X295.here hx rfl (hb hby at_173) rfl hr295 (l' := #[.val (.int p0_0), .val (.int p0_1), .val (.int p0_2), .val (.int p0_3), .val (.int p0_4), .val (.int (p0_0 &&& (3 : Int32))), .val (.ref b147), .val (.ref b160), .val (.ref b175), .val (.ref b196), .val (.ref b222), .val (.int (1 : Int32)), .val (.int ((p0_1 &&& (65535 : Int32)) % (p0_0 &&& (3 : Int32)))), .val (.int ((((p0_1.toUInt32 >>> ((16 : Int32) &&& 31).toUInt32).toInt32) &&& (32767 : Int32)) % (p0_0 &&& (3 : Int32)))), .val (.int ((p0_4 &&& (7 : Int32)) - (2 : Int32))), .val (own_F9 b222 p0_3 y237 (p0_0 &&& (3 : Int32)) ((([.null, .null, .null]).set ((p0_1 &&& (65535 : Int32)) % (p0_0 &&& (3 : Int32))).toNatClampNeg (.ref b175)).set ((((p0_1.toUInt32 >>> ((16 : Int32) &&& 31).toUInt32).toInt32) &&& (32767 : Int32)) % (p0_0 &&& (3 : Int32))).toNatClampNeg (.ref b196))), .val (own_F9 b222 ((p0_4 &&& (7 : Int32)) - (2 : Int32)) y237 (p0_0 &&& (3 : Int32)) ((([.null, .null, .null]).set ((p0_1 &&& (65535 : Int32)) % (p0_0 &&& (3 : Int32))).toNatClampNeg (.ref b175)).set ((((p0_1.toUInt32 >>> ((16 : Int32) &&& 31).toUInt32).toInt32) &&& (32767 : Int32)) % (p0_0 &&& (3 : Int32))).toNatClampNeg (.ref b196)))]) (XS.store1 (o := .unset) rfl (Or.inl rfl) (own_cat1 hr295)) ?_
        show Steps p.tables e below (T295.setTop (mkF m 175 #[.val (.int p0_0), .val (.int p0_1), .val (.int p0_2), .val (.int p0_3), .val (.int p0_4), .val (.int (p0_0 &&& (3 : Int32))), .val (.ref b147), .val (.ref b160), .val (.ref b175), .val (.ref b196), .val (.ref b222), .val (.int (1 : Int32)), .val (.int ((p0_1 &&& (65535 : Int32)) % (p0_0 &&& (3 : Int32)))), .val (.int ((((p0_1.toUInt32 >>> ((16 : Int32) &&& 31).toUInt32).toInt32) &&& (32767 : Int32)) % (p0_0 &&& (3 : Int32)))), .val (.int ((p0_4 &&& (7 : Int32)) - (2 : Int32))), .val (own_F9 b222 p0_3 y237 (p0_0 &&& (3 : Int32)) ((([.null, .null, .null]).set ((p0_1 &&& (65535 : Int32)) % (p0_0 &&& (3 : Int32))).toNatClampNeg (.ref b175)).set ((((p0_1.toUInt32 >>> ((16 : Int32) &&& 31).toUInt32).toInt32) &&& (32767 : Int32)) % (p0_0 &&& (3 : Int32))).toNatClampNeg (.ref b196))), .val (own_F9 b222 ((p0_4 &&& (7 : Int32)) - (2 : Int32)) y237 (p0_0 &&& (3 : Int32)) ((([.null, .null, .null]).set ((p0_1 &&& (65535 : Int32)) % (p0_0 &&& (3 : Int32))).toNatClampNeg (.ref b175)).set ((((p0_1.toUInt32 >>> ((16 : Int32) &&& 31).toUInt32).toInt32) &&& (32767 : Int32)) % (p0_0 &&& (3 : Int32))).toNatClampNeg (.ref b196)))] [])) t
        refine XS.aload X295.here hx rfl (hb hby at_175) rfl hr293 ?_
        show Steps p.tables e below (T295.setTop (mkF m 177 #[.val (.int p0_0), .val (.int p0_1), .val (.int p0_2), .val (.int p0_3), .val (.int p0_4), .val (.int (p0_0 &&& (3 : Int32))), .val (.ref b147), .val (.ref b160), .val (.ref b175), .val (.ref b196), .val (.ref b222), .val (.int (1 : Int32)), .val (.int ((p0_1 &&& (65535 : Int32)) % (p0_0 &&& (3 : Int32)))), .val (.int ((((p0_1.toUInt32 >>> ((16 : Int32) &&& 31).toUInt32).toInt32) &&& (32767 : Int32)) % (p0_0 &&& (3 : Int32)))), .val (.int ((p0_4 &&& (7 : Int32)) - (2 : Int32))), .val (own_F9 b222 p0_3 y237 (p0_0 &&& (3 : Int32)) ((([.null, .null, .null]).set ((p0_1 &&& (65535 : Int32)) % (p0_0 &&& (3 : Int32))).toNatClampNeg (.ref b175)).set ((((p0_1.toUInt32 >>> ((16 : Int32) &&& 31).toUInt32).toInt32) &&& (32767 : Int32)) % (p0_0 &&& (3 : Int32))).toNatClampNeg (.ref b196))), .val (own_F9 b222 ((p0_4 &&& (7 : Int32)) - (2 : Int32)) y237 (p0_0 &&& (3 : Int32)) ((([.null, .null, .null]).set ((p0_1 &&& (65535 : Int32)) % (p0_0 &&& (3 : Int32))).toNatClampNeg (.ref b175)).set ((((p0_1.toUInt32 >>> ((16 : Int32) &&& 31).toUInt32).toInt32) &&& (32767 : Int32)) % (p0_0 &&& (3 : Int32))).toNatClampNeg (.ref b196)))] [(own_F9 b222 p0_3 y237 (p0_0 &&& (3 : Int32)) ((([.null, .null, .null]).set ((p0_1 &&& (65535 : Int32)) % (p0_0 &&& (3 : Int32))).toNatClampNeg (.ref b175)).set ((((p0_1.toUInt32 >>> ((16 : Int32) &&& 31).toUInt32).toInt32) &&& (32767 : Int32)) % (p0_0 &&& (3 : Int32))).toNatClampNeg (.ref b196)))])) t
        refine XS.iloadN X295.here hx rfl (hb hby at_177) rfl ?_
        show Steps p.tables e below (T295.setTop (mkF m 178 #[.val (.int p0_0), .val (.int p0_1), .val (.int p0_2), .val (.int p0_3), .val (.int p0_4), .val (.int (p0_0 &&& (3 : Int32))), .val (.ref b147), .val (.ref b160), .val (.ref b175), .val (.ref b196), .val (.ref b222), .val (.int (1 : Int32)), .val (.int ((p0_1 &&& (65535 : Int32)) % (p0_0 &&& (3 : Int32)))), .val (.int ((((p0_1.toUInt32 >>> ((16 : Int32) &&& 31).toUInt32).toInt32) &&& (32767 : Int32)) % (p0_0 &&& (3 : Int32)))), .val (.int ((p0_4 &&& (7 : Int32)) - (2 : Int32))), .val (own_F9 b222 p0_3 y237 (p0_0 &&& (3 : Int32)) ((([.null, .null, .null]).set ((p0_1 &&& (65535 : Int32)) % (p0_0 &&& (3 : Int32))).toNatClampNeg (.ref b175)).set ((((p0_1.toUInt32 >>> ((16 : Int32) &&& 31).toUInt32).toInt32) &&& (32767 : Int32)) % (p0_0 &&& (3 : Int32))).toNatClampNeg (.ref b196))), .val (own_F9 b222 ((p0_4 &&& (7 : Int32)) - (2 : Int32)) y237 (p0_0 &&& (3 : Int32)) ((([.null, .null, .null]).set ((p0_1 &&& (65535 : Int32)) % (p0_0 &&& (3 : Int32))).toNatClampNeg (.ref b175)).set ((((p0_1.toUInt32 >>> ((16 : Int32) &&& 31).toUInt32).toInt32) &&& (32767 : Int32)) % (p0_0 &&& (3 : Int32))).toNatClampNeg (.ref b196)))] [(.int p0_3), (own_F9 b222 p0_3 y237 (p0_0 &&& (3 : Int32)) ((([.null, .null, .null]).set ((p0_1 &&& (65535 : Int32)) % (p0_0 &&& (3 : Int32))).toNatClampNeg (.ref b175)).set ((((p0_1.toUInt32 >>> ((16 : Int32) &&& 31).toUInt32).toInt32) &&& (32767 : Int32)) % (p0_0 &&& (3 : Int32))).toNatClampNeg (.ref b196)))])) t
        refine XS.iload X295.here hx rfl (hb hby at_178) rfl ?_
        show Steps p.tables e below (T295.setTop (mkF m 180 #[.val (.int p0_0), .val (.int p0_1), .val (.int p0_2), .val (.int p0_3), .val (.int p0_4), .val (.int (p0_0 &&& (3 : Int32))), .val (.ref b147), .val (.ref b160), .val (.ref b175), .val (.ref b196), .val (.ref b222), .val (.int (1 : Int32)), .val (.int ((p0_1 &&& (65535 : Int32)) % (p0_0 &&& (3 : Int32)))), .val (.int ((((p0_1.toUInt32 >>> ((16 : Int32) &&& 31).toUInt32).toInt32) &&& (32767 : Int32)) % (p0_0 &&& (3 : Int32)))), .val (.int ((p0_4 &&& (7 : Int32)) - (2 : Int32))), .val (own_F9 b222 p0_3 y237 (p0_0 &&& (3 : Int32)) ((([.null, .null, .null]).set ((p0_1 &&& (65535 : Int32)) % (p0_0 &&& (3 : Int32))).toNatClampNeg (.ref b175)).set ((((p0_1.toUInt32 >>> ((16 : Int32) &&& 31).toUInt32).toInt32) &&& (32767 : Int32)) % (p0_0 &&& (3 : Int32))).toNatClampNeg (.ref b196))), .val (own_F9 b222 ((p0_4 &&& (7 : Int32)) - (2 : Int32)) y237 (p0_0 &&& (3 : Int32)) ((([.null, .null, .null]).set ((p0_1 &&& (65535 : Int32)) % (p0_0 &&& (3 : Int32))).toNatClampNeg (.ref b175)).set ((((p0_1.toUInt32 >>> ((16 : Int32) &&& 31).toUInt32).toInt32) &&& (32767 : Int32)) % (p0_0 &&& (3 : Int32))).toNatClampNeg (.ref b196)))] [(.int (p0_0 &&& (3 : Int32))), (.int p0_3), (own_F9 b222 p0_3 y237 (p0_0 &&& (3 : Int32)) ((([.null, .null, .null]).set ((p0_1 &&& (65535 : Int32)) % (p0_0 &&& (3 : Int32))).toNatClampNeg (.ref b175)).set ((((p0_1.toUInt32 >>> ((16 : Int32) &&& 31).toUInt32).toInt32) &&& (32767 : Int32)) % (p0_0 &&& (3 : Int32))).toNatClampNeg (.ref b196)))])) t
        refine XS.iload X295.here hx rfl (hb hby at_180) rfl ?_
        show Steps p.tables e below (T295.setTop (mkF m 182 #[.val (.int p0_0), .val (.int p0_1), .val (.int p0_2), .val (.int p0_3), .val (.int p0_4), .val (.int (p0_0 &&& (3 : Int32))), .val (.ref b147), .val (.ref b160), .val (.ref b175), .val (.ref b196), .val (.ref b222), .val (.int (1 : Int32)), .val (.int ((p0_1 &&& (65535 : Int32)) % (p0_0 &&& (3 : Int32)))), .val (.int ((((p0_1.toUInt32 >>> ((16 : Int32) &&& 31).toUInt32).toInt32) &&& (32767 : Int32)) % (p0_0 &&& (3 : Int32)))), .val (.int ((p0_4 &&& (7 : Int32)) - (2 : Int32))), .val (own_F9 b222 p0_3 y237 (p0_0 &&& (3 : Int32)) ((([.null, .null, .null]).set ((p0_1 &&& (65535 : Int32)) % (p0_0 &&& (3 : Int32))).toNatClampNeg (.ref b175)).set ((((p0_1.toUInt32 >>> ((16 : Int32) &&& 31).toUInt32).toInt32) &&& (32767 : Int32)) % (p0_0 &&& (3 : Int32))).toNatClampNeg (.ref b196))), .val (own_F9 b222 ((p0_4 &&& (7 : Int32)) - (2 : Int32)) y237 (p0_0 &&& (3 : Int32)) ((([.null, .null, .null]).set ((p0_1 &&& (65535 : Int32)) % (p0_0 &&& (3 : Int32))).toNatClampNeg (.ref b175)).set ((((p0_1.toUInt32 >>> ((16 : Int32) &&& 31).toUInt32).toInt32) &&& (32767 : Int32)) % (p0_0 &&& (3 : Int32))).toNatClampNeg (.ref b196)))] [(.int (1 : Int32)), (.int (p0_0 &&& (3 : Int32))), (.int p0_3), (own_F9 b222 p0_3 y237 (p0_0 &&& (3 : Int32)) ((([.null, .null, .null]).set ((p0_1 &&& (65535 : Int32)) % (p0_0 &&& (3 : Int32))).toNatClampNeg (.ref b175)).set ((((p0_1.toUInt32 >>> ((16 : Int32) &&& 31).toUInt32).toInt32) &&& (32767 : Int32)) % (p0_0 &&& (3 : Int32))).toNatClampNeg (.ref b196)))])) t
        refine XS.iload X295.here hx rfl (hb hby at_182) rfl ?_
        show Steps p.tables e below (T295.setTop (mkF m 184 #[.val (.int p0_0), .val (.int p0_1), .val (.int p0_2), .val (.int p0_3), .val (.int p0_4), .val (.int (p0_0 &&& (3 : Int32))), .val (.ref b147), .val (.ref b160), .val (.ref b175), .val (.ref b196), .val (.ref b222), .val (.int (1 : Int32)), .val (.int ((p0_1 &&& (65535 : Int32)) % (p0_0 &&& (3 : Int32)))), .val (.int ((((p0_1.toUInt32 >>> ((16 : Int32) &&& 31).toUInt32).toInt32) &&& (32767 : Int32)) % (p0_0 &&& (3 : Int32)))), .val (.int ((p0_4 &&& (7 : Int32)) - (2 : Int32))), .val (own_F9 b222 p0_3 y237 (p0_0 &&& (3 : Int32)) ((([.null, .null, .null]).set ((p0_1 &&& (65535 : Int32)) % (p0_0 &&& (3 : Int32))).toNatClampNeg (.ref b175)).set ((((p0_1.toUInt32 >>> ((16 : Int32) &&& 31).toUInt32).toInt32) &&& (32767 : Int32)) % (p0_0 &&& (3 : Int32))).toNatClampNeg (.ref b196))), .val (own_F9 b222 ((p0_4 &&& (7 : Int32)) - (2 : Int32)) y237 (p0_0 &&& (3 : Int32)) ((([.null, .null, .null]).set ((p0_1 &&& (65535 : Int32)) % (p0_0 &&& (3 : Int32))).toNatClampNeg (.ref b175)).set ((((p0_1.toUInt32 >>> ((16 : Int32) &&& 31).toUInt32).toInt32) &&& (32767 : Int32)) % (p0_0 &&& (3 : Int32))).toNatClampNeg (.ref b196)))] [(.int ((p0_1 &&& (65535 : Int32)) % (p0_0 &&& (3 : Int32)))), (.int (1 : Int32)), (.int (p0_0 &&& (3 : Int32))), (.int p0_3), (own_F9 b222 p0_3 y237 (p0_0 &&& (3 : Int32)) ((([.null, .null, .null]).set ((p0_1 &&& (65535 : Int32)) % (p0_0 &&& (3 : Int32))).toNatClampNeg (.ref b175)).set ((((p0_1.toUInt32 >>> ((16 : Int32) &&& 31).toUInt32).toInt32) &&& (32767 : Int32)) % (p0_0 &&& (3 : Int32))).toNatClampNeg (.ref b196)))])) t
        refine XS.aload X295.here hx rfl (hb hby at_184) rfl rfl ?_
        show Steps p.tables e below (T295.setTop (mkF m 186 #[.val (.int p0_0), .val (.int p0_1), .val (.int p0_2), .val (.int p0_3), .val (.int p0_4), .val (.int (p0_0 &&& (3 : Int32))), .val (.ref b147), .val (.ref b160), .val (.ref b175), .val (.ref b196), .val (.ref b222), .val (.int (1 : Int32)), .val (.int ((p0_1 &&& (65535 : Int32)) % (p0_0 &&& (3 : Int32)))), .val (.int ((((p0_1.toUInt32 >>> ((16 : Int32) &&& 31).toUInt32).toInt32) &&& (32767 : Int32)) % (p0_0 &&& (3 : Int32)))), .val (.int ((p0_4 &&& (7 : Int32)) - (2 : Int32))), .val (own_F9 b222 p0_3 y237 (p0_0 &&& (3 : Int32)) ((([.null, .null, .null]).set ((p0_1 &&& (65535 : Int32)) % (p0_0 &&& (3 : Int32))).toNatClampNeg (.ref b175)).set ((((p0_1.toUInt32 >>> ((16 : Int32) &&& 31).toUInt32).toInt32) &&& (32767 : Int32)) % (p0_0 &&& (3 : Int32))).toNatClampNeg (.ref b196))), .val (own_F9 b222 ((p0_4 &&& (7 : Int32)) - (2 : Int32)) y237 (p0_0 &&& (3 : Int32)) ((([.null, .null, .null]).set ((p0_1 &&& (65535 : Int32)) % (p0_0 &&& (3 : Int32))).toNatClampNeg (.ref b175)).set ((((p0_1.toUInt32 >>> ((16 : Int32) &&& 31).toUInt32).toInt32) &&& (32767 : Int32)) % (p0_0 &&& (3 : Int32))).toNatClampNeg (.ref b196)))] [(.ref b175), (.int ((p0_1 &&& (65535 : Int32)) % (p0_0 &&& (3 : Int32)))), (.int (1 : Int32)), (.int (p0_0 &&& (3 : Int32))), (.int p0_3), (own_F9 b222 p0_3 y237 (p0_0 &&& (3 : Int32)) ((([.null, .null, .null]).set ((p0_1 &&& (65535 : Int32)) % (p0_0 &&& (3 : Int32))).toNatClampNeg (.ref b175)).set ((((p0_1.toUInt32 >>> ((16 : Int32) &&& 31).toUInt32).toInt32) &&& (32767 : Int32)) % (p0_0 &&& (3 : Int32))).toNatClampNeg (.ref b196)))])) t
        refine XS.iload X295.here hx rfl (hb hby at_186) rfl ?_
        show Steps p.tables e below (T295.setTop (mkF m 188 #[.val (.int p0_0), .val (.int p0_1), .val (.int p0_2), .val (.int p0_3), .val (.int p0_4), .val (.int (p0_0 &&& (3 : Int32))), .val (.ref b147), .val (.ref b160), .val (.ref b175), .val (.ref b196), .val (.ref b222), .val (.int (1 : Int32)), .val (.int ((p0_1 &&& (65535 : Int32)) % (p0_0 &&& (3 : Int32)))), .val (.int ((((p0_1.toUInt32 >>> ((16 : Int32) &&& 31).toUInt32).toInt32) &&& (32767 : Int32)) % (p0_0 &&& (3 : Int32)))), .val (.int ((p0_4 &&& (7 : Int32)) - (2 : Int32))), .val (own_F9 b222 p0_3 y237 (p0_0 &&& (3 : Int32)) ((([.null, .null, .null]).set ((p0_1 &&& (65535 : Int32)) % (p0_0 &&& (3 : Int32))).toNatClampNeg (.ref b175)).set ((((p0_1.toUInt32 >>> ((16 : Int32) &&& 31).toUInt32).toInt32) &&& (32767 : Int32)) % (p0_0 &&& (3 : Int32))).toNatClampNeg (.ref b196))), .val (own_F9 b222 ((p0_4 &&& (7 : Int32)) - (2 : Int32)) y237 (p0_0 &&& (3 : Int32)) ((([.null, .null, .null]).set ((p0_1 &&& (65535 : Int32)) % (p0_0 &&& (3 : Int32))).toNatClampNeg (.ref b175)).set ((((p0_1.toUInt32 >>> ((16 : Int32) &&& 31).toUInt32).toInt32) &&& (32767 : Int32)) % (p0_0 &&& (3 : Int32))).toNatClampNeg (.ref b196)))] [(.int ((((p0_1.toUInt32 >>> ((16 : Int32) &&& 31).toUInt32).toInt32) &&& (32767 : Int32)) % (p0_0 &&& (3 : Int32)))), (.ref b175), (.int ((p0_1 &&& (65535 : Int32)) % (p0_0 &&& (3 : Int32)))), (.int (1 : Int32)), (.int (p0_0 &&& (3 : Int32))), (.int p0_3), (own_F9 b222 p0_3 y237 (p0_0 &&& (3 : Int32)) ((([.null, .null, .null]).set ((p0_1 &&& (65535 : Int32)) % (p0_0 &&& (3 : Int32))).toNatClampNeg (.ref b175)).set ((((p0_1.toUInt32 >>> ((16 : Int32) &&& 31).toUInt32).toInt32) &&& (32767 : Int32)) % (p0_0 &&& (3 : Int32))).toNatClampNeg (.ref b196)))])) t
        refine XS.aload X295.here hx rfl (hb hby at_188) rfl rfl ?_
        show Steps p.tables e below (T295.setTop (mkF m 190 #[.val (.int p0_0), .val (.int p0_1), .val (.int p0_2), .val (.int p0_3), .val (.int p0_4), .val (.int (p0_0 &&& (3 : Int32))), .val (.ref b147), .val (.ref b160), .val (.ref b175), .val (.ref b196), .val (.ref b222), .val (.int (1 : Int32)), .val (.int ((p0_1 &&& (65535 : Int32)) % (p0_0 &&& (3 : Int32)))), .val (.int ((((p0_1.toUInt32 >>> ((16 : Int32) &&& 31).toUInt32).toInt32) &&& (32767 : Int32)) % (p0_0 &&& (3 : Int32)))), .val (.int ((p0_4 &&& (7 : Int32)) - (2 : Int32))), .val (own_F9 b222 p0_3 y237 (p0_0 &&& (3 : Int32)) ((([.null, .null, .null]).set ((p0_1 &&& (65535 : Int32)) % (p0_0 &&& (3 : Int32))).toNatClampNeg (.ref b175)).set ((((p0_1.toUInt32 >>> ((16 : Int32) &&& 31).toUInt32).toInt32) &&& (32767 : Int32)) % (p0_0 &&& (3 : Int32))).toNatClampNeg (.ref b196))), .val (own_F9 b222 ((p0_4 &&& (7 : Int32)) - (2 : Int32)) y237 (p0_0 &&& (3 : Int32)) ((([.null, .null, .null]).set ((p0_1 &&& (65535 : Int32)) % (p0_0 &&& (3 : Int32))).toNatClampNeg (.ref b175)).set ((((p0_1.toUInt32 >>> ((16 : Int32) &&& 31).toUInt32).toInt32) &&& (32767 : Int32)) % (p0_0 &&& (3 : Int32))).toNatClampNeg (.ref b196)))] [(.ref b196), (.int ((((p0_1.toUInt32 >>> ((16 : Int32) &&& 31).toUInt32).toInt32) &&& (32767 : Int32)) % (p0_0 &&& (3 : Int32)))), (.ref b175), (.int ((p0_1 &&& (65535 : Int32)) % (p0_0 &&& (3 : Int32)))), (.int (1 : Int32)), (.int (p0_0 &&& (3 : Int32))), (.int p0_3), (own_F9 b222 p0_3 y237 (p0_0 &&& (3 : Int32)) ((([.null, .null, .null]).set ((p0_1 &&& (65535 : Int32)) % (p0_0 &&& (3 : Int32))).toNatClampNeg (.ref b175)).set ((((p0_1.toUInt32 >>> ((16 : Int32) &&& 31).toUInt32).toInt32) &&& (32767 : Int32)) % (p0_0 &&& (3 : Int32))).toNatClampNeg (.ref b196)))])) t
        exact k
      obtain ⟨v297, _, ⟨T297, L297, k297, n297⟩, -, X297, ⟨Lc297, hQ297, l297, y297, z297⟩, st297⟩ := Jvm.LawKit.callS X295 hx (y := (⟨"com/example/yohokit/yohokit/PartsKeyAtPinLaw", "expected", "(IIZILjava/lang/String;ILjava/lang/String;)Ljava/lang/String;"⟩ : MethodName)) hown (mvT hZ (hw _ (List.mem_of_getElem? (i := 55) rfl))) (mvT hZ (hw _ (List.mem_of_getElem? (i := 56) rfl))) (mvT hZ (hw _ (List.mem_of_getElem? (i := 57) rfl))) (mvT hZ (hw _ (List.mem_of_getElem? (i := 58) rfl))) (by decide) (backOf (W := 1) (own_rm10 l Z a0 hw [] p0_3 (p0_0 &&& (3 : Int32)) (1 : Int32) ((p0_1 &&& (65535 : Int32)) % (p0_0 &&& (3 : Int32))) b175 ((((p0_1.toUInt32 >>> ((16 : Int32) &&& 31).toUInt32).toInt32) &&& (32767 : Int32)) % (p0_0 &&& (3 : Int32))) (.ref b196) T275.heap n0 Z291 rfl) hZ (hw _ (List.mem_of_getElem? (i := 58) rfl)) (hw _ (List.mem_of_getElem? (i := 57) rfl)) (by decide) (by decide)) (g := (mkF m 190 #[.val (.int p0_0), .val (.int p0_1), .val (.int p0_2), .val (.int p0_3), .val (.int p0_4), .val (.int (p0_0 &&& (3 : Int32))), .val (.ref b147), .val (.ref b160), .val (.ref b175), .val (.ref b196), .val (.ref b222), .val (.int (1 : Int32)), .val (.int ((p0_1 &&& (65535 : Int32)) % (p0_0 &&& (3 : Int32)))), .val (.int ((((p0_1.toUInt32 >>> ((16 : Int32) &&& 31).toUInt32).toInt32) &&& (32767 : Int32)) % (p0_0 &&& (3 : Int32)))), .val (.int ((p0_4 &&& (7 : Int32)) - (2 : Int32))), .val (own_F9 b222 p0_3 y237 (p0_0 &&& (3 : Int32)) ((([.null, .null, .null]).set ((p0_1 &&& (65535 : Int32)) % (p0_0 &&& (3 : Int32))).toNatClampNeg (.ref b175)).set ((((p0_1.toUInt32 >>> ((16 : Int32) &&& 31).toUInt32).toInt32) &&& (32767 : Int32)) % (p0_0 &&& (3 : Int32))).toNatClampNeg (.ref b196))), .val (own_F9 b222 ((p0_4 &&& (7 : Int32)) - (2 : Int32)) y237 (p0_0 &&& (3 : Int32)) ((([.null, .null, .null]).set ((p0_1 &&& (65535 : Int32)) % (p0_0 &&& (3 : Int32))).toNatClampNeg (.ref b175)).set ((((p0_1.toUInt32 >>> ((16 : Int32) &&& 31).toUInt32).toInt32) &&& (32767 : Int32)) % (p0_0 &&& (3 : Int32))).toNatClampNeg (.ref b196)))] [(.ref b196), (.int ((((p0_1.toUInt32 >>> ((16 : Int32) &&& 31).toUInt32).toInt32) &&& (32767 : Int32)) % (p0_0 &&& (3 : Int32)))), (.ref b175), (.int ((p0_1 &&& (65535 : Int32)) % (p0_0 &&& (3 : Int32)))), (.int (1 : Int32)), (.int (p0_0 &&& (3 : Int32))), (.int p0_3), (own_F9 b222 p0_3 y237 (p0_0 &&& (3 : Int32)) ((([.null, .null, .null]).set ((p0_1 &&& (65535 : Int32)) % (p0_0 &&& (3 : Int32))).toNatClampNeg (.ref b175)).set ((((p0_1.toUInt32 >>> ((16 : Int32) &&& 31).toUInt32).toInt32) &&& (32767 : Int32)) % (p0_0 &&& (3 : Int32))).toNatClampNeg (.ref b196)))])) rfl (by rw [hml]; rfl) (argsL := [(.int p0_3), (.int (p0_0 &&& (3 : Int32))), (.int (1 : Int32)), (.int ((p0_1 &&& (65535 : Int32)) % (p0_0 &&& (3 : Int32)))), (.ref b175), (.int ((((p0_1.toUInt32 >>> ((16 : Int32) &&& 31).toUInt32).toInt32) &&& (32767 : Int32)) % (p0_0 &&& (3 : Int32)))), (.ref b196)]) (rest := [(own_F9 b222 p0_3 y237 (p0_0 &&& (3 : Int32)) ((([.null, .null, .null]).set ((p0_1 &&& (65535 : Int32)) % (p0_0 &&& (3 : Int32))).toNatClampNeg (.ref b175)).set ((((p0_1.toUInt32 >>> ((16 : Int32) &&& 31).toUInt32).toInt32) &&& (32767 : Int32)) % (p0_0 &&& (3 : Int32))).toNatClampNeg (.ref b196)))]) (lenOf pd__IIZILjava_lang_String_ILjava_lang_String__Ljava_lang_String_ rfl) rfl (by show 2 * 0 + _ ≤ _; (simp only [List.map_cons, List.map_nil, List.sum_cons, List.sum_nil, own_cat1 hr293]) <;> exact Nat.le_of_eq rfl) (hb hby at_190) (fun _ _ => ⟨rfl, e295, (by decide : 9 + 0 ≤ _), (by decide : 21 + 0 ≤ _)⟩)
      dsimp only [Pt.U, Pt.locs, Pt.cells, Pt.slots] at X297 l297 y297 z297 st297 hQ297
      subst y297 z297
      obtain ⟨rfl, M297, e297, hr297⟩ := hQ297
      have N298 : Fr n0 L297 := by rw [l297]; exact Fr.app N296 M297
      refine own_by (T' := T297) (g' := (mkF m 193 #[.val (.int p0_0), .val (.int p0_1), .val (.int p0_2), .val (.int p0_3), .val (.int p0_4), .val (.int (p0_0 &&& (3 : Int32))), .val (.ref b147), .val (.ref b160), .val (.ref b175), .val (.ref b196), .val (.ref b222), .val (.int (1 : Int32)), .val (.int ((p0_1 &&& (65535 : Int32)) % (p0_0 &&& (3 : Int32)))), .val (.int ((((p0_1.toUInt32 >>> ((16 : Int32) &&& 31).toUInt32).toInt32) &&& (32767 : Int32)) % (p0_0 &&& (3 : Int32)))), .val (.int ((p0_4 &&& (7 : Int32)) - (2 : Int32))), .val (own_F9 b222 p0_3 y237 (p0_0 &&& (3 : Int32)) ((([.null, .null, .null]).set ((p0_1 &&& (65535 : Int32)) % (p0_0 &&& (3 : Int32))).toNatClampNeg (.ref b175)).set ((((p0_1.toUInt32 >>> ((16 : Int32) &&& 31).toUInt32).toInt32) &&& (32767 : Int32)) % (p0_0 &&& (3 : Int32))).toNatClampNeg (.ref b196))), .val (own_F9 b222 ((p0_4 &&& (7 : Int32)) - (2 : Int32)) y237 (p0_0 &&& (3 : Int32)) ((([.null, .null, .null]).set ((p0_1 &&& (65535 : Int32)) % (p0_0 &&& (3 : Int32))).toNatClampNeg (.ref b175)).set ((((p0_1.toUInt32 >>> ((16 : Int32) &&& 31).toUInt32).toInt32) &&& (32767 : Int32)) % (p0_0 &&& (3 : Int32))).toNatClampNeg (.ref b196)))] [(own_F10 p0_3 (p0_0 &&& (3 : Int32)) (1 : Int32) ((p0_1 &&& (65535 : Int32)) % (p0_0 &&& (3 : Int32))) b175 ((((p0_1.toUInt32 >>> ((16 : Int32) &&& 31).toUInt32).toInt32) &&& (32767 : Int32)) % (p0_0 &&& (3 : Int32))) (.ref b196)), (own_F9 b222 p0_3 y237 (p0_0 &&& (3 : Int32)) ((([.null, .null, .null]).set ((p0_1 &&& (65535 : Int32)) % (p0_0 &&& (3 : Int32))).toNatClampNeg (.ref b175)).set ((((p0_1.toUInt32 >>> ((16 : Int32) &&& 31).toUInt32).toInt32) &&& (32767 : Int32)) % (p0_0 &&& (3 : Int32))).toNatClampNeg (.ref b196)))])) st297 ?_
      refine own_by (T' := T297) (g' := (mkF m 212 #[.val (.int p0_0), .val (.int p0_1), .val (.int p0_2), .val (.int p0_3), .val (.int p0_4), .val (.int (p0_0 &&& (3 : Int32))), .val (.ref b147), .val (.ref b160), .val (.ref b175), .val (.ref b196), .val (.ref b222), .val (.int (1 : Int32)), .val (.int ((p0_1 &&& (65535 : Int32)) % (p0_0 &&& (3 : Int32)))), .val (.int ((((p0_1.toUInt32 >>> ((16 : Int32) &&& 31).toUInt32).toInt32) &&& (32767 : Int32)) % (p0_0 &&& (3 : Int32)))), .val (.int ((p0_4 &&& (7 : Int32)) - (2 : Int32))), .val (own_F9 b222 p0_3 y237 (p0_0 &&& (3 : Int32)) ((([.null, .null, .null]).set ((p0_1 &&& (65535 : Int32)) % (p0_0 &&& (3 : Int32))).toNatClampNeg (.ref b175)).set ((((p0_1.toUInt32 >>> ((16 : Int32) &&& 31).toUInt32).toInt32) &&& (32767 : Int32)) % (p0_0 &&& (3 : Int32))).toNatClampNeg (.ref b196))), .val (own_F9 b222 ((p0_4 &&& (7 : Int32)) - (2 : Int32)) y237 (p0_0 &&& (3 : Int32)) ((([.null, .null, .null]).set ((p0_1 &&& (65535 : Int32)) % (p0_0 &&& (3 : Int32))).toNatClampNeg (.ref b175)).set ((((p0_1.toUInt32 >>> ((16 : Int32) &&& 31).toUInt32).toInt32) &&& (32767 : Int32)) % (p0_0 &&& (3 : Int32))).toNatClampNeg (.ref b196)))] [(.ref b196), (.int ((((p0_1.toUInt32 >>> ((16 : Int32) &&& 31).toUInt32).toInt32) &&& (32767 : Int32)) % (p0_0 &&& (3 : Int32)))), (.ref b175), (.int ((p0_1 &&& (65535 : Int32)) % (p0_0 &&& (3 : Int32)))), (.int (1 : Int32)), (.int (p0_0 &&& (3 : Int32))), (.int ((p0_4 &&& (7 : Int32)) - (2 : Int32))), (own_F9 b222 ((p0_4 &&& (7 : Int32)) - (2 : Int32)) y237 (p0_0 &&& (3 : Int32)) ((([.null, .null, .null]).set ((p0_1 &&& (65535 : Int32)) % (p0_0 &&& (3 : Int32))).toNatClampNeg (.ref b175)).set ((((p0_1.toUInt32 >>> ((16 : Int32) &&& 31).toUInt32).toInt32) &&& (32767 : Int32)) % (p0_0 &&& (3 : Int32))).toNatClampNeg (.ref b196)))])) (fun t k => ?_) ?_
      · show Steps p.tables e below (T297.setTop (mkF m 193 #[.val (.int p0_0), .val (.int p0_1), .val (.int p0_2), .val (.int p0_3), .val (.int p0_4), .val (.int (p0_0 &&& (3 : Int32))), .val (.ref b147), .val (.ref b160), .val (.ref b175), .val (.ref b196), .val (.ref b222), .val (.int (1 : Int32)), .val (.int ((p0_1 &&& (65535 : Int32)) % (p0_0 &&& (3 : Int32)))), .val (.int ((((p0_1.toUInt32 >>> ((16 : Int32) &&& 31).toUInt32).toInt32) &&& (32767 : Int32)) % (p0_0 &&& (3 : Int32)))), .val (.int ((p0_4 &&& (7 : Int32)) - (2 : Int32))), .val (own_F9 b222 p0_3 y237 (p0_0 &&& (3 : Int32)) ((([.null, .null, .null]).set ((p0_1 &&& (65535 : Int32)) % (p0_0 &&& (3 : Int32))).toNatClampNeg (.ref b175)).set ((((p0_1.toUInt32 >>> ((16 : Int32) &&& 31).toUInt32).toInt32) &&& (32767 : Int32)) % (p0_0 &&& (3 : Int32))).toNatClampNeg (.ref b196))), .val (own_F9 b222 ((p0_4 &&& (7 : Int32)) - (2 : Int32)) y237 (p0_0 &&& (3 : Int32)) ((([.null, .null, .null]).set ((p0_1 &&& (65535 : Int32)) % (p0_0 &&& (3 : Int32))).toNatClampNeg (.ref b175)).set ((((p0_1.toUInt32 >>> ((16 : Int32) &&& 31).toUInt32).toInt32) &&& (32767 : Int32)) % (p0_0 &&& (3 : Int32))).toNatClampNeg (.ref b196)))] [(own_F10 p0_3 (p0_0 &&& (3 : Int32)) (1 : Int32) ((p0_1 &&& (65535 : Int32)) % (p0_0 &&& (3 : Int32))) b175 ((((p0_1.toUInt32 >>> ((16 : Int32) &&& 31).toUInt32).toInt32) &&& (32767 : Int32)) % (p0_0 &&& (3 : Int32))) (.ref b196)), (own_F9 b222 p0_3 y237 (p0_0 &&& (3 : Int32)) ((([.null, .null, .null]).set ((p0_1 &&& (65535 : Int32)) % (p0_0 &&& (3 : Int32))).toNatClampNeg (.ref b175)).set ((((p0_1.toUInt32 >>> ((16 : Int32) &&& 31).toUInt32).toInt32) &&& (32767 : Int32)) % (p0_0 &&& (3 : Int32))).toNatClampNeg (.ref b196)))])) t
        refine Jvm.RoadKit.acmp (g := (mkF m 193 #[.val (.int p0_0), .val (.int p0_1), .val (.int p0_2), .val (.int p0_3), .val (.int p0_4), .val (.int (p0_0 &&& (3 : Int32))), .val (.ref b147), .val (.ref b160), .val (.ref b175), .val (.ref b196), .val (.ref b222), .val (.int (1 : Int32)), .val (.int ((p0_1 &&& (65535 : Int32)) % (p0_0 &&& (3 : Int32)))), .val (.int ((((p0_1.toUInt32 >>> ((16 : Int32) &&& 31).toUInt32).toInt32) &&& (32767 : Int32)) % (p0_0 &&& (3 : Int32)))), .val (.int ((p0_4 &&& (7 : Int32)) - (2 : Int32))), .val (own_F9 b222 p0_3 y237 (p0_0 &&& (3 : Int32)) ((([.null, .null, .null]).set ((p0_1 &&& (65535 : Int32)) % (p0_0 &&& (3 : Int32))).toNatClampNeg (.ref b175)).set ((((p0_1.toUInt32 >>> ((16 : Int32) &&& 31).toUInt32).toInt32) &&& (32767 : Int32)) % (p0_0 &&& (3 : Int32))).toNatClampNeg (.ref b196))), .val (own_F9 b222 ((p0_4 &&& (7 : Int32)) - (2 : Int32)) y237 (p0_0 &&& (3 : Int32)) ((([.null, .null, .null]).set ((p0_1 &&& (65535 : Int32)) % (p0_0 &&& (3 : Int32))).toNatClampNeg (.ref b175)).set ((((p0_1.toUInt32 >>> ((16 : Int32) &&& 31).toUInt32).toInt32) &&& (32767 : Int32)) % (p0_0 &&& (3 : Int32))).toNatClampNeg (.ref b196)))] [(own_F10 p0_3 (p0_0 &&& (3 : Int32)) (1 : Int32) ((p0_1 &&& (65535 : Int32)) % (p0_0 &&& (3 : Int32))) b175 ((((p0_1.toUInt32 >>> ((16 : Int32) &&& 31).toUInt32).toInt32) &&& (32767 : Int32)) % (p0_0 &&& (3 : Int32))) (.ref b196)), (own_F9 b222 p0_3 y237 (p0_0 &&& (3 : Int32)) ((([.null, .null, .null]).set ((p0_1 &&& (65535 : Int32)) % (p0_0 &&& (3 : Int32))).toNatClampNeg (.ref b175)).set ((((p0_1.toUInt32 >>> ((16 : Int32) &&& 31).toUInt32).toInt32) &&& (32767 : Int32)) % (p0_0 &&& (3 : Int32))).toNatClampNeg (.ref b196)))])) X297 hx rfl hr293 hr297 (pc0 := 193) (pc' := 196) (same := true) rfl (hb hby at_193) rfl (decide_eq_true (own_ag1 (own_n3 p0_0) (own_mod (own_and_le _ 65535 65535 (by decide) (by decide)).1 hc256) (own_mod (own_and_le _ 32767 32767 (by decide) (by decide)).1 hc256))) (by decide) (by decide) ?_
        show Steps p.tables e below (T297.setTop (mkF m 196 #[.val (.int p0_0), .val (.int p0_1), .val (.int p0_2), .val (.int p0_3), .val (.int p0_4), .val (.int (p0_0 &&& (3 : Int32))), .val (.ref b147), .val (.ref b160), .val (.ref b175), .val (.ref b196), .val (.ref b222), .val (.int (1 : Int32)), .val (.int ((p0_1 &&& (65535 : Int32)) % (p0_0 &&& (3 : Int32)))), .val (.int ((((p0_1.toUInt32 >>> ((16 : Int32) &&& 31).toUInt32).toInt32) &&& (32767 : Int32)) % (p0_0 &&& (3 : Int32)))), .val (.int ((p0_4 &&& (7 : Int32)) - (2 : Int32))), .val (own_F9 b222 p0_3 y237 (p0_0 &&& (3 : Int32)) ((([.null, .null, .null]).set ((p0_1 &&& (65535 : Int32)) % (p0_0 &&& (3 : Int32))).toNatClampNeg (.ref b175)).set ((((p0_1.toUInt32 >>> ((16 : Int32) &&& 31).toUInt32).toInt32) &&& (32767 : Int32)) % (p0_0 &&& (3 : Int32))).toNatClampNeg (.ref b196))), .val (own_F9 b222 ((p0_4 &&& (7 : Int32)) - (2 : Int32)) y237 (p0_0 &&& (3 : Int32)) ((([.null, .null, .null]).set ((p0_1 &&& (65535 : Int32)) % (p0_0 &&& (3 : Int32))).toNatClampNeg (.ref b175)).set ((((p0_1.toUInt32 >>> ((16 : Int32) &&& 31).toUInt32).toInt32) &&& (32767 : Int32)) % (p0_0 &&& (3 : Int32))).toNatClampNeg (.ref b196)))] [])) t
        refine XS.aload X297.here hx rfl (hb hby at_196) rfl hr295 ?_
        show Steps p.tables e below (T297.setTop (mkF m 198 #[.val (.int p0_0), .val (.int p0_1), .val (.int p0_2), .val (.int p0_3), .val (.int p0_4), .val (.int (p0_0 &&& (3 : Int32))), .val (.ref b147), .val (.ref b160), .val (.ref b175), .val (.ref b196), .val (.ref b222), .val (.int (1 : Int32)), .val (.int ((p0_1 &&& (65535 : Int32)) % (p0_0 &&& (3 : Int32)))), .val (.int ((((p0_1.toUInt32 >>> ((16 : Int32) &&& 31).toUInt32).toInt32) &&& (32767 : Int32)) % (p0_0 &&& (3 : Int32)))), .val (.int ((p0_4 &&& (7 : Int32)) - (2 : Int32))), .val (own_F9 b222 p0_3 y237 (p0_0 &&& (3 : Int32)) ((([.null, .null, .null]).set ((p0_1 &&& (65535 : Int32)) % (p0_0 &&& (3 : Int32))).toNatClampNeg (.ref b175)).set ((((p0_1.toUInt32 >>> ((16 : Int32) &&& 31).toUInt32).toInt32) &&& (32767 : Int32)) % (p0_0 &&& (3 : Int32))).toNatClampNeg (.ref b196))), .val (own_F9 b222 ((p0_4 &&& (7 : Int32)) - (2 : Int32)) y237 (p0_0 &&& (3 : Int32)) ((([.null, .null, .null]).set ((p0_1 &&& (65535 : Int32)) % (p0_0 &&& (3 : Int32))).toNatClampNeg (.ref b175)).set ((((p0_1.toUInt32 >>> ((16 : Int32) &&& 31).toUInt32).toInt32) &&& (32767 : Int32)) % (p0_0 &&& (3 : Int32))).toNatClampNeg (.ref b196)))] [(own_F9 b222 ((p0_4 &&& (7 : Int32)) - (2 : Int32)) y237 (p0_0 &&& (3 : Int32)) ((([.null, .null, .null]).set ((p0_1 &&& (65535 : Int32)) % (p0_0 &&& (3 : Int32))).toNatClampNeg (.ref b175)).set ((((p0_1.toUInt32 >>> ((16 : Int32) &&& 31).toUInt32).toInt32) &&& (32767 : Int32)) % (p0_0 &&& (3 : Int32))).toNatClampNeg (.ref b196)))])) t
        refine XS.iload X297.here hx rfl (hb hby at_198) rfl ?_
        show Steps p.tables e below (T297.setTop (mkF m 200 #[.val (.int p0_0), .val (.int p0_1), .val (.int p0_2), .val (.int p0_3), .val (.int p0_4), .val (.int (p0_0 &&& (3 : Int32))), .val (.ref b147), .val (.ref b160), .val (.ref b175), .val (.ref b196), .val (.ref b222), .val (.int (1 : Int32)), .val (.int ((p0_1 &&& (65535 : Int32)) % (p0_0 &&& (3 : Int32)))), .val (.int ((((p0_1.toUInt32 >>> ((16 : Int32) &&& 31).toUInt32).toInt32) &&& (32767 : Int32)) % (p0_0 &&& (3 : Int32)))), .val (.int ((p0_4 &&& (7 : Int32)) - (2 : Int32))), .val (own_F9 b222 p0_3 y237 (p0_0 &&& (3 : Int32)) ((([.null, .null, .null]).set ((p0_1 &&& (65535 : Int32)) % (p0_0 &&& (3 : Int32))).toNatClampNeg (.ref b175)).set ((((p0_1.toUInt32 >>> ((16 : Int32) &&& 31).toUInt32).toInt32) &&& (32767 : Int32)) % (p0_0 &&& (3 : Int32))).toNatClampNeg (.ref b196))), .val (own_F9 b222 ((p0_4 &&& (7 : Int32)) - (2 : Int32)) y237 (p0_0 &&& (3 : Int32)) ((([.null, .null, .null]).set ((p0_1 &&& (65535 : Int32)) % (p0_0 &&& (3 : Int32))).toNatClampNeg (.ref b175)).set ((((p0_1.toUInt32 >>> ((16 : Int32) &&& 31).toUInt32).toInt32) &&& (32767 : Int32)) % (p0_0 &&& (3 : Int32))).toNatClampNeg (.ref b196)))] [(.int ((p0_4 &&& (7 : Int32)) - (2 : Int32))), (own_F9 b222 ((p0_4 &&& (7 : Int32)) - (2 : Int32)) y237 (p0_0 &&& (3 : Int32)) ((([.null, .null, .null]).set ((p0_1 &&& (65535 : Int32)) % (p0_0 &&& (3 : Int32))).toNatClampNeg (.ref b175)).set ((((p0_1.toUInt32 >>> ((16 : Int32) &&& 31).toUInt32).toInt32) &&& (32767 : Int32)) % (p0_0 &&& (3 : Int32))).toNatClampNeg (.ref b196)))])) t
        refine XS.iload X297.here hx rfl (hb hby at_200) rfl ?_
        show Steps p.tables e below (T297.setTop (mkF m 202 #[.val (.int p0_0), .val (.int p0_1), .val (.int p0_2), .val (.int p0_3), .val (.int p0_4), .val (.int (p0_0 &&& (3 : Int32))), .val (.ref b147), .val (.ref b160), .val (.ref b175), .val (.ref b196), .val (.ref b222), .val (.int (1 : Int32)), .val (.int ((p0_1 &&& (65535 : Int32)) % (p0_0 &&& (3 : Int32)))), .val (.int ((((p0_1.toUInt32 >>> ((16 : Int32) &&& 31).toUInt32).toInt32) &&& (32767 : Int32)) % (p0_0 &&& (3 : Int32)))), .val (.int ((p0_4 &&& (7 : Int32)) - (2 : Int32))), .val (own_F9 b222 p0_3 y237 (p0_0 &&& (3 : Int32)) ((([.null, .null, .null]).set ((p0_1 &&& (65535 : Int32)) % (p0_0 &&& (3 : Int32))).toNatClampNeg (.ref b175)).set ((((p0_1.toUInt32 >>> ((16 : Int32) &&& 31).toUInt32).toInt32) &&& (32767 : Int32)) % (p0_0 &&& (3 : Int32))).toNatClampNeg (.ref b196))), .val (own_F9 b222 ((p0_4 &&& (7 : Int32)) - (2 : Int32)) y237 (p0_0 &&& (3 : Int32)) ((([.null, .null, .null]).set ((p0_1 &&& (65535 : Int32)) % (p0_0 &&& (3 : Int32))).toNatClampNeg (.ref b175)).set ((((p0_1.toUInt32 >>> ((16 : Int32) &&& 31).toUInt32).toInt32) &&& (32767 : Int32)) % (p0_0 &&& (3 : Int32))).toNatClampNeg (.ref b196)))] [(.int (p0_0 &&& (3 : Int32))), (.int ((p0_4 &&& (7 : Int32)) - (2 : Int32))), (own_F9 b222 ((p0_4 &&& (7 : Int32)) - (2 : Int32)) y237 (p0_0 &&& (3 : Int32)) ((([.null, .null, .null]).set ((p0_1 &&& (65535 : Int32)) % (p0_0 &&& (3 : Int32))).toNatClampNeg (.ref b175)).set ((((p0_1.toUInt32 >>> ((16 : Int32) &&& 31).toUInt32).toInt32) &&& (32767 : Int32)) % (p0_0 &&& (3 : Int32))).toNatClampNeg (.ref b196)))])) t
        refine XS.iload X297.here hx rfl (hb hby at_202) rfl ?_
        show Steps p.tables e below (T297.setTop (mkF m 204 #[.val (.int p0_0), .val (.int p0_1), .val (.int p0_2), .val (.int p0_3), .val (.int p0_4), .val (.int (p0_0 &&& (3 : Int32))), .val (.ref b147), .val (.ref b160), .val (.ref b175), .val (.ref b196), .val (.ref b222), .val (.int (1 : Int32)), .val (.int ((p0_1 &&& (65535 : Int32)) % (p0_0 &&& (3 : Int32)))), .val (.int ((((p0_1.toUInt32 >>> ((16 : Int32) &&& 31).toUInt32).toInt32) &&& (32767 : Int32)) % (p0_0 &&& (3 : Int32)))), .val (.int ((p0_4 &&& (7 : Int32)) - (2 : Int32))), .val (own_F9 b222 p0_3 y237 (p0_0 &&& (3 : Int32)) ((([.null, .null, .null]).set ((p0_1 &&& (65535 : Int32)) % (p0_0 &&& (3 : Int32))).toNatClampNeg (.ref b175)).set ((((p0_1.toUInt32 >>> ((16 : Int32) &&& 31).toUInt32).toInt32) &&& (32767 : Int32)) % (p0_0 &&& (3 : Int32))).toNatClampNeg (.ref b196))), .val (own_F9 b222 ((p0_4 &&& (7 : Int32)) - (2 : Int32)) y237 (p0_0 &&& (3 : Int32)) ((([.null, .null, .null]).set ((p0_1 &&& (65535 : Int32)) % (p0_0 &&& (3 : Int32))).toNatClampNeg (.ref b175)).set ((((p0_1.toUInt32 >>> ((16 : Int32) &&& 31).toUInt32).toInt32) &&& (32767 : Int32)) % (p0_0 &&& (3 : Int32))).toNatClampNeg (.ref b196)))] [(.int (1 : Int32)), (.int (p0_0 &&& (3 : Int32))), (.int ((p0_4 &&& (7 : Int32)) - (2 : Int32))), (own_F9 b222 ((p0_4 &&& (7 : Int32)) - (2 : Int32)) y237 (p0_0 &&& (3 : Int32)) ((([.null, .null, .null]).set ((p0_1 &&& (65535 : Int32)) % (p0_0 &&& (3 : Int32))).toNatClampNeg (.ref b175)).set ((((p0_1.toUInt32 >>> ((16 : Int32) &&& 31).toUInt32).toInt32) &&& (32767 : Int32)) % (p0_0 &&& (3 : Int32))).toNatClampNeg (.ref b196)))])) t
        refine XS.iload X297.here hx rfl (hb hby at_204) rfl ?_
        show Steps p.tables e below (T297.setTop (mkF m 206 #[.val (.int p0_0), .val (.int p0_1), .val (.int p0_2), .val (.int p0_3), .val (.int p0_4), .val (.int (p0_0 &&& (3 : Int32))), .val (.ref b147), .val (.ref b160), .val (.ref b175), .val (.ref b196), .val (.ref b222), .val (.int (1 : Int32)), .val (.int ((p0_1 &&& (65535 : Int32)) % (p0_0 &&& (3 : Int32)))), .val (.int ((((p0_1.toUInt32 >>> ((16 : Int32) &&& 31).toUInt32).toInt32) &&& (32767 : Int32)) % (p0_0 &&& (3 : Int32)))), .val (.int ((p0_4 &&& (7 : Int32)) - (2 : Int32))), .val (own_F9 b222 p0_3 y237 (p0_0 &&& (3 : Int32)) ((([.null, .null, .null]).set ((p0_1 &&& (65535 : Int32)) % (p0_0 &&& (3 : Int32))).toNatClampNeg (.ref b175)).set ((((p0_1.toUInt32 >>> ((16 : Int32) &&& 31).toUInt32).toInt32) &&& (32767 : Int32)) % (p0_0 &&& (3 : Int32))).toNatClampNeg (.ref b196))), .val (own_F9 b222 ((p0_4 &&& (7 : Int32)) - (2 : Int32)) y237 (p0_0 &&& (3 : Int32)) ((([.null, .null, .null]).set ((p0_1 &&& (65535 : Int32)) % (p0_0 &&& (3 : Int32))).toNatClampNeg (.ref b175)).set ((((p0_1.toUInt32 >>> ((16 : Int32) &&& 31).toUInt32).toInt32) &&& (32767 : Int32)) % (p0_0 &&& (3 : Int32))).toNatClampNeg (.ref b196)))] [(.int ((p0_1 &&& (65535 : Int32)) % (p0_0 &&& (3 : Int32)))), (.int (1 : Int32)), (.int (p0_0 &&& (3 : Int32))), (.int ((p0_4 &&& (7 : Int32)) - (2 : Int32))), (own_F9 b222 ((p0_4 &&& (7 : Int32)) - (2 : Int32)) y237 (p0_0 &&& (3 : Int32)) ((([.null, .null, .null]).set ((p0_1 &&& (65535 : Int32)) % (p0_0 &&& (3 : Int32))).toNatClampNeg (.ref b175)).set ((((p0_1.toUInt32 >>> ((16 : Int32) &&& 31).toUInt32).toInt32) &&& (32767 : Int32)) % (p0_0 &&& (3 : Int32))).toNatClampNeg (.ref b196)))])) t
        refine XS.aload X297.here hx rfl (hb hby at_206) rfl rfl ?_
        show Steps p.tables e below (T297.setTop (mkF m 208 #[.val (.int p0_0), .val (.int p0_1), .val (.int p0_2), .val (.int p0_3), .val (.int p0_4), .val (.int (p0_0 &&& (3 : Int32))), .val (.ref b147), .val (.ref b160), .val (.ref b175), .val (.ref b196), .val (.ref b222), .val (.int (1 : Int32)), .val (.int ((p0_1 &&& (65535 : Int32)) % (p0_0 &&& (3 : Int32)))), .val (.int ((((p0_1.toUInt32 >>> ((16 : Int32) &&& 31).toUInt32).toInt32) &&& (32767 : Int32)) % (p0_0 &&& (3 : Int32)))), .val (.int ((p0_4 &&& (7 : Int32)) - (2 : Int32))), .val (own_F9 b222 p0_3 y237 (p0_0 &&& (3 : Int32)) ((([.null, .null, .null]).set ((p0_1 &&& (65535 : Int32)) % (p0_0 &&& (3 : Int32))).toNatClampNeg (.ref b175)).set ((((p0_1.toUInt32 >>> ((16 : Int32) &&& 31).toUInt32).toInt32) &&& (32767 : Int32)) % (p0_0 &&& (3 : Int32))).toNatClampNeg (.ref b196))), .val (own_F9 b222 ((p0_4 &&& (7 : Int32)) - (2 : Int32)) y237 (p0_0 &&& (3 : Int32)) ((([.null, .null, .null]).set ((p0_1 &&& (65535 : Int32)) % (p0_0 &&& (3 : Int32))).toNatClampNeg (.ref b175)).set ((((p0_1.toUInt32 >>> ((16 : Int32) &&& 31).toUInt32).toInt32) &&& (32767 : Int32)) % (p0_0 &&& (3 : Int32))).toNatClampNeg (.ref b196)))] [(.ref b175), (.int ((p0_1 &&& (65535 : Int32)) % (p0_0 &&& (3 : Int32)))), (.int (1 : Int32)), (.int (p0_0 &&& (3 : Int32))), (.int ((p0_4 &&& (7 : Int32)) - (2 : Int32))), (own_F9 b222 ((p0_4 &&& (7 : Int32)) - (2 : Int32)) y237 (p0_0 &&& (3 : Int32)) ((([.null, .null, .null]).set ((p0_1 &&& (65535 : Int32)) % (p0_0 &&& (3 : Int32))).toNatClampNeg (.ref b175)).set ((((p0_1.toUInt32 >>> ((16 : Int32) &&& 31).toUInt32).toInt32) &&& (32767 : Int32)) % (p0_0 &&& (3 : Int32))).toNatClampNeg (.ref b196)))])) t
        refine XS.iload X297.here hx rfl (hb hby at_208) rfl ?_
        show Steps p.tables e below (T297.setTop (mkF m 210 #[.val (.int p0_0), .val (.int p0_1), .val (.int p0_2), .val (.int p0_3), .val (.int p0_4), .val (.int (p0_0 &&& (3 : Int32))), .val (.ref b147), .val (.ref b160), .val (.ref b175), .val (.ref b196), .val (.ref b222), .val (.int (1 : Int32)), .val (.int ((p0_1 &&& (65535 : Int32)) % (p0_0 &&& (3 : Int32)))), .val (.int ((((p0_1.toUInt32 >>> ((16 : Int32) &&& 31).toUInt32).toInt32) &&& (32767 : Int32)) % (p0_0 &&& (3 : Int32)))), .val (.int ((p0_4 &&& (7 : Int32)) - (2 : Int32))), .val (own_F9 b222 p0_3 y237 (p0_0 &&& (3 : Int32)) ((([.null, .null, .null]).set ((p0_1 &&& (65535 : Int32)) % (p0_0 &&& (3 : Int32))).toNatClampNeg (.ref b175)).set ((((p0_1.toUInt32 >>> ((16 : Int32) &&& 31).toUInt32).toInt32) &&& (32767 : Int32)) % (p0_0 &&& (3 : Int32))).toNatClampNeg (.ref b196))), .val (own_F9 b222 ((p0_4 &&& (7 : Int32)) - (2 : Int32)) y237 (p0_0 &&& (3 : Int32)) ((([.null, .null, .null]).set ((p0_1 &&& (65535 : Int32)) % (p0_0 &&& (3 : Int32))).toNatClampNeg (.ref b175)).set ((((p0_1.toUInt32 >>> ((16 : Int32) &&& 31).toUInt32).toInt32) &&& (32767 : Int32)) % (p0_0 &&& (3 : Int32))).toNatClampNeg (.ref b196)))] [(.int ((((p0_1.toUInt32 >>> ((16 : Int32) &&& 31).toUInt32).toInt32) &&& (32767 : Int32)) % (p0_0 &&& (3 : Int32)))), (.ref b175), (.int ((p0_1 &&& (65535 : Int32)) % (p0_0 &&& (3 : Int32)))), (.int (1 : Int32)), (.int (p0_0 &&& (3 : Int32))), (.int ((p0_4 &&& (7 : Int32)) - (2 : Int32))), (own_F9 b222 ((p0_4 &&& (7 : Int32)) - (2 : Int32)) y237 (p0_0 &&& (3 : Int32)) ((([.null, .null, .null]).set ((p0_1 &&& (65535 : Int32)) % (p0_0 &&& (3 : Int32))).toNatClampNeg (.ref b175)).set ((((p0_1.toUInt32 >>> ((16 : Int32) &&& 31).toUInt32).toInt32) &&& (32767 : Int32)) % (p0_0 &&& (3 : Int32))).toNatClampNeg (.ref b196)))])) t
        refine XS.aload X297.here hx rfl (hb hby at_210) rfl rfl ?_
        show Steps p.tables e below (T297.setTop (mkF m 212 #[.val (.int p0_0), .val (.int p0_1), .val (.int p0_2), .val (.int p0_3), .val (.int p0_4), .val (.int (p0_0 &&& (3 : Int32))), .val (.ref b147), .val (.ref b160), .val (.ref b175), .val (.ref b196), .val (.ref b222), .val (.int (1 : Int32)), .val (.int ((p0_1 &&& (65535 : Int32)) % (p0_0 &&& (3 : Int32)))), .val (.int ((((p0_1.toUInt32 >>> ((16 : Int32) &&& 31).toUInt32).toInt32) &&& (32767 : Int32)) % (p0_0 &&& (3 : Int32)))), .val (.int ((p0_4 &&& (7 : Int32)) - (2 : Int32))), .val (own_F9 b222 p0_3 y237 (p0_0 &&& (3 : Int32)) ((([.null, .null, .null]).set ((p0_1 &&& (65535 : Int32)) % (p0_0 &&& (3 : Int32))).toNatClampNeg (.ref b175)).set ((((p0_1.toUInt32 >>> ((16 : Int32) &&& 31).toUInt32).toInt32) &&& (32767 : Int32)) % (p0_0 &&& (3 : Int32))).toNatClampNeg (.ref b196))), .val (own_F9 b222 ((p0_4 &&& (7 : Int32)) - (2 : Int32)) y237 (p0_0 &&& (3 : Int32)) ((([.null, .null, .null]).set ((p0_1 &&& (65535 : Int32)) % (p0_0 &&& (3 : Int32))).toNatClampNeg (.ref b175)).set ((((p0_1.toUInt32 >>> ((16 : Int32) &&& 31).toUInt32).toInt32) &&& (32767 : Int32)) % (p0_0 &&& (3 : Int32))).toNatClampNeg (.ref b196)))] [(.ref b196), (.int ((((p0_1.toUInt32 >>> ((16 : Int32) &&& 31).toUInt32).toInt32) &&& (32767 : Int32)) % (p0_0 &&& (3 : Int32)))), (.ref b175), (.int ((p0_1 &&& (65535 : Int32)) % (p0_0 &&& (3 : Int32)))), (.int (1 : Int32)), (.int (p0_0 &&& (3 : Int32))), (.int ((p0_4 &&& (7 : Int32)) - (2 : Int32))), (own_F9 b222 ((p0_4 &&& (7 : Int32)) - (2 : Int32)) y237 (p0_0 &&& (3 : Int32)) ((([.null, .null, .null]).set ((p0_1 &&& (65535 : Int32)) % (p0_0 &&& (3 : Int32))).toNatClampNeg (.ref b175)).set ((((p0_1.toUInt32 >>> ((16 : Int32) &&& 31).toUInt32).toInt32) &&& (32767 : Int32)) % (p0_0 &&& (3 : Int32))).toNatClampNeg (.ref b196)))])) t
        exact k
      obtain ⟨v299, _, ⟨T299, L299, k299, n299⟩, -, X299, ⟨Lc299, hQ299, l299, y299, z299⟩, st299⟩ := Jvm.LawKit.callS X297 hx (y := (⟨"com/example/yohokit/yohokit/PartsKeyAtPinLaw", "expected", "(IIZILjava/lang/String;ILjava/lang/String;)Ljava/lang/String;"⟩ : MethodName)) hown (mvT hZ (hw _ (List.mem_of_getElem? (i := 55) rfl))) (mvT hZ (hw _ (List.mem_of_getElem? (i := 56) rfl))) (mvT hZ (hw _ (List.mem_of_getElem? (i := 57) rfl))) (mvT hZ (hw _ (List.mem_of_getElem? (i := 58) rfl))) (by decide) (backOf (W := 1) (own_rm10 l Z a0 hw [] ((p0_4 &&& (7 : Int32)) - (2 : Int32)) (p0_0 &&& (3 : Int32)) (1 : Int32) ((p0_1 &&& (65535 : Int32)) % (p0_0 &&& (3 : Int32))) b175 ((((p0_1.toUInt32 >>> ((16 : Int32) &&& 31).toUInt32).toInt32) &&& (32767 : Int32)) % (p0_0 &&& (3 : Int32))) (.ref b196) T275.heap n0 Z291 rfl) hZ (hw _ (List.mem_of_getElem? (i := 58) rfl)) (hw _ (List.mem_of_getElem? (i := 57) rfl)) (by decide) (by decide)) (g := (mkF m 212 #[.val (.int p0_0), .val (.int p0_1), .val (.int p0_2), .val (.int p0_3), .val (.int p0_4), .val (.int (p0_0 &&& (3 : Int32))), .val (.ref b147), .val (.ref b160), .val (.ref b175), .val (.ref b196), .val (.ref b222), .val (.int (1 : Int32)), .val (.int ((p0_1 &&& (65535 : Int32)) % (p0_0 &&& (3 : Int32)))), .val (.int ((((p0_1.toUInt32 >>> ((16 : Int32) &&& 31).toUInt32).toInt32) &&& (32767 : Int32)) % (p0_0 &&& (3 : Int32)))), .val (.int ((p0_4 &&& (7 : Int32)) - (2 : Int32))), .val (own_F9 b222 p0_3 y237 (p0_0 &&& (3 : Int32)) ((([.null, .null, .null]).set ((p0_1 &&& (65535 : Int32)) % (p0_0 &&& (3 : Int32))).toNatClampNeg (.ref b175)).set ((((p0_1.toUInt32 >>> ((16 : Int32) &&& 31).toUInt32).toInt32) &&& (32767 : Int32)) % (p0_0 &&& (3 : Int32))).toNatClampNeg (.ref b196))), .val (own_F9 b222 ((p0_4 &&& (7 : Int32)) - (2 : Int32)) y237 (p0_0 &&& (3 : Int32)) ((([.null, .null, .null]).set ((p0_1 &&& (65535 : Int32)) % (p0_0 &&& (3 : Int32))).toNatClampNeg (.ref b175)).set ((((p0_1.toUInt32 >>> ((16 : Int32) &&& 31).toUInt32).toInt32) &&& (32767 : Int32)) % (p0_0 &&& (3 : Int32))).toNatClampNeg (.ref b196)))] [(.ref b196), (.int ((((p0_1.toUInt32 >>> ((16 : Int32) &&& 31).toUInt32).toInt32) &&& (32767 : Int32)) % (p0_0 &&& (3 : Int32)))), (.ref b175), (.int ((p0_1 &&& (65535 : Int32)) % (p0_0 &&& (3 : Int32)))), (.int (1 : Int32)), (.int (p0_0 &&& (3 : Int32))), (.int ((p0_4 &&& (7 : Int32)) - (2 : Int32))), (own_F9 b222 ((p0_4 &&& (7 : Int32)) - (2 : Int32)) y237 (p0_0 &&& (3 : Int32)) ((([.null, .null, .null]).set ((p0_1 &&& (65535 : Int32)) % (p0_0 &&& (3 : Int32))).toNatClampNeg (.ref b175)).set ((((p0_1.toUInt32 >>> ((16 : Int32) &&& 31).toUInt32).toInt32) &&& (32767 : Int32)) % (p0_0 &&& (3 : Int32))).toNatClampNeg (.ref b196)))])) rfl (by rw [hml]; rfl) (argsL := [(.int ((p0_4 &&& (7 : Int32)) - (2 : Int32))), (.int (p0_0 &&& (3 : Int32))), (.int (1 : Int32)), (.int ((p0_1 &&& (65535 : Int32)) % (p0_0 &&& (3 : Int32)))), (.ref b175), (.int ((((p0_1.toUInt32 >>> ((16 : Int32) &&& 31).toUInt32).toInt32) &&& (32767 : Int32)) % (p0_0 &&& (3 : Int32)))), (.ref b196)]) (rest := [(own_F9 b222 ((p0_4 &&& (7 : Int32)) - (2 : Int32)) y237 (p0_0 &&& (3 : Int32)) ((([.null, .null, .null]).set ((p0_1 &&& (65535 : Int32)) % (p0_0 &&& (3 : Int32))).toNatClampNeg (.ref b175)).set ((((p0_1.toUInt32 >>> ((16 : Int32) &&& 31).toUInt32).toInt32) &&& (32767 : Int32)) % (p0_0 &&& (3 : Int32))).toNatClampNeg (.ref b196)))]) (lenOf pd__IIZILjava_lang_String_ILjava_lang_String__Ljava_lang_String_ rfl) rfl (by show 2 * 0 + _ ≤ _; (simp only [List.map_cons, List.map_nil, List.sum_cons, List.sum_nil, own_cat1 hr295]) <;> exact Nat.le_of_eq rfl) (hb hby at_212) (fun _ _ => ⟨rfl, e297, (by decide : 9 + 0 ≤ _), (by decide : 21 + 0 ≤ _)⟩)
      dsimp only [Pt.U, Pt.locs, Pt.cells, Pt.slots] at X299 l299 y299 z299 st299 hQ299
      subst y299 z299
      obtain ⟨rfl, M299, e299, hr299⟩ := hQ299
      have N300 : Fr n0 L299 := by rw [l299]; exact Fr.app N298 M299
      refine own_by (T' := T299) (g' := (mkF m 215 #[.val (.int p0_0), .val (.int p0_1), .val (.int p0_2), .val (.int p0_3), .val (.int p0_4), .val (.int (p0_0 &&& (3 : Int32))), .val (.ref b147), .val (.ref b160), .val (.ref b175), .val (.ref b196), .val (.ref b222), .val (.int (1 : Int32)), .val (.int ((p0_1 &&& (65535 : Int32)) % (p0_0 &&& (3 : Int32)))), .val (.int ((((p0_1.toUInt32 >>> ((16 : Int32) &&& 31).toUInt32).toInt32) &&& (32767 : Int32)) % (p0_0 &&& (3 : Int32)))), .val (.int ((p0_4 &&& (7 : Int32)) - (2 : Int32))), .val (own_F9 b222 p0_3 y237 (p0_0 &&& (3 : Int32)) ((([.null, .null, .null]).set ((p0_1 &&& (65535 : Int32)) % (p0_0 &&& (3 : Int32))).toNatClampNeg (.ref b175)).set ((((p0_1.toUInt32 >>> ((16 : Int32) &&& 31).toUInt32).toInt32) &&& (32767 : Int32)) % (p0_0 &&& (3 : Int32))).toNatClampNeg (.ref b196))), .val (own_F9 b222 ((p0_4 &&& (7 : Int32)) - (2 : Int32)) y237 (p0_0 &&& (3 : Int32)) ((([.null, .null, .null]).set ((p0_1 &&& (65535 : Int32)) % (p0_0 &&& (3 : Int32))).toNatClampNeg (.ref b175)).set ((((p0_1.toUInt32 >>> ((16 : Int32) &&& 31).toUInt32).toInt32) &&& (32767 : Int32)) % (p0_0 &&& (3 : Int32))).toNatClampNeg (.ref b196)))] [(own_F10 ((p0_4 &&& (7 : Int32)) - (2 : Int32)) (p0_0 &&& (3 : Int32)) (1 : Int32) ((p0_1 &&& (65535 : Int32)) % (p0_0 &&& (3 : Int32))) b175 ((((p0_1.toUInt32 >>> ((16 : Int32) &&& 31).toUInt32).toInt32) &&& (32767 : Int32)) % (p0_0 &&& (3 : Int32))) (.ref b196)), (own_F9 b222 ((p0_4 &&& (7 : Int32)) - (2 : Int32)) y237 (p0_0 &&& (3 : Int32)) ((([.null, .null, .null]).set ((p0_1 &&& (65535 : Int32)) % (p0_0 &&& (3 : Int32))).toNatClampNeg (.ref b175)).set ((((p0_1.toUInt32 >>> ((16 : Int32) &&& 31).toUInt32).toInt32) &&& (32767 : Int32)) % (p0_0 &&& (3 : Int32))).toNatClampNeg (.ref b196)))])) st299 ?_
      refine own_by (T' := T299) (g' := (mkF m 223 #[.val (.int p0_0), .val (.int p0_1), .val (.int p0_2), .val (.int p0_3), .val (.int p0_4), .val (.int (p0_0 &&& (3 : Int32))), .val (.ref b147), .val (.ref b160), .val (.ref b175), .val (.ref b196), .val (.ref b222), .val (.int (1 : Int32)), .val (.int ((p0_1 &&& (65535 : Int32)) % (p0_0 &&& (3 : Int32)))), .val (.int ((((p0_1.toUInt32 >>> ((16 : Int32) &&& 31).toUInt32).toInt32) &&& (32767 : Int32)) % (p0_0 &&& (3 : Int32)))), .val (.int ((p0_4 &&& (7 : Int32)) - (2 : Int32))), .val (own_F9 b222 p0_3 y237 (p0_0 &&& (3 : Int32)) ((([.null, .null, .null]).set ((p0_1 &&& (65535 : Int32)) % (p0_0 &&& (3 : Int32))).toNatClampNeg (.ref b175)).set ((((p0_1.toUInt32 >>> ((16 : Int32) &&& 31).toUInt32).toInt32) &&& (32767 : Int32)) % (p0_0 &&& (3 : Int32))).toNatClampNeg (.ref b196))), .val (own_F9 b222 ((p0_4 &&& (7 : Int32)) - (2 : Int32)) y237 (p0_0 &&& (3 : Int32)) ((([.null, .null, .null]).set ((p0_1 &&& (65535 : Int32)) % (p0_0 &&& (3 : Int32))).toNatClampNeg (.ref b175)).set ((((p0_1.toUInt32 >>> ((16 : Int32) &&& 31).toUInt32).toInt32) &&& (32767 : Int32)) % (p0_0 &&& (3 : Int32))).toNatClampNeg (.ref b196)))] [(.int (1 : Int32))])) (fun t k => ?_) ?_
      · show Steps p.tables e below (T299.setTop (mkF m 215 #[.val (.int p0_0), .val (.int p0_1), .val (.int p0_2), .val (.int p0_3), .val (.int p0_4), .val (.int (p0_0 &&& (3 : Int32))), .val (.ref b147), .val (.ref b160), .val (.ref b175), .val (.ref b196), .val (.ref b222), .val (.int (1 : Int32)), .val (.int ((p0_1 &&& (65535 : Int32)) % (p0_0 &&& (3 : Int32)))), .val (.int ((((p0_1.toUInt32 >>> ((16 : Int32) &&& 31).toUInt32).toInt32) &&& (32767 : Int32)) % (p0_0 &&& (3 : Int32)))), .val (.int ((p0_4 &&& (7 : Int32)) - (2 : Int32))), .val (own_F9 b222 p0_3 y237 (p0_0 &&& (3 : Int32)) ((([.null, .null, .null]).set ((p0_1 &&& (65535 : Int32)) % (p0_0 &&& (3 : Int32))).toNatClampNeg (.ref b175)).set ((((p0_1.toUInt32 >>> ((16 : Int32) &&& 31).toUInt32).toInt32) &&& (32767 : Int32)) % (p0_0 &&& (3 : Int32))).toNatClampNeg (.ref b196))), .val (own_F9 b222 ((p0_4 &&& (7 : Int32)) - (2 : Int32)) y237 (p0_0 &&& (3 : Int32)) ((([.null, .null, .null]).set ((p0_1 &&& (65535 : Int32)) % (p0_0 &&& (3 : Int32))).toNatClampNeg (.ref b175)).set ((((p0_1.toUInt32 >>> ((16 : Int32) &&& 31).toUInt32).toInt32) &&& (32767 : Int32)) % (p0_0 &&& (3 : Int32))).toNatClampNeg (.ref b196)))] [(own_F10 ((p0_4 &&& (7 : Int32)) - (2 : Int32)) (p0_0 &&& (3 : Int32)) (1 : Int32) ((p0_1 &&& (65535 : Int32)) % (p0_0 &&& (3 : Int32))) b175 ((((p0_1.toUInt32 >>> ((16 : Int32) &&& 31).toUInt32).toInt32) &&& (32767 : Int32)) % (p0_0 &&& (3 : Int32))) (.ref b196)), (own_F9 b222 ((p0_4 &&& (7 : Int32)) - (2 : Int32)) y237 (p0_0 &&& (3 : Int32)) ((([.null, .null, .null]).set ((p0_1 &&& (65535 : Int32)) % (p0_0 &&& (3 : Int32))).toNatClampNeg (.ref b175)).set ((((p0_1.toUInt32 >>> ((16 : Int32) &&& 31).toUInt32).toInt32) &&& (32767 : Int32)) % (p0_0 &&& (3 : Int32))).toNatClampNeg (.ref b196)))])) t
        refine Jvm.RoadKit.acmp (g := (mkF m 215 #[.val (.int p0_0), .val (.int p0_1), .val (.int p0_2), .val (.int p0_3), .val (.int p0_4), .val (.int (p0_0 &&& (3 : Int32))), .val (.ref b147), .val (.ref b160), .val (.ref b175), .val (.ref b196), .val (.ref b222), .val (.int (1 : Int32)), .val (.int ((p0_1 &&& (65535 : Int32)) % (p0_0 &&& (3 : Int32)))), .val (.int ((((p0_1.toUInt32 >>> ((16 : Int32) &&& 31).toUInt32).toInt32) &&& (32767 : Int32)) % (p0_0 &&& (3 : Int32)))), .val (.int ((p0_4 &&& (7 : Int32)) - (2 : Int32))), .val (own_F9 b222 p0_3 y237 (p0_0 &&& (3 : Int32)) ((([.null, .null, .null]).set ((p0_1 &&& (65535 : Int32)) % (p0_0 &&& (3 : Int32))).toNatClampNeg (.ref b175)).set ((((p0_1.toUInt32 >>> ((16 : Int32) &&& 31).toUInt32).toInt32) &&& (32767 : Int32)) % (p0_0 &&& (3 : Int32))).toNatClampNeg (.ref b196))), .val (own_F9 b222 ((p0_4 &&& (7 : Int32)) - (2 : Int32)) y237 (p0_0 &&& (3 : Int32)) ((([.null, .null, .null]).set ((p0_1 &&& (65535 : Int32)) % (p0_0 &&& (3 : Int32))).toNatClampNeg (.ref b175)).set ((((p0_1.toUInt32 >>> ((16 : Int32) &&& 31).toUInt32).toInt32) &&& (32767 : Int32)) % (p0_0 &&& (3 : Int32))).toNatClampNeg (.ref b196)))] [(own_F10 ((p0_4 &&& (7 : Int32)) - (2 : Int32)) (p0_0 &&& (3 : Int32)) (1 : Int32) ((p0_1 &&& (65535 : Int32)) % (p0_0 &&& (3 : Int32))) b175 ((((p0_1.toUInt32 >>> ((16 : Int32) &&& 31).toUInt32).toInt32) &&& (32767 : Int32)) % (p0_0 &&& (3 : Int32))) (.ref b196)), (own_F9 b222 ((p0_4 &&& (7 : Int32)) - (2 : Int32)) y237 (p0_0 &&& (3 : Int32)) ((([.null, .null, .null]).set ((p0_1 &&& (65535 : Int32)) % (p0_0 &&& (3 : Int32))).toNatClampNeg (.ref b175)).set ((((p0_1.toUInt32 >>> ((16 : Int32) &&& 31).toUInt32).toInt32) &&& (32767 : Int32)) % (p0_0 &&& (3 : Int32))).toNatClampNeg (.ref b196)))])) X299 hx rfl hr295 hr299 (pc0 := 215) (pc' := 218) (same := true) rfl (hb hby at_215) rfl (decide_eq_true (own_ag1 (own_n3 p0_0) (own_mod (own_and_le _ 65535 65535 (by decide) (by decide)).1 hc256) (own_mod (own_and_le _ 32767 32767 (by decide) (by decide)).1 hc256))) (by decide) (by decide) ?_
        show Steps p.tables e below (T299.setTop (mkF m 218 #[.val (.int p0_0), .val (.int p0_1), .val (.int p0_2), .val (.int p0_3), .val (.int p0_4), .val (.int (p0_0 &&& (3 : Int32))), .val (.ref b147), .val (.ref b160), .val (.ref b175), .val (.ref b196), .val (.ref b222), .val (.int (1 : Int32)), .val (.int ((p0_1 &&& (65535 : Int32)) % (p0_0 &&& (3 : Int32)))), .val (.int ((((p0_1.toUInt32 >>> ((16 : Int32) &&& 31).toUInt32).toInt32) &&& (32767 : Int32)) % (p0_0 &&& (3 : Int32)))), .val (.int ((p0_4 &&& (7 : Int32)) - (2 : Int32))), .val (own_F9 b222 p0_3 y237 (p0_0 &&& (3 : Int32)) ((([.null, .null, .null]).set ((p0_1 &&& (65535 : Int32)) % (p0_0 &&& (3 : Int32))).toNatClampNeg (.ref b175)).set ((((p0_1.toUInt32 >>> ((16 : Int32) &&& 31).toUInt32).toInt32) &&& (32767 : Int32)) % (p0_0 &&& (3 : Int32))).toNatClampNeg (.ref b196))), .val (own_F9 b222 ((p0_4 &&& (7 : Int32)) - (2 : Int32)) y237 (p0_0 &&& (3 : Int32)) ((([.null, .null, .null]).set ((p0_1 &&& (65535 : Int32)) % (p0_0 &&& (3 : Int32))).toNatClampNeg (.ref b175)).set ((((p0_1.toUInt32 >>> ((16 : Int32) &&& 31).toUInt32).toInt32) &&& (32767 : Int32)) % (p0_0 &&& (3 : Int32))).toNatClampNeg (.ref b196)))] [])) t
        refine XS.iconst X299.here hx rfl (hb hby at_218) ?_
        show Steps p.tables e below (T299.setTop (mkF m 219 #[.val (.int p0_0), .val (.int p0_1), .val (.int p0_2), .val (.int p0_3), .val (.int p0_4), .val (.int (p0_0 &&& (3 : Int32))), .val (.ref b147), .val (.ref b160), .val (.ref b175), .val (.ref b196), .val (.ref b222), .val (.int (1 : Int32)), .val (.int ((p0_1 &&& (65535 : Int32)) % (p0_0 &&& (3 : Int32)))), .val (.int ((((p0_1.toUInt32 >>> ((16 : Int32) &&& 31).toUInt32).toInt32) &&& (32767 : Int32)) % (p0_0 &&& (3 : Int32)))), .val (.int ((p0_4 &&& (7 : Int32)) - (2 : Int32))), .val (own_F9 b222 p0_3 y237 (p0_0 &&& (3 : Int32)) ((([.null, .null, .null]).set ((p0_1 &&& (65535 : Int32)) % (p0_0 &&& (3 : Int32))).toNatClampNeg (.ref b175)).set ((((p0_1.toUInt32 >>> ((16 : Int32) &&& 31).toUInt32).toInt32) &&& (32767 : Int32)) % (p0_0 &&& (3 : Int32))).toNatClampNeg (.ref b196))), .val (own_F9 b222 ((p0_4 &&& (7 : Int32)) - (2 : Int32)) y237 (p0_0 &&& (3 : Int32)) ((([.null, .null, .null]).set ((p0_1 &&& (65535 : Int32)) % (p0_0 &&& (3 : Int32))).toNatClampNeg (.ref b175)).set ((((p0_1.toUInt32 >>> ((16 : Int32) &&& 31).toUInt32).toInt32) &&& (32767 : Int32)) % (p0_0 &&& (3 : Int32))).toNatClampNeg (.ref b196)))] [(.int (1 : Int32))])) t
        refine XS.goto X299.here hx rfl (pc0 := 219) (pc' := 223) rfl (hb hby at_219) (by decide) (by decide) ?_
        show Steps p.tables e below (T299.setTop (mkF m 223 #[.val (.int p0_0), .val (.int p0_1), .val (.int p0_2), .val (.int p0_3), .val (.int p0_4), .val (.int (p0_0 &&& (3 : Int32))), .val (.ref b147), .val (.ref b160), .val (.ref b175), .val (.ref b196), .val (.ref b222), .val (.int (1 : Int32)), .val (.int ((p0_1 &&& (65535 : Int32)) % (p0_0 &&& (3 : Int32)))), .val (.int ((((p0_1.toUInt32 >>> ((16 : Int32) &&& 31).toUInt32).toInt32) &&& (32767 : Int32)) % (p0_0 &&& (3 : Int32)))), .val (.int ((p0_4 &&& (7 : Int32)) - (2 : Int32))), .val (own_F9 b222 p0_3 y237 (p0_0 &&& (3 : Int32)) ((([.null, .null, .null]).set ((p0_1 &&& (65535 : Int32)) % (p0_0 &&& (3 : Int32))).toNatClampNeg (.ref b175)).set ((((p0_1.toUInt32 >>> ((16 : Int32) &&& 31).toUInt32).toInt32) &&& (32767 : Int32)) % (p0_0 &&& (3 : Int32))).toNatClampNeg (.ref b196))), .val (own_F9 b222 ((p0_4 &&& (7 : Int32)) - (2 : Int32)) y237 (p0_0 &&& (3 : Int32)) ((([.null, .null, .null]).set ((p0_1 &&& (65535 : Int32)) % (p0_0 &&& (3 : Int32))).toNatClampNeg (.ref b175)).set ((((p0_1.toUInt32 >>> ((16 : Int32) &&& 31).toUInt32).toInt32) &&& (32767 : Int32)) % (p0_0 &&& (3 : Int32))).toNatClampNeg (.ref b196)))] [(.int (1 : Int32))])) t
        exact k
      exact own_retN X299 hx (t := .boolean) Bd.returns (by simp) (hb hby at_223) hlk (by decide) (by decide) ⟨rfl, N300⟩
    · skip
      refine own_by (T' := T237) (g' := (mkF m 161 #[.val (.int p0_0), .val (.int p0_1), .val (.int p0_2), .val (.int p0_3), .val (.int p0_4), .val (.int (p0_0 &&& (3 : Int32))), .val (.ref b147), .val (.ref b160), .val (.ref b175), .val (.ref b196), .val (.ref b222), .val (.int (0 : Int32)), .val (.int (0 : Int32)), .val (.int (0 : Int32)), .val (.int ((p0_4 &&& (7 : Int32)) - (2 : Int32))), .unset, .unset] [(.int p0_3), (.ref b222)])) (fun t k => ?_) ?_
      · show Steps p.tables e below (T237.setTop (mkF m 85 #[.val (.int p0_0), .val (.int p0_1), .val (.int p0_2), .val (.int p0_3), .val (.int p0_4), .val (.int (p0_0 &&& (3 : Int32))), .val (.ref b147), .val (.ref b160), .val (.ref b175), .val (.ref b196), .val (.ref b222), .unset, .unset, .unset, .unset, .unset, .unset] [(.int (p0_0 &&& (3 : Int32)))])) t
        refine XS.ifYes X237.here hx rfl (pc0 := 85) (pc' := 92) rfl (hb hby at_85) rfl ((if0 _ _).trans (flt hc256).2.2.2) (by decide) (by decide) ?_
        show Steps p.tables e below (T237.setTop (mkF m 92 #[.val (.int p0_0), .val (.int p0_1), .val (.int p0_2), .val (.int p0_3), .val (.int p0_4), .val (.int (p0_0 &&& (3 : Int32))), .val (.ref b147), .val (.ref b160), .val (.ref b175), .val (.ref b196), .val (.ref b222), .unset, .unset, .unset, .unset, .unset, .unset] [])) t
        refine XS.iconst X237.here hx rfl (hb hby at_92) ?_
        show Steps p.tables e below (T237.setTop (mkF m 93 #[.val (.int p0_0), .val (.int p0_1), .val (.int p0_2), .val (.int p0_3), .val (.int p0_4), .val (.int (p0_0 &&& (3 : Int32))), .val (.ref b147), .val (.ref b160), .val (.ref b175), .val (.ref b196), .val (.ref b222), .unset, .unset, .unset, .unset, .unset, .unset] [(.int (0 : Int32))])) t
        refine XS.istore X237.here hx rfl (hb hby at_93) rfl (l' := #[.val (.int p0_0), .val (.int p0_1), .val (.int p0_2), .val (.int p0_3), .val (.int p0_4), .val (.int (p0_0 &&& (3 : Int32))), .val (.ref b147), .val (.ref b160), .val (.ref b175), .val (.ref b196), .val (.ref b222), .val (.int (0 : Int32)), .unset, .unset, .unset, .unset, .unset]) rfl ?_
        show Steps p.tables e below (T237.setTop (mkF m 95 #[.val (.int p0_0), .val (.int p0_1), .val (.int p0_2), .val (.int p0_3), .val (.int p0_4), .val (.int (p0_0 &&& (3 : Int32))), .val (.ref b147), .val (.ref b160), .val (.ref b175), .val (.ref b196), .val (.ref b222), .val (.int (0 : Int32)), .unset, .unset, .unset, .unset, .unset] [])) t
        refine XS.iconst X237.here hx rfl (hb hby at_95) ?_
        show Steps p.tables e below (T237.setTop (mkF m 96 #[.val (.int p0_0), .val (.int p0_1), .val (.int p0_2), .val (.int p0_3), .val (.int p0_4), .val (.int (p0_0 &&& (3 : Int32))), .val (.ref b147), .val (.ref b160), .val (.ref b175), .val (.ref b196), .val (.ref b222), .val (.int (0 : Int32)), .unset, .unset, .unset, .unset, .unset] [(.int (0 : Int32))])) t
        refine XS.istore X237.here hx rfl (hb hby at_96) rfl (l' := #[.val (.int p0_0), .val (.int p0_1), .val (.int p0_2), .val (.int p0_3), .val (.int p0_4), .val (.int (p0_0 &&& (3 : Int32))), .val (.ref b147), .val (.ref b160), .val (.ref b175), .val (.ref b196), .val (.ref b222), .val (.int (0 : Int32)), .val (.int (0 : Int32)), .unset, .unset, .unset, .unset]) rfl ?_
        show Steps p.tables e below (T237.setTop (mkF m 98 #[.val (.int p0_0), .val (.int p0_1), .val (.int p0_2), .val (.int p0_3), .val (.int p0_4), .val (.int (p0_0 &&& (3 : Int32))), .val (.ref b147), .val (.ref b160), .val (.ref b175), .val (.ref b196), .val (.ref b222), .val (.int (0 : Int32)), .val (.int (0 : Int32)), .unset, .unset, .unset, .unset] [])) t
        refine XS.iconst X237.here hx rfl (hb hby at_98) ?_
        show Steps p.tables e below (T237.setTop (mkF m 99 #[.val (.int p0_0), .val (.int p0_1), .val (.int p0_2), .val (.int p0_3), .val (.int p0_4), .val (.int (p0_0 &&& (3 : Int32))), .val (.ref b147), .val (.ref b160), .val (.ref b175), .val (.ref b196), .val (.ref b222), .val (.int (0 : Int32)), .val (.int (0 : Int32)), .unset, .unset, .unset, .unset] [(.int (0 : Int32))])) t
        refine XS.istore X237.here hx rfl (hb hby at_99) rfl (l' := #[.val (.int p0_0), .val (.int p0_1), .val (.int p0_2), .val (.int p0_3), .val (.int p0_4), .val (.int (p0_0 &&& (3 : Int32))), .val (.ref b147), .val (.ref b160), .val (.ref b175), .val (.ref b196), .val (.ref b222), .val (.int (0 : Int32)), .val (.int (0 : Int32)), .val (.int (0 : Int32)), .unset, .unset, .unset]) rfl ?_
        show Steps p.tables e below (T237.setTop (mkF m 101 #[.val (.int p0_0), .val (.int p0_1), .val (.int p0_2), .val (.int p0_3), .val (.int p0_4), .val (.int (p0_0 &&& (3 : Int32))), .val (.ref b147), .val (.ref b160), .val (.ref b175), .val (.ref b196), .val (.ref b222), .val (.int (0 : Int32)), .val (.int (0 : Int32)), .val (.int (0 : Int32)), .unset, .unset, .unset] [])) t
        refine XS.iload X237.here hx rfl (hb hby at_101) rfl ?_
        show Steps p.tables e below (T237.setTop (mkF m 103 #[.val (.int p0_0), .val (.int p0_1), .val (.int p0_2), .val (.int p0_3), .val (.int p0_4), .val (.int (p0_0 &&& (3 : Int32))), .val (.ref b147), .val (.ref b160), .val (.ref b175), .val (.ref b196), .val (.ref b222), .val (.int (0 : Int32)), .val (.int (0 : Int32)), .val (.int (0 : Int32)), .unset, .unset, .unset] [(.int (0 : Int32))])) t
        refine XS.ifYes X237.here hx rfl (pc0 := 103) (pc' := 149) rfl (hb hby at_103) rfl ((if0 _ _).trans (teq (by decide : (0 : Int32) = (0 : Int32))).1) (by decide) (by decide) ?_
        show Steps p.tables e below (T237.setTop (mkF m 149 #[.val (.int p0_0), .val (.int p0_1), .val (.int p0_2), .val (.int p0_3), .val (.int p0_4), .val (.int (p0_0 &&& (3 : Int32))), .val (.ref b147), .val (.ref b160), .val (.ref b175), .val (.ref b196), .val (.ref b222), .val (.int (0 : Int32)), .val (.int (0 : Int32)), .val (.int (0 : Int32)), .unset, .unset, .unset] [])) t
        refine XS.iload X237.here hx rfl (hb hby at_149) rfl ?_
        show Steps p.tables e below (T237.setTop (mkF m 151 #[.val (.int p0_0), .val (.int p0_1), .val (.int p0_2), .val (.int p0_3), .val (.int p0_4), .val (.int (p0_0 &&& (3 : Int32))), .val (.ref b147), .val (.ref b160), .val (.ref b175), .val (.ref b196), .val (.ref b222), .val (.int (0 : Int32)), .val (.int (0 : Int32)), .val (.int (0 : Int32)), .unset, .unset, .unset] [(.int p0_4)])) t
        refine XS.bipush X237.here hx rfl (hb hby at_151) ?_
        show Steps p.tables e below (T237.setTop (mkF m 153 #[.val (.int p0_0), .val (.int p0_1), .val (.int p0_2), .val (.int p0_3), .val (.int p0_4), .val (.int (p0_0 &&& (3 : Int32))), .val (.ref b147), .val (.ref b160), .val (.ref b175), .val (.ref b196), .val (.ref b222), .val (.int (0 : Int32)), .val (.int (0 : Int32)), .val (.int (0 : Int32)), .unset, .unset, .unset] [(.int (7 : Int32)), (.int p0_4)])) t
        refine XS.iand X237.here hx rfl (hb hby at_153) rfl ?_
        show Steps p.tables e below (T237.setTop (mkF m 154 #[.val (.int p0_0), .val (.int p0_1), .val (.int p0_2), .val (.int p0_3), .val (.int p0_4), .val (.int (p0_0 &&& (3 : Int32))), .val (.ref b147), .val (.ref b160), .val (.ref b175), .val (.ref b196), .val (.ref b222), .val (.int (0 : Int32)), .val (.int (0 : Int32)), .val (.int (0 : Int32)), .unset, .unset, .unset] [(.int (p0_4 &&& (7 : Int32)))])) t
        refine XS.iconst X237.here hx rfl (hb hby at_154) ?_
        show Steps p.tables e below (T237.setTop (mkF m 155 #[.val (.int p0_0), .val (.int p0_1), .val (.int p0_2), .val (.int p0_3), .val (.int p0_4), .val (.int (p0_0 &&& (3 : Int32))), .val (.ref b147), .val (.ref b160), .val (.ref b175), .val (.ref b196), .val (.ref b222), .val (.int (0 : Int32)), .val (.int (0 : Int32)), .val (.int (0 : Int32)), .unset, .unset, .unset] [(.int (2 : Int32)), (.int (p0_4 &&& (7 : Int32)))])) t
        refine XS.isub X237.here hx rfl (hb hby at_155) rfl ?_
        show Steps p.tables e below (T237.setTop (mkF m 156 #[.val (.int p0_0), .val (.int p0_1), .val (.int p0_2), .val (.int p0_3), .val (.int p0_4), .val (.int (p0_0 &&& (3 : Int32))), .val (.ref b147), .val (.ref b160), .val (.ref b175), .val (.ref b196), .val (.ref b222), .val (.int (0 : Int32)), .val (.int (0 : Int32)), .val (.int (0 : Int32)), .unset, .unset, .unset] [(.int ((p0_4 &&& (7 : Int32)) - (2 : Int32)))])) t
        refine XS.istore X237.here hx rfl (hb hby at_156) rfl (l' := #[.val (.int p0_0), .val (.int p0_1), .val (.int p0_2), .val (.int p0_3), .val (.int p0_4), .val (.int (p0_0 &&& (3 : Int32))), .val (.ref b147), .val (.ref b160), .val (.ref b175), .val (.ref b196), .val (.ref b222), .val (.int (0 : Int32)), .val (.int (0 : Int32)), .val (.int (0 : Int32)), .val (.int ((p0_4 &&& (7 : Int32)) - (2 : Int32))), .unset, .unset]) rfl ?_
        show Steps p.tables e below (T237.setTop (mkF m 158 #[.val (.int p0_0), .val (.int p0_1), .val (.int p0_2), .val (.int p0_3), .val (.int p0_4), .val (.int (p0_0 &&& (3 : Int32))), .val (.ref b147), .val (.ref b160), .val (.ref b175), .val (.ref b196), .val (.ref b222), .val (.int (0 : Int32)), .val (.int (0 : Int32)), .val (.int (0 : Int32)), .val (.int ((p0_4 &&& (7 : Int32)) - (2 : Int32))), .unset, .unset] [])) t
        refine XS.aload X237.here hx rfl (hb hby at_158) rfl rfl ?_
        show Steps p.tables e below (T237.setTop (mkF m 160 #[.val (.int p0_0), .val (.int p0_1), .val (.int p0_2), .val (.int p0_3), .val (.int p0_4), .val (.int (p0_0 &&& (3 : Int32))), .val (.ref b147), .val (.ref b160), .val (.ref b175), .val (.ref b196), .val (.ref b222), .val (.int (0 : Int32)), .val (.int (0 : Int32)), .val (.int (0 : Int32)), .val (.int ((p0_4 &&& (7 : Int32)) - (2 : Int32))), .unset, .unset] [(.ref b222)])) t
        refine XS.iloadN X237.here hx rfl (hb hby at_160) rfl ?_
        show Steps p.tables e below (T237.setTop (mkF m 161 #[.val (.int p0_0), .val (.int p0_1), .val (.int p0_2), .val (.int p0_3), .val (.int p0_4), .val (.int (p0_0 &&& (3 : Int32))), .val (.ref b147), .val (.ref b160), .val (.ref b175), .val (.ref b196), .val (.ref b222), .val (.int (0 : Int32)), .val (.int (0 : Int32)), .val (.int (0 : Int32)), .val (.int ((p0_4 &&& (7 : Int32)) - (2 : Int32))), .unset, .unset] [(.int p0_3), (.ref b222)])) t
        exact k
      obtain ⟨cq301, kq301, q301a, q301b, q301c⟩ := isOf hZ rfl f238
      obtain ⟨v301, _, ⟨T301, L301, k301, n301⟩, -, X301, ⟨Lc301, hQ301, l301, y301, z301⟩, st301⟩ := X237.virtualBack hx (y := (⟨"com/example/yohokit/yohokit/Parts", "keyAt", "(I)Ljava/lang/String;"⟩ : MethodName)) (z := (⟨"com/example/yohokit/yohokit/Parts", "keyAt", "(I)Ljava/lang/String;"⟩ : MethodName)) hown (mvT hZ (hw _ (List.mem_of_getElem? (i := 50) rfl))) (mvT hZ (hw _ (List.mem_of_getElem? (i := 51) rfl))) (notFace_of_selects (args := #[]) (mvT hZ (hw _ (List.mem_of_getElem? (i := 53) rfl)))) (mvT hZ (hw _ (List.mem_of_getElem? (i := 53) rfl))) (mvT hZ (hw _ (List.mem_of_getElem? (i := 52) rfl))) (by decide) (backOf (W := 0) (own_rm9 l Z a0 hw [] b222 p0_3 y237 (p0_0 &&& (3 : Int32)) ([.null, .null, .null]) T237.heap n0 Z254 f242 f240) hZ (hw _ (List.mem_of_getElem? (i := 54) rfl)) (hw _ (List.mem_of_getElem? (i := 32) rfl)) (by decide) (by decide)) q301a q301c (g := (mkF m 161 #[.val (.int p0_0), .val (.int p0_1), .val (.int p0_2), .val (.int p0_3), .val (.int p0_4), .val (.int (p0_0 &&& (3 : Int32))), .val (.ref b147), .val (.ref b160), .val (.ref b175), .val (.ref b196), .val (.ref b222), .val (.int (0 : Int32)), .val (.int (0 : Int32)), .val (.int (0 : Int32)), .val (.int ((p0_4 &&& (7 : Int32)) - (2 : Int32))), .unset, .unset] [(.int p0_3), (.ref b222)])) rfl (by rw [hml]; rfl) (Steps.refl _) (argsL := [(.int p0_3)]) (rest := []) (lenOf pd__I_Ljava_lang_String_ rfl) rfl (by show 2 * 0 + _ ≤ _; exact Nat.le_of_eq rfl) (hb hby at_161) (fun _ _ => ⟨rfl, rfl, (by decide : 9 + 0 ≤ _), (by decide : 21 + 0 ≤ _)⟩)
      dsimp only [Pt.U, Pt.locs, Pt.cells, Pt.slots] at X301 l301 y301 z301 st301 hQ301
      subst y301 z301
      obtain ⟨rfl, M301, e301, hr301⟩ := hQ301
      have N302 : Fr n0 L301 := by rw [l301]; exact Fr.app N255 M301
      refine own_via (T' := T301) (g' := (mkF m 164 #[.val (.int p0_0), .val (.int p0_1), .val (.int p0_2), .val (.int p0_3), .val (.int p0_4), .val (.int (p0_0 &&& (3 : Int32))), .val (.ref b147), .val (.ref b160), .val (.ref b175), .val (.ref b196), .val (.ref b222), .val (.int (0 : Int32)), .val (.int (0 : Int32)), .val (.int (0 : Int32)), .val (.int ((p0_4 &&& (7 : Int32)) - (2 : Int32))), .unset, .unset] [(own_F9 b222 p0_3 y237 (p0_0 &&& (3 : Int32)) ([.null, .null, .null]))])) st301 ?_
      refine own_by (T' := T301) (g' := (mkF m 170 #[.val (.int p0_0), .val (.int p0_1), .val (.int p0_2), .val (.int p0_3), .val (.int p0_4), .val (.int (p0_0 &&& (3 : Int32))), .val (.ref b147), .val (.ref b160), .val (.ref b175), .val (.ref b196), .val (.ref b222), .val (.int (0 : Int32)), .val (.int (0 : Int32)), .val (.int (0 : Int32)), .val (.int ((p0_4 &&& (7 : Int32)) - (2 : Int32))), .val (own_F9 b222 p0_3 y237 (p0_0 &&& (3 : Int32)) ([.null, .null, .null])), .unset] [(.int ((p0_4 &&& (7 : Int32)) - (2 : Int32))), (.ref b222)])) (fun t k => ?_) ?_
      · show Steps p.tables e below (T301.setTop (mkF m 164 #[.val (.int p0_0), .val (.int p0_1), .val (.int p0_2), .val (.int p0_3), .val (.int p0_4), .val (.int (p0_0 &&& (3 : Int32))), .val (.ref b147), .val (.ref b160), .val (.ref b175), .val (.ref b196), .val (.ref b222), .val (.int (0 : Int32)), .val (.int (0 : Int32)), .val (.int (0 : Int32)), .val (.int ((p0_4 &&& (7 : Int32)) - (2 : Int32))), .unset, .unset] [(own_F9 b222 p0_3 y237 (p0_0 &&& (3 : Int32)) ([.null, .null, .null]))])) t
        refine XS.astore X301.here hx rfl (hb hby at_164) rfl hr301 (l' := #[.val (.int p0_0), .val (.int p0_1), .val (.int p0_2), .val (.int p0_3), .val (.int p0_4), .val (.int (p0_0 &&& (3 : Int32))), .val (.ref b147), .val (.ref b160), .val (.ref b175), .val (.ref b196), .val (.ref b222), .val (.int (0 : Int32)), .val (.int (0 : Int32)), .val (.int (0 : Int32)), .val (.int ((p0_4 &&& (7 : Int32)) - (2 : Int32))), .val (own_F9 b222 p0_3 y237 (p0_0 &&& (3 : Int32)) ([.null, .null, .null])), .unset]) (XS.store1 (o := .unset) rfl (Or.inl rfl) (own_cat1 hr301)) ?_
        show Steps p.tables e below (T301.setTop (mkF m 166 #[.val (.int p0_0), .val (.int p0_1), .val (.int p0_2), .val (.int p0_3), .val (.int p0_4), .val (.int (p0_0 &&& (3 : Int32))), .val (.ref b147), .val (.ref b160), .val (.ref b175), .val (.ref b196), .val (.ref b222), .val (.int (0 : Int32)), .val (.int (0 : Int32)), .val (.int (0 : Int32)), .val (.int ((p0_4 &&& (7 : Int32)) - (2 : Int32))), .val (own_F9 b222 p0_3 y237 (p0_0 &&& (3 : Int32)) ([.null, .null, .null])), .unset] [])) t
        refine XS.aload X301.here hx rfl (hb hby at_166) rfl rfl ?_
        show Steps p.tables e below (T301.setTop (mkF m 168 #[.val (.int p0_0), .val (.int p0_1), .val (.int p0_2), .val (.int p0_3), .val (.int p0_4), .val (.int (p0_0 &&& (3 : Int32))), .val (.ref b147), .val (.ref b160), .val (.ref b175), .val (.ref b196), .val (.ref b222), .val (.int (0 : Int32)), .val (.int (0 : Int32)), .val (.int (0 : Int32)), .val (.int ((p0_4 &&& (7 : Int32)) - (2 : Int32))), .val (own_F9 b222 p0_3 y237 (p0_0 &&& (3 : Int32)) ([.null, .null, .null])), .unset] [(.ref b222)])) t
        refine XS.iload X301.here hx rfl (hb hby at_168) rfl ?_
        show Steps p.tables e below (T301.setTop (mkF m 170 #[.val (.int p0_0), .val (.int p0_1), .val (.int p0_2), .val (.int p0_3), .val (.int p0_4), .val (.int (p0_0 &&& (3 : Int32))), .val (.ref b147), .val (.ref b160), .val (.ref b175), .val (.ref b196), .val (.ref b222), .val (.int (0 : Int32)), .val (.int (0 : Int32)), .val (.int (0 : Int32)), .val (.int ((p0_4 &&& (7 : Int32)) - (2 : Int32))), .val (own_F9 b222 p0_3 y237 (p0_0 &&& (3 : Int32)) ([.null, .null, .null])), .unset] [(.int ((p0_4 &&& (7 : Int32)) - (2 : Int32))), (.ref b222)])) t
        exact k
      obtain ⟨cq303, kq303, q303a, q303b, q303c⟩ := isOf hZ e301 f238
      obtain ⟨v303, _, ⟨T303, L303, k303, n303⟩, -, X303, ⟨Lc303, hQ303, l303, y303, z303⟩, st303⟩ := X301.virtualBack hx (y := (⟨"com/example/yohokit/yohokit/Parts", "keyAt", "(I)Ljava/lang/String;"⟩ : MethodName)) (z := (⟨"com/example/yohokit/yohokit/Parts", "keyAt", "(I)Ljava/lang/String;"⟩ : MethodName)) hown (mvT hZ (hw _ (List.mem_of_getElem? (i := 50) rfl))) (mvT hZ (hw _ (List.mem_of_getElem? (i := 51) rfl))) (notFace_of_selects (args := #[]) (mvT hZ (hw _ (List.mem_of_getElem? (i := 53) rfl)))) (mvT hZ (hw _ (List.mem_of_getElem? (i := 53) rfl))) (mvT hZ (hw _ (List.mem_of_getElem? (i := 52) rfl))) (by decide) (backOf (W := 0) (own_rm9 l Z a0 hw [] b222 ((p0_4 &&& (7 : Int32)) - (2 : Int32)) y237 (p0_0 &&& (3 : Int32)) ([.null, .null, .null]) T237.heap n0 Z254 f242 f240) hZ (hw _ (List.mem_of_getElem? (i := 54) rfl)) (hw _ (List.mem_of_getElem? (i := 32) rfl)) (by decide) (by decide)) q303a q303c (g := (mkF m 170 #[.val (.int p0_0), .val (.int p0_1), .val (.int p0_2), .val (.int p0_3), .val (.int p0_4), .val (.int (p0_0 &&& (3 : Int32))), .val (.ref b147), .val (.ref b160), .val (.ref b175), .val (.ref b196), .val (.ref b222), .val (.int (0 : Int32)), .val (.int (0 : Int32)), .val (.int (0 : Int32)), .val (.int ((p0_4 &&& (7 : Int32)) - (2 : Int32))), .val (own_F9 b222 p0_3 y237 (p0_0 &&& (3 : Int32)) ([.null, .null, .null])), .unset] [(.int ((p0_4 &&& (7 : Int32)) - (2 : Int32))), (.ref b222)])) rfl (by rw [hml]; rfl) (Steps.refl _) (argsL := [(.int ((p0_4 &&& (7 : Int32)) - (2 : Int32)))]) (rest := []) (lenOf pd__I_Ljava_lang_String_ rfl) rfl (by show 2 * 0 + _ ≤ _; exact Nat.le_of_eq rfl) (hb hby at_170) (fun _ _ => ⟨rfl, e301, (by decide : 9 + 0 ≤ _), (by decide : 21 + 0 ≤ _)⟩)
      dsimp only [Pt.U, Pt.locs, Pt.cells, Pt.slots] at X303 l303 y303 z303 st303 hQ303
      subst y303 z303
      obtain ⟨rfl, M303, e303, hr303⟩ := hQ303
      have N304 : Fr n0 L303 := by rw [l303]; exact Fr.app N302 M303
      refine own_via (T' := T303) (g' := (mkF m 173 #[.val (.int p0_0), .val (.int p0_1), .val (.int p0_2), .val (.int p0_3), .val (.int p0_4), .val (.int (p0_0 &&& (3 : Int32))), .val (.ref b147), .val (.ref b160), .val (.ref b175), .val (.ref b196), .val (.ref b222), .val (.int (0 : Int32)), .val (.int (0 : Int32)), .val (.int (0 : Int32)), .val (.int ((p0_4 &&& (7 : Int32)) - (2 : Int32))), .val (own_F9 b222 p0_3 y237 (p0_0 &&& (3 : Int32)) ([.null, .null, .null])), .unset] [(own_F9 b222 ((p0_4 &&& (7 : Int32)) - (2 : Int32)) y237 (p0_0 &&& (3 : Int32)) ([.null, .null, .null]))])) st303 ?_
      refine own_by (T' := T303) (g' := (mkF m 190 #[.val (.int p0_0), .val (.int p0_1), .val (.int p0_2), .val (.int p0_3), .val (.int p0_4), .val (.int (p0_0 &&& (3 : Int32))), .val (.ref b147), .val (.ref b160), .val (.ref b175), .val (.ref b196), .val (.ref b222), .val (.int (0 : Int32)), .val (.int (0 : Int32)), .val (.int (0 : Int32)), .val (.int ((p0_4 &&& (7 : Int32)) - (2 : Int32))), .val (own_F9 b222 p0_3 y237 (p0_0 &&& (3 : Int32)) ([.null, .null, .null])), .val (own_F9 b222 ((p0_4 &&& (7 : Int32)) - (2 : Int32)) y237 (p0_0 &&& (3 : Int32)) ([.null, .null, .null]))] [(.ref b196), (.int (0 : Int32)), (.ref b175), (.int (0 : Int32)), (.int (0 : Int32)), (.int (p0_0 &&& (3 : Int32))), (.int p0_3), (own_F9 b222 p0_3 y237 (p0_0 &&& (3 : Int32)) ([.null, .null, .null]))])) (fun t k => ?_) ?_
      · show Steps p.tables e below (T303.setTop (mkF m 173 #[.val (.int p0_0), .val (.int p0_1), .val (.int p0_2), .val (.int p0_3), .val (.int p0_4), .val (.int (p0_0 &&& (3 : Int32))), .val (.ref b147), .val (.ref b160), .val (.ref b175), .val (.ref b196), .val (.ref b222), .val (.int (0 : Int32)), .val (.int (0 : Int32)), .val (.int (0 : Int32)), .val (.int ((p0_4 &&& (7 : Int32)) - (2 : Int32))), .val (own_F9 b222 p0_3 y237 (p0_0 &&& (3 : Int32)) ([.null, .null, .null])), .unset] [(own_F9 b222 ((p0_4 &&& (7 : Int32)) - (2 : Int32)) y237 (p0_0 &&& (3 : Int32)) ([.null, .null, .null]))])) t
        refine XS.astore X303.here hx rfl (hb hby at_173) rfl hr303 (l' := #[.val (.int p0_0), .val (.int p0_1), .val (.int p0_2), .val (.int p0_3), .val (.int p0_4), .val (.int (p0_0 &&& (3 : Int32))), .val (.ref b147), .val (.ref b160), .val (.ref b175), .val (.ref b196), .val (.ref b222), .val (.int (0 : Int32)), .val (.int (0 : Int32)), .val (.int (0 : Int32)), .val (.int ((p0_4 &&& (7 : Int32)) - (2 : Int32))), .val (own_F9 b222 p0_3 y237 (p0_0 &&& (3 : Int32)) ([.null, .null, .null])), .val (own_F9 b222 ((p0_4 &&& (7 : Int32)) - (2 : Int32)) y237 (p0_0 &&& (3 : Int32)) ([.null, .null, .null]))]) (XS.store1 (o := .unset) rfl (Or.inl rfl) (own_cat1 hr303)) ?_
        show Steps p.tables e below (T303.setTop (mkF m 175 #[.val (.int p0_0), .val (.int p0_1), .val (.int p0_2), .val (.int p0_3), .val (.int p0_4), .val (.int (p0_0 &&& (3 : Int32))), .val (.ref b147), .val (.ref b160), .val (.ref b175), .val (.ref b196), .val (.ref b222), .val (.int (0 : Int32)), .val (.int (0 : Int32)), .val (.int (0 : Int32)), .val (.int ((p0_4 &&& (7 : Int32)) - (2 : Int32))), .val (own_F9 b222 p0_3 y237 (p0_0 &&& (3 : Int32)) ([.null, .null, .null])), .val (own_F9 b222 ((p0_4 &&& (7 : Int32)) - (2 : Int32)) y237 (p0_0 &&& (3 : Int32)) ([.null, .null, .null]))] [])) t
        refine XS.aload X303.here hx rfl (hb hby at_175) rfl hr301 ?_
        show Steps p.tables e below (T303.setTop (mkF m 177 #[.val (.int p0_0), .val (.int p0_1), .val (.int p0_2), .val (.int p0_3), .val (.int p0_4), .val (.int (p0_0 &&& (3 : Int32))), .val (.ref b147), .val (.ref b160), .val (.ref b175), .val (.ref b196), .val (.ref b222), .val (.int (0 : Int32)), .val (.int (0 : Int32)), .val (.int (0 : Int32)), .val (.int ((p0_4 &&& (7 : Int32)) - (2 : Int32))), .val (own_F9 b222 p0_3 y237 (p0_0 &&& (3 : Int32)) ([.null, .null, .null])), .val (own_F9 b222 ((p0_4 &&& (7 : Int32)) - (2 : Int32)) y237 (p0_0 &&& (3 : Int32)) ([.null, .null, .null]))] [(own_F9 b222 p0_3 y237 (p0_0 &&& (3 : Int32)) ([.null, .null, .null]))])) t
        refine XS.iloadN X303.here hx rfl (hb hby at_177) rfl ?_
        show Steps p.tables e below (T303.setTop (mkF m 178 #[.val (.int p0_0), .val (.int p0_1), .val (.int p0_2), .val (.int p0_3), .val (.int p0_4), .val (.int (p0_0 &&& (3 : Int32))), .val (.ref b147), .val (.ref b160), .val (.ref b175), .val (.ref b196), .val (.ref b222), .val (.int (0 : Int32)), .val (.int (0 : Int32)), .val (.int (0 : Int32)), .val (.int ((p0_4 &&& (7 : Int32)) - (2 : Int32))), .val (own_F9 b222 p0_3 y237 (p0_0 &&& (3 : Int32)) ([.null, .null, .null])), .val (own_F9 b222 ((p0_4 &&& (7 : Int32)) - (2 : Int32)) y237 (p0_0 &&& (3 : Int32)) ([.null, .null, .null]))] [(.int p0_3), (own_F9 b222 p0_3 y237 (p0_0 &&& (3 : Int32)) ([.null, .null, .null]))])) t
        refine XS.iload X303.here hx rfl (hb hby at_178) rfl ?_
        show Steps p.tables e below (T303.setTop (mkF m 180 #[.val (.int p0_0), .val (.int p0_1), .val (.int p0_2), .val (.int p0_3), .val (.int p0_4), .val (.int (p0_0 &&& (3 : Int32))), .val (.ref b147), .val (.ref b160), .val (.ref b175), .val (.ref b196), .val (.ref b222), .val (.int (0 : Int32)), .val (.int (0 : Int32)), .val (.int (0 : Int32)), .val (.int ((p0_4 &&& (7 : Int32)) - (2 : Int32))), .val (own_F9 b222 p0_3 y237 (p0_0 &&& (3 : Int32)) ([.null, .null, .null])), .val (own_F9 b222 ((p0_4 &&& (7 : Int32)) - (2 : Int32)) y237 (p0_0 &&& (3 : Int32)) ([.null, .null, .null]))] [(.int (p0_0 &&& (3 : Int32))), (.int p0_3), (own_F9 b222 p0_3 y237 (p0_0 &&& (3 : Int32)) ([.null, .null, .null]))])) t
        refine XS.iload X303.here hx rfl (hb hby at_180) rfl ?_
        show Steps p.tables e below (T303.setTop (mkF m 182 #[.val (.int p0_0), .val (.int p0_1), .val (.int p0_2), .val (.int p0_3), .val (.int p0_4), .val (.int (p0_0 &&& (3 : Int32))), .val (.ref b147), .val (.ref b160), .val (.ref b175), .val (.ref b196), .val (.ref b222), .val (.int (0 : Int32)), .val (.int (0 : Int32)), .val (.int (0 : Int32)), .val (.int ((p0_4 &&& (7 : Int32)) - (2 : Int32))), .val (own_F9 b222 p0_3 y237 (p0_0 &&& (3 : Int32)) ([.null, .null, .null])), .val (own_F9 b222 ((p0_4 &&& (7 : Int32)) - (2 : Int32)) y237 (p0_0 &&& (3 : Int32)) ([.null, .null, .null]))] [(.int (0 : Int32)), (.int (p0_0 &&& (3 : Int32))), (.int p0_3), (own_F9 b222 p0_3 y237 (p0_0 &&& (3 : Int32)) ([.null, .null, .null]))])) t
        refine XS.iload X303.here hx rfl (hb hby at_182) rfl ?_
        show Steps p.tables e below (T303.setTop (mkF m 184 #[.val (.int p0_0), .val (.int p0_1), .val (.int p0_2), .val (.int p0_3), .val (.int p0_4), .val (.int (p0_0 &&& (3 : Int32))), .val (.ref b147), .val (.ref b160), .val (.ref b175), .val (.ref b196), .val (.ref b222), .val (.int (0 : Int32)), .val (.int (0 : Int32)), .val (.int (0 : Int32)), .val (.int ((p0_4 &&& (7 : Int32)) - (2 : Int32))), .val (own_F9 b222 p0_3 y237 (p0_0 &&& (3 : Int32)) ([.null, .null, .null])), .val (own_F9 b222 ((p0_4 &&& (7 : Int32)) - (2 : Int32)) y237 (p0_0 &&& (3 : Int32)) ([.null, .null, .null]))] [(.int (0 : Int32)), (.int (0 : Int32)), (.int (p0_0 &&& (3 : Int32))), (.int p0_3), (own_F9 b222 p0_3 y237 (p0_0 &&& (3 : Int32)) ([.null, .null, .null]))])) t
        refine XS.aload X303.here hx rfl (hb hby at_184) rfl rfl ?_
        show Steps p.tables e below (T303.setTop (mkF m 186 #[.val (.int p0_0), .val (.int p0_1), .val (.int p0_2), .val (.int p0_3), .val (.int p0_4), .val (.int (p0_0 &&& (3 : Int32))), .val (.ref b147), .val (.ref b160), .val (.ref b175), .val (.ref b196), .val (.ref b222), .val (.int (0 : Int32)), .val (.int (0 : Int32)), .val (.int (0 : Int32)), .val (.int ((p0_4 &&& (7 : Int32)) - (2 : Int32))), .val (own_F9 b222 p0_3 y237 (p0_0 &&& (3 : Int32)) ([.null, .null, .null])), .val (own_F9 b222 ((p0_4 &&& (7 : Int32)) - (2 : Int32)) y237 (p0_0 &&& (3 : Int32)) ([.null, .null, .null]))] [(.ref b175), (.int (0 : Int32)), (.int (0 : Int32)), (.int (p0_0 &&& (3 : Int32))), (.int p0_3), (own_F9 b222 p0_3 y237 (p0_0 &&& (3 : Int32)) ([.null, .null, .null]))])) t
        refine XS.iload X303.here hx rfl (hb hby at_186) rfl ?_
        show Steps p.tables e below (T303.setTop (mkF m 188 #[.val (.int p0_0), .val (.int p0_1), .val (.int p0_2), .val (.int p0_3), .val (.int p0_4), .val (.int (p0_0 &&& (3 : Int32))), .val (.ref b147), .val (.ref b160), .val (.ref b175), .val (.ref b196), .val (.ref b222), .val (.int (0 : Int32)), .val (.int (0 : Int32)), .val (.int (0 : Int32)), .val (.int ((p0_4 &&& (7 : Int32)) - (2 : Int32))), .val (own_F9 b222 p0_3 y237 (p0_0 &&& (3 : Int32)) ([.null, .null, .null])), .val (own_F9 b222 ((p0_4 &&& (7 : Int32)) - (2 : Int32)) y237 (p0_0 &&& (3 : Int32)) ([.null, .null, .null]))] [(.int (0 : Int32)), (.ref b175), (.int (0 : Int32)), (.int (0 : Int32)), (.int (p0_0 &&& (3 : Int32))), (.int p0_3), (own_F9 b222 p0_3 y237 (p0_0 &&& (3 : Int32)) ([.null, .null, .null]))])) t
        refine XS.aload X303.here hx rfl (hb hby at_188) rfl rfl ?_
        show Steps p.tables e below (T303.setTop (mkF m 190 #[.val (.int p0_0), .val (.int p0_1), .val (.int p0_2), .val (.int p0_3), .val (.int p0_4), .val (.int (p0_0 &&& (3 : Int32))), .val (.ref b147), .val (.ref b160), .val (.ref b175), .val (.ref b196), .val (.ref b222), .val (.int (0 : Int32)), .val (.int (0 : Int32)), .val (.int (0 : Int32)), .val (.int ((p0_4 &&& (7 : Int32)) - (2 : Int32))), .val (own_F9 b222 p0_3 y237 (p0_0 &&& (3 : Int32)) ([.null, .null, .null])), .val (own_F9 b222 ((p0_4 &&& (7 : Int32)) - (2 : Int32)) y237 (p0_0 &&& (3 : Int32)) ([.null, .null, .null]))] [(.ref b196), (.int (0 : Int32)), (.ref b175), (.int (0 : Int32)), (.int (0 : Int32)), (.int (p0_0 &&& (3 : Int32))), (.int p0_3), (own_F9 b222 p0_3 y237 (p0_0 &&& (3 : Int32)) ([.null, .null, .null]))])) t
        exact k
      obtain ⟨v305, _, ⟨T305, L305, k305, n305⟩, -, X305, ⟨Lc305, hQ305, l305, y305, z305⟩, st305⟩ := Jvm.LawKit.callS X303 hx (y := (⟨"com/example/yohokit/yohokit/PartsKeyAtPinLaw", "expected", "(IIZILjava/lang/String;ILjava/lang/String;)Ljava/lang/String;"⟩ : MethodName)) hown (mvT hZ (hw _ (List.mem_of_getElem? (i := 55) rfl))) (mvT hZ (hw _ (List.mem_of_getElem? (i := 56) rfl))) (mvT hZ (hw _ (List.mem_of_getElem? (i := 57) rfl))) (mvT hZ (hw _ (List.mem_of_getElem? (i := 58) rfl))) (by decide) (backOf (W := 1) (own_rm10 l Z a0 hw [] p0_3 (p0_0 &&& (3 : Int32)) (0 : Int32) (0 : Int32) b175 (0 : Int32) (.ref b196) T237.heap n0 Z254 rfl) hZ (hw _ (List.mem_of_getElem? (i := 58) rfl)) (hw _ (List.mem_of_getElem? (i := 57) rfl)) (by decide) (by decide)) (g := (mkF m 190 #[.val (.int p0_0), .val (.int p0_1), .val (.int p0_2), .val (.int p0_3), .val (.int p0_4), .val (.int (p0_0 &&& (3 : Int32))), .val (.ref b147), .val (.ref b160), .val (.ref b175), .val (.ref b196), .val (.ref b222), .val (.int (0 : Int32)), .val (.int (0 : Int32)), .val (.int (0 : Int32)), .val (.int ((p0_4 &&& (7 : Int32)) - (2 : Int32))), .val (own_F9 b222 p0_3 y237 (p0_0 &&& (3 : Int32)) ([.null, .null, .null])), .val (own_F9 b222 ((p0_4 &&& (7 : Int32)) - (2 : Int32)) y237 (p0_0 &&& (3 : Int32)) ([.null, .null, .null]))] [(.ref b196), (.int (0 : Int32)), (.ref b175), (.int (0 : Int32)), (.int (0 : Int32)), (.int (p0_0 &&& (3 : Int32))), (.int p0_3), (own_F9 b222 p0_3 y237 (p0_0 &&& (3 : Int32)) ([.null, .null, .null]))])) rfl (by rw [hml]; rfl) (argsL := [(.int p0_3), (.int (p0_0 &&& (3 : Int32))), (.int (0 : Int32)), (.int (0 : Int32)), (.ref b175), (.int (0 : Int32)), (.ref b196)]) (rest := [(own_F9 b222 p0_3 y237 (p0_0 &&& (3 : Int32)) ([.null, .null, .null]))]) (lenOf pd__IIZILjava_lang_String_ILjava_lang_String__Ljava_lang_String_ rfl) rfl (by show 2 * 0 + _ ≤ _; (simp only [List.map_cons, List.map_nil, List.sum_cons, List.sum_nil, own_cat1 hr301]) <;> exact Nat.le_of_eq rfl) (hb hby at_190) (fun _ _ => ⟨rfl, e303, (by decide : 9 + 0 ≤ _), (by decide : 21 + 0 ≤ _)⟩)
      dsimp only [Pt.U, Pt.locs, Pt.cells, Pt.slots] at X305 l305 y305 z305 st305 hQ305
      subst y305 z305
      obtain ⟨rfl, M305, e305, hr305⟩ := hQ305
      have N306 : Fr n0 L305 := by rw [l305]; exact Fr.app N304 M305
      refine own_by (T' := T305) (g' := (mkF m 193 #[.val (.int p0_0), .val (.int p0_1), .val (.int p0_2), .val (.int p0_3), .val (.int p0_4), .val (.int (p0_0 &&& (3 : Int32))), .val (.ref b147), .val (.ref b160), .val (.ref b175), .val (.ref b196), .val (.ref b222), .val (.int (0 : Int32)), .val (.int (0 : Int32)), .val (.int (0 : Int32)), .val (.int ((p0_4 &&& (7 : Int32)) - (2 : Int32))), .val (own_F9 b222 p0_3 y237 (p0_0 &&& (3 : Int32)) ([.null, .null, .null])), .val (own_F9 b222 ((p0_4 &&& (7 : Int32)) - (2 : Int32)) y237 (p0_0 &&& (3 : Int32)) ([.null, .null, .null]))] [(own_F10 p0_3 (p0_0 &&& (3 : Int32)) (0 : Int32) (0 : Int32) b175 (0 : Int32) (.ref b196)), (own_F9 b222 p0_3 y237 (p0_0 &&& (3 : Int32)) ([.null, .null, .null]))])) st305 ?_
      refine own_by (T' := T305) (g' := (mkF m 212 #[.val (.int p0_0), .val (.int p0_1), .val (.int p0_2), .val (.int p0_3), .val (.int p0_4), .val (.int (p0_0 &&& (3 : Int32))), .val (.ref b147), .val (.ref b160), .val (.ref b175), .val (.ref b196), .val (.ref b222), .val (.int (0 : Int32)), .val (.int (0 : Int32)), .val (.int (0 : Int32)), .val (.int ((p0_4 &&& (7 : Int32)) - (2 : Int32))), .val (own_F9 b222 p0_3 y237 (p0_0 &&& (3 : Int32)) ([.null, .null, .null])), .val (own_F9 b222 ((p0_4 &&& (7 : Int32)) - (2 : Int32)) y237 (p0_0 &&& (3 : Int32)) ([.null, .null, .null]))] [(.ref b196), (.int (0 : Int32)), (.ref b175), (.int (0 : Int32)), (.int (0 : Int32)), (.int (p0_0 &&& (3 : Int32))), (.int ((p0_4 &&& (7 : Int32)) - (2 : Int32))), (own_F9 b222 ((p0_4 &&& (7 : Int32)) - (2 : Int32)) y237 (p0_0 &&& (3 : Int32)) ([.null, .null, .null]))])) (fun t k => ?_) ?_
      · show Steps p.tables e below (T305.setTop (mkF m 193 #[.val (.int p0_0), .val (.int p0_1), .val (.int p0_2), .val (.int p0_3), .val (.int p0_4), .val (.int (p0_0 &&& (3 : Int32))), .val (.ref b147), .val (.ref b160), .val (.ref b175), .val (.ref b196), .val (.ref b222), .val (.int (0 : Int32)), .val (.int (0 : Int32)), .val (.int (0 : Int32)), .val (.int ((p0_4 &&& (7 : Int32)) - (2 : Int32))), .val (own_F9 b222 p0_3 y237 (p0_0 &&& (3 : Int32)) ([.null, .null, .null])), .val (own_F9 b222 ((p0_4 &&& (7 : Int32)) - (2 : Int32)) y237 (p0_0 &&& (3 : Int32)) ([.null, .null, .null]))] [(own_F10 p0_3 (p0_0 &&& (3 : Int32)) (0 : Int32) (0 : Int32) b175 (0 : Int32) (.ref b196)), (own_F9 b222 p0_3 y237 (p0_0 &&& (3 : Int32)) ([.null, .null, .null]))])) t
        refine Jvm.RoadKit.acmp (g := (mkF m 193 #[.val (.int p0_0), .val (.int p0_1), .val (.int p0_2), .val (.int p0_3), .val (.int p0_4), .val (.int (p0_0 &&& (3 : Int32))), .val (.ref b147), .val (.ref b160), .val (.ref b175), .val (.ref b196), .val (.ref b222), .val (.int (0 : Int32)), .val (.int (0 : Int32)), .val (.int (0 : Int32)), .val (.int ((p0_4 &&& (7 : Int32)) - (2 : Int32))), .val (own_F9 b222 p0_3 y237 (p0_0 &&& (3 : Int32)) ([.null, .null, .null])), .val (own_F9 b222 ((p0_4 &&& (7 : Int32)) - (2 : Int32)) y237 (p0_0 &&& (3 : Int32)) ([.null, .null, .null]))] [(own_F10 p0_3 (p0_0 &&& (3 : Int32)) (0 : Int32) (0 : Int32) b175 (0 : Int32) (.ref b196)), (own_F9 b222 p0_3 y237 (p0_0 &&& (3 : Int32)) ([.null, .null, .null]))])) X305 hx rfl hr301 hr305 (pc0 := 193) (pc' := 196) (same := true) rfl (hb hby at_193) rfl (decide_eq_true own_ag0) (by decide) (by decide) ?_
        show Steps p.tables e below (T305.setTop (mkF m 196 #[.val (.int p0_0), .val (.int p0_1), .val (.int p0_2), .val (.int p0_3), .val (.int p0_4), .val (.int (p0_0 &&& (3 : Int32))), .val (.ref b147), .val (.ref b160), .val (.ref b175), .val (.ref b196), .val (.ref b222), .val (.int (0 : Int32)), .val (.int (0 : Int32)), .val (.int (0 : Int32)), .val (.int ((p0_4 &&& (7 : Int32)) - (2 : Int32))), .val (own_F9 b222 p0_3 y237 (p0_0 &&& (3 : Int32)) ([.null, .null, .null])), .val (own_F9 b222 ((p0_4 &&& (7 : Int32)) - (2 : Int32)) y237 (p0_0 &&& (3 : Int32)) ([.null, .null, .null]))] [])) t
        refine XS.aload X305.here hx rfl (hb hby at_196) rfl hr303 ?_
        show Steps p.tables e below (T305.setTop (mkF m 198 #[.val (.int p0_0), .val (.int p0_1), .val (.int p0_2), .val (.int p0_3), .val (.int p0_4), .val (.int (p0_0 &&& (3 : Int32))), .val (.ref b147), .val (.ref b160), .val (.ref b175), .val (.ref b196), .val (.ref b222), .val (.int (0 : Int32)), .val (.int (0 : Int32)), .val (.int (0 : Int32)), .val (.int ((p0_4 &&& (7 : Int32)) - (2 : Int32))), .val (own_F9 b222 p0_3 y237 (p0_0 &&& (3 : Int32)) ([.null, .null, .null])), .val (own_F9 b222 ((p0_4 &&& (7 : Int32)) - (2 : Int32)) y237 (p0_0 &&& (3 : Int32)) ([.null, .null, .null]))] [(own_F9 b222 ((p0_4 &&& (7 : Int32)) - (2 : Int32)) y237 (p0_0 &&& (3 : Int32)) ([.null, .null, .null]))])) t
        refine XS.iload X305.here hx rfl (hb hby at_198) rfl ?_
        show Steps p.tables e below (T305.setTop (mkF m 200 #[.val (.int p0_0), .val (.int p0_1), .val (.int p0_2), .val (.int p0_3), .val (.int p0_4), .val (.int (p0_0 &&& (3 : Int32))), .val (.ref b147), .val (.ref b160), .val (.ref b175), .val (.ref b196), .val (.ref b222), .val (.int (0 : Int32)), .val (.int (0 : Int32)), .val (.int (0 : Int32)), .val (.int ((p0_4 &&& (7 : Int32)) - (2 : Int32))), .val (own_F9 b222 p0_3 y237 (p0_0 &&& (3 : Int32)) ([.null, .null, .null])), .val (own_F9 b222 ((p0_4 &&& (7 : Int32)) - (2 : Int32)) y237 (p0_0 &&& (3 : Int32)) ([.null, .null, .null]))] [(.int ((p0_4 &&& (7 : Int32)) - (2 : Int32))), (own_F9 b222 ((p0_4 &&& (7 : Int32)) - (2 : Int32)) y237 (p0_0 &&& (3 : Int32)) ([.null, .null, .null]))])) t
        refine XS.iload X305.here hx rfl (hb hby at_200) rfl ?_
        show Steps p.tables e below (T305.setTop (mkF m 202 #[.val (.int p0_0), .val (.int p0_1), .val (.int p0_2), .val (.int p0_3), .val (.int p0_4), .val (.int (p0_0 &&& (3 : Int32))), .val (.ref b147), .val (.ref b160), .val (.ref b175), .val (.ref b196), .val (.ref b222), .val (.int (0 : Int32)), .val (.int (0 : Int32)), .val (.int (0 : Int32)), .val (.int ((p0_4 &&& (7 : Int32)) - (2 : Int32))), .val (own_F9 b222 p0_3 y237 (p0_0 &&& (3 : Int32)) ([.null, .null, .null])), .val (own_F9 b222 ((p0_4 &&& (7 : Int32)) - (2 : Int32)) y237 (p0_0 &&& (3 : Int32)) ([.null, .null, .null]))] [(.int (p0_0 &&& (3 : Int32))), (.int ((p0_4 &&& (7 : Int32)) - (2 : Int32))), (own_F9 b222 ((p0_4 &&& (7 : Int32)) - (2 : Int32)) y237 (p0_0 &&& (3 : Int32)) ([.null, .null, .null]))])) t
        refine XS.iload X305.here hx rfl (hb hby at_202) rfl ?_
        show Steps p.tables e below (T305.setTop (mkF m 204 #[.val (.int p0_0), .val (.int p0_1), .val (.int p0_2), .val (.int p0_3), .val (.int p0_4), .val (.int (p0_0 &&& (3 : Int32))), .val (.ref b147), .val (.ref b160), .val (.ref b175), .val (.ref b196), .val (.ref b222), .val (.int (0 : Int32)), .val (.int (0 : Int32)), .val (.int (0 : Int32)), .val (.int ((p0_4 &&& (7 : Int32)) - (2 : Int32))), .val (own_F9 b222 p0_3 y237 (p0_0 &&& (3 : Int32)) ([.null, .null, .null])), .val (own_F9 b222 ((p0_4 &&& (7 : Int32)) - (2 : Int32)) y237 (p0_0 &&& (3 : Int32)) ([.null, .null, .null]))] [(.int (0 : Int32)), (.int (p0_0 &&& (3 : Int32))), (.int ((p0_4 &&& (7 : Int32)) - (2 : Int32))), (own_F9 b222 ((p0_4 &&& (7 : Int32)) - (2 : Int32)) y237 (p0_0 &&& (3 : Int32)) ([.null, .null, .null]))])) t
        refine XS.iload X305.here hx rfl (hb hby at_204) rfl ?_
        show Steps p.tables e below (T305.setTop (mkF m 206 #[.val (.int p0_0), .val (.int p0_1), .val (.int p0_2), .val (.int p0_3), .val (.int p0_4), .val (.int (p0_0 &&& (3 : Int32))), .val (.ref b147), .val (.ref b160), .val (.ref b175), .val (.ref b196), .val (.ref b222), .val (.int (0 : Int32)), .val (.int (0 : Int32)), .val (.int (0 : Int32)), .val (.int ((p0_4 &&& (7 : Int32)) - (2 : Int32))), .val (own_F9 b222 p0_3 y237 (p0_0 &&& (3 : Int32)) ([.null, .null, .null])), .val (own_F9 b222 ((p0_4 &&& (7 : Int32)) - (2 : Int32)) y237 (p0_0 &&& (3 : Int32)) ([.null, .null, .null]))] [(.int (0 : Int32)), (.int (0 : Int32)), (.int (p0_0 &&& (3 : Int32))), (.int ((p0_4 &&& (7 : Int32)) - (2 : Int32))), (own_F9 b222 ((p0_4 &&& (7 : Int32)) - (2 : Int32)) y237 (p0_0 &&& (3 : Int32)) ([.null, .null, .null]))])) t
        refine XS.aload X305.here hx rfl (hb hby at_206) rfl rfl ?_
        show Steps p.tables e below (T305.setTop (mkF m 208 #[.val (.int p0_0), .val (.int p0_1), .val (.int p0_2), .val (.int p0_3), .val (.int p0_4), .val (.int (p0_0 &&& (3 : Int32))), .val (.ref b147), .val (.ref b160), .val (.ref b175), .val (.ref b196), .val (.ref b222), .val (.int (0 : Int32)), .val (.int (0 : Int32)), .val (.int (0 : Int32)), .val (.int ((p0_4 &&& (7 : Int32)) - (2 : Int32))), .val (own_F9 b222 p0_3 y237 (p0_0 &&& (3 : Int32)) ([.null, .null, .null])), .val (own_F9 b222 ((p0_4 &&& (7 : Int32)) - (2 : Int32)) y237 (p0_0 &&& (3 : Int32)) ([.null, .null, .null]))] [(.ref b175), (.int (0 : Int32)), (.int (0 : Int32)), (.int (p0_0 &&& (3 : Int32))), (.int ((p0_4 &&& (7 : Int32)) - (2 : Int32))), (own_F9 b222 ((p0_4 &&& (7 : Int32)) - (2 : Int32)) y237 (p0_0 &&& (3 : Int32)) ([.null, .null, .null]))])) t
        refine XS.iload X305.here hx rfl (hb hby at_208) rfl ?_
        show Steps p.tables e below (T305.setTop (mkF m 210 #[.val (.int p0_0), .val (.int p0_1), .val (.int p0_2), .val (.int p0_3), .val (.int p0_4), .val (.int (p0_0 &&& (3 : Int32))), .val (.ref b147), .val (.ref b160), .val (.ref b175), .val (.ref b196), .val (.ref b222), .val (.int (0 : Int32)), .val (.int (0 : Int32)), .val (.int (0 : Int32)), .val (.int ((p0_4 &&& (7 : Int32)) - (2 : Int32))), .val (own_F9 b222 p0_3 y237 (p0_0 &&& (3 : Int32)) ([.null, .null, .null])), .val (own_F9 b222 ((p0_4 &&& (7 : Int32)) - (2 : Int32)) y237 (p0_0 &&& (3 : Int32)) ([.null, .null, .null]))] [(.int (0 : Int32)), (.ref b175), (.int (0 : Int32)), (.int (0 : Int32)), (.int (p0_0 &&& (3 : Int32))), (.int ((p0_4 &&& (7 : Int32)) - (2 : Int32))), (own_F9 b222 ((p0_4 &&& (7 : Int32)) - (2 : Int32)) y237 (p0_0 &&& (3 : Int32)) ([.null, .null, .null]))])) t
        refine XS.aload X305.here hx rfl (hb hby at_210) rfl rfl ?_
        show Steps p.tables e below (T305.setTop (mkF m 212 #[.val (.int p0_0), .val (.int p0_1), .val (.int p0_2), .val (.int p0_3), .val (.int p0_4), .val (.int (p0_0 &&& (3 : Int32))), .val (.ref b147), .val (.ref b160), .val (.ref b175), .val (.ref b196), .val (.ref b222), .val (.int (0 : Int32)), .val (.int (0 : Int32)), .val (.int (0 : Int32)), .val (.int ((p0_4 &&& (7 : Int32)) - (2 : Int32))), .val (own_F9 b222 p0_3 y237 (p0_0 &&& (3 : Int32)) ([.null, .null, .null])), .val (own_F9 b222 ((p0_4 &&& (7 : Int32)) - (2 : Int32)) y237 (p0_0 &&& (3 : Int32)) ([.null, .null, .null]))] [(.ref b196), (.int (0 : Int32)), (.ref b175), (.int (0 : Int32)), (.int (0 : Int32)), (.int (p0_0 &&& (3 : Int32))), (.int ((p0_4 &&& (7 : Int32)) - (2 : Int32))), (own_F9 b222 ((p0_4 &&& (7 : Int32)) - (2 : Int32)) y237 (p0_0 &&& (3 : Int32)) ([.null, .null, .null]))])) t
        exact k
      obtain ⟨v307, _, ⟨T307, L307, k307, n307⟩, -, X307, ⟨Lc307, hQ307, l307, y307, z307⟩, st307⟩ := Jvm.LawKit.callS X305 hx (y := (⟨"com/example/yohokit/yohokit/PartsKeyAtPinLaw", "expected", "(IIZILjava/lang/String;ILjava/lang/String;)Ljava/lang/String;"⟩ : MethodName)) hown (mvT hZ (hw _ (List.mem_of_getElem? (i := 55) rfl))) (mvT hZ (hw _ (List.mem_of_getElem? (i := 56) rfl))) (mvT hZ (hw _ (List.mem_of_getElem? (i := 57) rfl))) (mvT hZ (hw _ (List.mem_of_getElem? (i := 58) rfl))) (by decide) (backOf (W := 1) (own_rm10 l Z a0 hw [] ((p0_4 &&& (7 : Int32)) - (2 : Int32)) (p0_0 &&& (3 : Int32)) (0 : Int32) (0 : Int32) b175 (0 : Int32) (.ref b196) T237.heap n0 Z254 rfl) hZ (hw _ (List.mem_of_getElem? (i := 58) rfl)) (hw _ (List.mem_of_getElem? (i := 57) rfl)) (by decide) (by decide)) (g := (mkF m 212 #[.val (.int p0_0), .val (.int p0_1), .val (.int p0_2), .val (.int p0_3), .val (.int p0_4), .val (.int (p0_0 &&& (3 : Int32))), .val (.ref b147), .val (.ref b160), .val (.ref b175), .val (.ref b196), .val (.ref b222), .val (.int (0 : Int32)), .val (.int (0 : Int32)), .val (.int (0 : Int32)), .val (.int ((p0_4 &&& (7 : Int32)) - (2 : Int32))), .val (own_F9 b222 p0_3 y237 (p0_0 &&& (3 : Int32)) ([.null, .null, .null])), .val (own_F9 b222 ((p0_4 &&& (7 : Int32)) - (2 : Int32)) y237 (p0_0 &&& (3 : Int32)) ([.null, .null, .null]))] [(.ref b196), (.int (0 : Int32)), (.ref b175), (.int (0 : Int32)), (.int (0 : Int32)), (.int (p0_0 &&& (3 : Int32))), (.int ((p0_4 &&& (7 : Int32)) - (2 : Int32))), (own_F9 b222 ((p0_4 &&& (7 : Int32)) - (2 : Int32)) y237 (p0_0 &&& (3 : Int32)) ([.null, .null, .null]))])) rfl (by rw [hml]; rfl) (argsL := [(.int ((p0_4 &&& (7 : Int32)) - (2 : Int32))), (.int (p0_0 &&& (3 : Int32))), (.int (0 : Int32)), (.int (0 : Int32)), (.ref b175), (.int (0 : Int32)), (.ref b196)]) (rest := [(own_F9 b222 ((p0_4 &&& (7 : Int32)) - (2 : Int32)) y237 (p0_0 &&& (3 : Int32)) ([.null, .null, .null]))]) (lenOf pd__IIZILjava_lang_String_ILjava_lang_String__Ljava_lang_String_ rfl) rfl (by show 2 * 0 + _ ≤ _; (simp only [List.map_cons, List.map_nil, List.sum_cons, List.sum_nil, own_cat1 hr303]) <;> exact Nat.le_of_eq rfl) (hb hby at_212) (fun _ _ => ⟨rfl, e305, (by decide : 9 + 0 ≤ _), (by decide : 21 + 0 ≤ _)⟩)
      dsimp only [Pt.U, Pt.locs, Pt.cells, Pt.slots] at X307 l307 y307 z307 st307 hQ307
      subst y307 z307
      obtain ⟨rfl, M307, e307, hr307⟩ := hQ307
      have N308 : Fr n0 L307 := by rw [l307]; exact Fr.app N306 M307
      refine own_by (T' := T307) (g' := (mkF m 215 #[.val (.int p0_0), .val (.int p0_1), .val (.int p0_2), .val (.int p0_3), .val (.int p0_4), .val (.int (p0_0 &&& (3 : Int32))), .val (.ref b147), .val (.ref b160), .val (.ref b175), .val (.ref b196), .val (.ref b222), .val (.int (0 : Int32)), .val (.int (0 : Int32)), .val (.int (0 : Int32)), .val (.int ((p0_4 &&& (7 : Int32)) - (2 : Int32))), .val (own_F9 b222 p0_3 y237 (p0_0 &&& (3 : Int32)) ([.null, .null, .null])), .val (own_F9 b222 ((p0_4 &&& (7 : Int32)) - (2 : Int32)) y237 (p0_0 &&& (3 : Int32)) ([.null, .null, .null]))] [(own_F10 ((p0_4 &&& (7 : Int32)) - (2 : Int32)) (p0_0 &&& (3 : Int32)) (0 : Int32) (0 : Int32) b175 (0 : Int32) (.ref b196)), (own_F9 b222 ((p0_4 &&& (7 : Int32)) - (2 : Int32)) y237 (p0_0 &&& (3 : Int32)) ([.null, .null, .null]))])) st307 ?_
      refine own_by (T' := T307) (g' := (mkF m 223 #[.val (.int p0_0), .val (.int p0_1), .val (.int p0_2), .val (.int p0_3), .val (.int p0_4), .val (.int (p0_0 &&& (3 : Int32))), .val (.ref b147), .val (.ref b160), .val (.ref b175), .val (.ref b196), .val (.ref b222), .val (.int (0 : Int32)), .val (.int (0 : Int32)), .val (.int (0 : Int32)), .val (.int ((p0_4 &&& (7 : Int32)) - (2 : Int32))), .val (own_F9 b222 p0_3 y237 (p0_0 &&& (3 : Int32)) ([.null, .null, .null])), .val (own_F9 b222 ((p0_4 &&& (7 : Int32)) - (2 : Int32)) y237 (p0_0 &&& (3 : Int32)) ([.null, .null, .null]))] [(.int (1 : Int32))])) (fun t k => ?_) ?_
      · show Steps p.tables e below (T307.setTop (mkF m 215 #[.val (.int p0_0), .val (.int p0_1), .val (.int p0_2), .val (.int p0_3), .val (.int p0_4), .val (.int (p0_0 &&& (3 : Int32))), .val (.ref b147), .val (.ref b160), .val (.ref b175), .val (.ref b196), .val (.ref b222), .val (.int (0 : Int32)), .val (.int (0 : Int32)), .val (.int (0 : Int32)), .val (.int ((p0_4 &&& (7 : Int32)) - (2 : Int32))), .val (own_F9 b222 p0_3 y237 (p0_0 &&& (3 : Int32)) ([.null, .null, .null])), .val (own_F9 b222 ((p0_4 &&& (7 : Int32)) - (2 : Int32)) y237 (p0_0 &&& (3 : Int32)) ([.null, .null, .null]))] [(own_F10 ((p0_4 &&& (7 : Int32)) - (2 : Int32)) (p0_0 &&& (3 : Int32)) (0 : Int32) (0 : Int32) b175 (0 : Int32) (.ref b196)), (own_F9 b222 ((p0_4 &&& (7 : Int32)) - (2 : Int32)) y237 (p0_0 &&& (3 : Int32)) ([.null, .null, .null]))])) t
        refine Jvm.RoadKit.acmp (g := (mkF m 215 #[.val (.int p0_0), .val (.int p0_1), .val (.int p0_2), .val (.int p0_3), .val (.int p0_4), .val (.int (p0_0 &&& (3 : Int32))), .val (.ref b147), .val (.ref b160), .val (.ref b175), .val (.ref b196), .val (.ref b222), .val (.int (0 : Int32)), .val (.int (0 : Int32)), .val (.int (0 : Int32)), .val (.int ((p0_4 &&& (7 : Int32)) - (2 : Int32))), .val (own_F9 b222 p0_3 y237 (p0_0 &&& (3 : Int32)) ([.null, .null, .null])), .val (own_F9 b222 ((p0_4 &&& (7 : Int32)) - (2 : Int32)) y237 (p0_0 &&& (3 : Int32)) ([.null, .null, .null]))] [(own_F10 ((p0_4 &&& (7 : Int32)) - (2 : Int32)) (p0_0 &&& (3 : Int32)) (0 : Int32) (0 : Int32) b175 (0 : Int32) (.ref b196)), (own_F9 b222 ((p0_4 &&& (7 : Int32)) - (2 : Int32)) y237 (p0_0 &&& (3 : Int32)) ([.null, .null, .null]))])) X307 hx rfl hr303 hr307 (pc0 := 215) (pc' := 218) (same := true) rfl (hb hby at_215) rfl (decide_eq_true own_ag0) (by decide) (by decide) ?_
        show Steps p.tables e below (T307.setTop (mkF m 218 #[.val (.int p0_0), .val (.int p0_1), .val (.int p0_2), .val (.int p0_3), .val (.int p0_4), .val (.int (p0_0 &&& (3 : Int32))), .val (.ref b147), .val (.ref b160), .val (.ref b175), .val (.ref b196), .val (.ref b222), .val (.int (0 : Int32)), .val (.int (0 : Int32)), .val (.int (0 : Int32)), .val (.int ((p0_4 &&& (7 : Int32)) - (2 : Int32))), .val (own_F9 b222 p0_3 y237 (p0_0 &&& (3 : Int32)) ([.null, .null, .null])), .val (own_F9 b222 ((p0_4 &&& (7 : Int32)) - (2 : Int32)) y237 (p0_0 &&& (3 : Int32)) ([.null, .null, .null]))] [])) t
        refine XS.iconst X307.here hx rfl (hb hby at_218) ?_
        show Steps p.tables e below (T307.setTop (mkF m 219 #[.val (.int p0_0), .val (.int p0_1), .val (.int p0_2), .val (.int p0_3), .val (.int p0_4), .val (.int (p0_0 &&& (3 : Int32))), .val (.ref b147), .val (.ref b160), .val (.ref b175), .val (.ref b196), .val (.ref b222), .val (.int (0 : Int32)), .val (.int (0 : Int32)), .val (.int (0 : Int32)), .val (.int ((p0_4 &&& (7 : Int32)) - (2 : Int32))), .val (own_F9 b222 p0_3 y237 (p0_0 &&& (3 : Int32)) ([.null, .null, .null])), .val (own_F9 b222 ((p0_4 &&& (7 : Int32)) - (2 : Int32)) y237 (p0_0 &&& (3 : Int32)) ([.null, .null, .null]))] [(.int (1 : Int32))])) t
        refine XS.goto X307.here hx rfl (pc0 := 219) (pc' := 223) rfl (hb hby at_219) (by decide) (by decide) ?_
        show Steps p.tables e below (T307.setTop (mkF m 223 #[.val (.int p0_0), .val (.int p0_1), .val (.int p0_2), .val (.int p0_3), .val (.int p0_4), .val (.int (p0_0 &&& (3 : Int32))), .val (.ref b147), .val (.ref b160), .val (.ref b175), .val (.ref b196), .val (.ref b222), .val (.int (0 : Int32)), .val (.int (0 : Int32)), .val (.int (0 : Int32)), .val (.int ((p0_4 &&& (7 : Int32)) - (2 : Int32))), .val (own_F9 b222 p0_3 y237 (p0_0 &&& (3 : Int32)) ([.null, .null, .null])), .val (own_F9 b222 ((p0_4 &&& (7 : Int32)) - (2 : Int32)) y237 (p0_0 &&& (3 : Int32)) ([.null, .null, .null]))] [(.int (1 : Int32))])) t
        exact k
      exact own_retN X307 hx (t := .boolean) Bd.returns (by simp) (hb hby at_223) hlk (by decide) (by decide) ⟨rfl, N308⟩
  · skip
    refine own_by (T' := T183) (g' := (mkF m 71 #[.val (.int p0_0), .val (.int p0_1), .val (.int p0_2), .val (.int p0_3), .val (.int p0_4), .val (.int (p0_0 &&& (3 : Int32))), .val (.ref b147), .val (.ref b160), .val (.ref b175), .val .null, .unset, .unset, .unset, .unset, .unset, .unset, .unset] [])) (fun t k => ?_) ?_
    · show Steps p.tables e below (T183.setTop (mkF m 53 #[.val (.int p0_0), .val (.int p0_1), .val (.int p0_2), .val (.int p0_3), .val (.int p0_4), .val (.int (p0_0 &&& (3 : Int32))), .val (.ref b147), .val (.ref b160), .val (.ref b175), .unset, .unset, .unset, .unset, .unset, .unset, .unset, .unset] [(.int (((p0_2.toUInt32 >>> ((16 : Int32) &&& 31).toUInt32).toInt32) &&& (1 : Int32)))])) t
      refine XS.ifNo X183.here hx rfl (hb hby at_53) rfl ((if0 _ _).trans (feq hc195).1) ?_
      show Steps p.tables e below (T183.setTop (mkF m 56 #[.val (.int p0_0), .val (.int p0_1), .val (.int p0_2), .val (.int p0_3), .val (.int p0_4), .val (.int (p0_0 &&& (3 : Int32))), .val (.ref b147), .val (.ref b160), .val (.ref b175), .unset, .unset, .unset, .unset, .unset, .unset, .unset, .unset] [])) t
      refine XS.aconstNull X183.here hx rfl (hb hby at_56) ?_
      show Steps p.tables e below (T183.setTop (mkF m 57 #[.val (.int p0_0), .val (.int p0_1), .val (.int p0_2), .val (.int p0_3), .val (.int p0_4), .val (.int (p0_0 &&& (3 : Int32))), .val (.ref b147), .val (.ref b160), .val (.ref b175), .unset, .unset, .unset, .unset, .unset, .unset, .unset, .unset] [.null])) t
      refine XS.goto X183.here hx rfl (pc0 := 57) (pc' := 69) rfl (hb hby at_57) (by decide) (by decide) ?_
      show Steps p.tables e below (T183.setTop (mkF m 69 #[.val (.int p0_0), .val (.int p0_1), .val (.int p0_2), .val (.int p0_3), .val (.int p0_4), .val (.int (p0_0 &&& (3 : Int32))), .val (.ref b147), .val (.ref b160), .val (.ref b175), .unset, .unset, .unset, .unset, .unset, .unset, .unset, .unset] [.null])) t
      refine XS.astore X183.here hx rfl (hb hby at_69) rfl rfl (l' := #[.val (.int p0_0), .val (.int p0_1), .val (.int p0_2), .val (.int p0_3), .val (.int p0_4), .val (.int (p0_0 &&& (3 : Int32))), .val (.ref b147), .val (.ref b160), .val (.ref b175), .val .null, .unset, .unset, .unset, .unset, .unset, .unset, .unset]) rfl ?_
      show Steps p.tables e below (T183.setTop (mkF m 71 #[.val (.int p0_0), .val (.int p0_1), .val (.int p0_2), .val (.int p0_3), .val (.int p0_4), .val (.int (p0_0 &&& (3 : Int32))), .val (.ref b147), .val (.ref b160), .val (.ref b175), .val .null, .unset, .unset, .unset, .unset, .unset, .unset, .unset] [])) t
      exact k
    obtain ⟨T309, h309, X309, e309, E309, A309, D309, -, st309⟩ := newO X183 hx hZ hown (hw _ (List.mem_of_getElem? (i := 30) rfl)) (hw _ (List.mem_of_getElem? (i := 31) rfl)) (hw _ (List.mem_of_getElem? (i := 32) rfl)) rfl (g := (mkF m 71 #[.val (.int p0_0), .val (.int p0_1), .val (.int p0_2), .val (.int p0_3), .val (.int p0_4), .val (.int (p0_0 &&& (3 : Int32))), .val (.ref b147), .val (.ref b160), .val (.ref b175), .val .null, .unset, .unset, .unset, .unset, .unset, .unset, .unset] [])) rfl (hb hby at_71) (by decide) (by decide)
    obtain ⟨b309, g309⟩ : ∃ z, z = T183.heap.size := ⟨_, rfl⟩
    rw [← g309] at A309 D309 st309
    have gn_b309 : n0 ≤ b309 := Nat.le_trans Z193 (Nat.le_of_eq g309.symm)
    have sz_b309 : h0.size ≤ b309 := Nat.le_trans K191.1 (Nat.le_of_eq g309.symm)
    have ne_b147_b309 : b147 ≠ b309 := Nat.ne_of_lt (Nat.lt_of_lt_of_le f188.lt (Nat.le_of_eq g309.symm))
    have ne_b160_b309 : b160 ≠ b309 := Nat.ne_of_lt (Nat.lt_of_lt_of_le f189.lt (Nat.le_of_eq g309.symm))
    have ne_b175_b309 : b175 ≠ b309 := Nat.ne_of_lt (Nat.lt_of_lt_of_le f186.lt (Nat.le_of_eq g309.symm))
    have f310 := f188.ext E309
    have f311 := f189.ext E309
    have f312 := f184.ext E309
    have f313 := f185.ext E309
    have f314 := f186.ext E309
    have K315 : Keep h0 h309 [] := K191.ext E309
    have O316 := O192.ext E309
    have Z317 := Nat.le_trans Z193 E309.1
    have f318 : Fld Z h309 b309 "com/example/yohokit/yohokit/Parts" "lines" "Ljava/util/Map;" .null := D309 (Or.inr (hw _ (List.mem_of_getElem? (i := 38) rfl))) (ty := (.object "java/util/Map")) (by decide)
    have f319 : Fld Z h309 b309 "com/example/yohokit/yohokit/Parts" "characters" "[I" .null := D309 (Or.inr (hw _ (List.mem_of_getElem? (i := 41) rfl))) (ty := (.array .int)) (by decide)
    have f320 : Fld Z h309 b309 "com/example/yohokit/yohokit/Parts" "keys" "[Ljava/lang/String;" .null := D309 (Or.inr (hw _ (List.mem_of_getElem? (i := 49) rfl))) (ty := (.array (.object "java/lang/String"))) (by decide)
    refine own_by (T' := T309) (g' := (mkF m 74 #[.val (.int p0_0), .val (.int p0_1), .val (.int p0_2), .val (.int p0_3), .val (.int p0_4), .val (.int (p0_0 &&& (3 : Int32))), .val (.ref b147), .val (.ref b160), .val (.ref b175), .val .null, .unset, .unset, .unset, .unset, .unset, .unset, .unset] [(.ref b309)])) st309 ?_
    refine own_by (T' := T309) (g' := (mkF m 78 #[.val (.int p0_0), .val (.int p0_1), .val (.int p0_2), .val (.int p0_3), .val (.int p0_4), .val (.int (p0_0 &&& (3 : Int32))), .val (.ref b147), .val (.ref b160), .val (.ref b175), .val .null, .unset, .unset, .unset, .unset, .unset, .unset, .unset] [(.int (p0_0 &&& (3 : Int32))), .null, (.ref b309), (.ref b309)])) (fun t k => ?_) ?_
    · show Steps p.tables e below (T309.setTop (mkF m 74 #[.val (.int p0_0), .val (.int p0_1), .val (.int p0_2), .val (.int p0_3), .val (.int p0_4), .val (.int (p0_0 &&& (3 : Int32))), .val (.ref b147), .val (.ref b160), .val (.ref b175), .val .null, .unset, .unset, .unset, .unset, .unset, .unset, .unset] [(.ref b309)])) t
      refine XS.dup X309.here hx rfl (hb hby at_74) rfl rfl ?_
      show Steps p.tables e below (T309.setTop (mkF m 75 #[.val (.int p0_0), .val (.int p0_1), .val (.int p0_2), .val (.int p0_3), .val (.int p0_4), .val (.int (p0_0 &&& (3 : Int32))), .val (.ref b147), .val (.ref b160), .val (.ref b175), .val .null, .unset, .unset, .unset, .unset, .unset, .unset, .unset] [(.ref b309), (.ref b309)])) t
      refine XS.aconstNull X309.here hx rfl (hb hby at_75) ?_
      show Steps p.tables e below (T309.setTop (mkF m 76 #[.val (.int p0_0), .val (.int p0_1), .val (.int p0_2), .val (.int p0_3), .val (.int p0_4), .val (.int (p0_0 &&& (3 : Int32))), .val (.ref b147), .val (.ref b160), .val (.ref b175), .val .null, .unset, .unset, .unset, .unset, .unset, .unset, .unset] [.null, (.ref b309), (.ref b309)])) t
      refine XS.iload X309.here hx rfl (hb hby at_76) rfl ?_
      show Steps p.tables e below (T309.setTop (mkF m 78 #[.val (.int p0_0), .val (.int p0_1), .val (.int p0_2), .val (.int p0_3), .val (.int p0_4), .val (.int (p0_0 &&& (3 : Int32))), .val (.ref b147), .val (.ref b160), .val (.ref b175), .val .null, .unset, .unset, .unset, .unset, .unset, .unset, .unset] [(.int (p0_0 &&& (3 : Int32))), .null, (.ref b309), (.ref b309)])) t
      exact k
    obtain ⟨v321, _, ⟨T321, L321, k321, n321⟩, -, X321, ⟨Lc321, hQ321, l321, y321, z321⟩, st321⟩ := X309.specialBack hx (y := (⟨"com/example/yohokit/yohokit/Parts", "<init>", "(Ljava/util/Map;I)V"⟩ : MethodName)) rfl hown (mvT hZ (hw _ (List.mem_of_getElem? (i := 33) rfl))) (mvT hZ (hw _ (List.mem_of_getElem? (i := 34) rfl))) (mvT hZ (hw _ (List.mem_of_getElem? (i := 35) rfl))) (by decide) (backOf (W := 1) (own_rm7 l Z a0 hw [] b309 (p0_0 &&& (3 : Int32)) .null .null .null h309 n0 Z317 (own_n3 p0_0).1 (own_n3 p0_0).2 A309 f318 gn_b309 f319 f320) hZ (hw _ (List.mem_of_getElem? (i := 35) rfl)) (hw _ (List.mem_of_getElem? (i := 32) rfl)) (by decide) (by decide)) (g := (mkF m 78 #[.val (.int p0_0), .val (.int p0_1), .val (.int p0_2), .val (.int p0_3), .val (.int p0_4), .val (.int (p0_0 &&& (3 : Int32))), .val (.ref b147), .val (.ref b160), .val (.ref b175), .val .null, .unset, .unset, .unset, .unset, .unset, .unset, .unset] [(.int (p0_0 &&& (3 : Int32))), .null, (.ref b309), (.ref b309)])) rfl (by rw [hml]; rfl) (Steps.refl _) (a := b309) (argsL := [.null, (.int (p0_0 &&& (3 : Int32)))]) (rest := [(.ref b309)]) (lenOf pd__Ljava_util_Map_I_V rfl) rfl (by show 2 * 0 + _ ≤ _; exact Nat.le_of_eq rfl) (hb hby at_78) (fun _ _ => ⟨rfl, e309, (by decide : 5 + 2 ≤ _), (by decide : 10 + 6 ≤ _)⟩)
    dsimp only [Pt.U, Pt.locs, Pt.cells, Pt.slots] at X321 l321 y321 z321 st321 hQ321
    subst y321 z321
    obtain ⟨x321, y321, rfl, M321, K321, f322, f323, f324, s1321, g1321, s2321, g2321, nb321, f325, f326⟩ := hQ321
    have f327 := f310.keep K321 (ninS ne_b147_b309 nin0)
    have f328 := f311.keep K321 (ninS ne_b160_b309 nin0)
    have f329 := f312.keep K321
    have f330 := f313.keep K321 (ninS ne_b175_b309 nin0)
    have f331 := f314.keep K321 (ninS ne_b175_b309 nin0)
    have f332 := A309.keep K321
    have K333 : Keep h0 T321.heap [] := K315.trans K321 (allS (Or.inr sz_b309) all0)
    have O334 := O316.keep K321 (allS gn_b309 all0)
    have Z335 := Nat.le_trans Z317 K321.1
    have sz_x321 : h0.size ≤ x321 := Nat.le_trans K315.1 s1321
    have ne_b147_x321 : b147 ≠ x321 := Nat.ne_of_lt (Nat.lt_of_lt_of_le f310.lt s1321)
    have ne_b160_x321 : b160 ≠ x321 := Nat.ne_of_lt (Nat.lt_of_lt_of_le f311.lt s1321)
    have ne_b175_x321 : b175 ≠ x321 := Nat.ne_of_lt (Nat.lt_of_lt_of_le f314.lt s1321)
    have ne_b309_x321 : b309 ≠ x321 := Nat.ne_of_lt (Nat.lt_of_lt_of_le f320.lt s1321)
    have sz_y321 : h0.size ≤ y321 := Nat.le_trans K315.1 s2321
    have ne_b147_y321 : b147 ≠ y321 := Nat.ne_of_lt (Nat.lt_of_lt_of_le f310.lt s2321)
    have ne_b160_y321 : b160 ≠ y321 := Nat.ne_of_lt (Nat.lt_of_lt_of_le f311.lt s2321)
    have ne_b175_y321 : b175 ≠ y321 := Nat.ne_of_lt (Nat.lt_of_lt_of_le f314.lt s2321)
    have ne_b309_y321 : b309 ≠ y321 := Nat.ne_of_lt (Nat.lt_of_lt_of_le f320.lt s2321)
    have N336 : Fr n0 L321 := by rw [l321]; exact Fr.app N194 M321
    refine own_via (T' := T321) (g' := (mkF m 81 #[.val (.int p0_0), .val (.int p0_1), .val (.int p0_2), .val (.int p0_3), .val (.int p0_4), .val (.int (p0_0 &&& (3 : Int32))), .val (.ref b147), .val (.ref b160), .val (.ref b175), .val .null, .unset, .unset, .unset, .unset, .unset, .unset, .unset] [(.ref b309)])) st321 ?_
    refine own_by (T' := T321) (g' := (mkF m 85 #[.val (.int p0_0), .val (.int p0_1), .val (.int p0_2), .val (.int p0_3), .val (.int p0_4), .val (.int (p0_0 &&& (3 : Int32))), .val (.ref b147), .val (.ref b160), .val (.ref b175), .val .null, .val (.ref b309), .unset, .unset, .unset, .unset, .unset, .unset] [(.int (p0_0 &&& (3 : Int32)))])) (fun t k => ?_) ?_
    · show Steps p.tables e below (T321.setTop (mkF m 81 #[.val (.int p0_0), .val (.int p0_1), .val (.int p0_2), .val (.int p0_3), .val (.int p0_4), .val (.int (p0_0 &&& (3 : Int32))), .val (.ref b147), .val (.ref b160), .val (.ref b175), .val .null, .unset, .unset, .unset, .unset, .unset, .unset, .unset] [(.ref b309)])) t
      refine XS.astore X321.here hx rfl (hb hby at_81) rfl rfl (l' := #[.val (.int p0_0), .val (.int p0_1), .val (.int p0_2), .val (.int p0_3), .val (.int p0_4), .val (.int (p0_0 &&& (3 : Int32))), .val (.ref b147), .val (.ref b160), .val (.ref b175), .val .null, .val (.ref b309), .unset, .unset, .unset, .unset, .unset, .unset]) rfl ?_
      show Steps p.tables e below (T321.setTop (mkF m 83 #[.val (.int p0_0), .val (.int p0_1), .val (.int p0_2), .val (.int p0_3), .val (.int p0_4), .val (.int (p0_0 &&& (3 : Int32))), .val (.ref b147), .val (.ref b160), .val (.ref b175), .val .null, .val (.ref b309), .unset, .unset, .unset, .unset, .unset, .unset] [])) t
      refine XS.iload X321.here hx rfl (hb hby at_83) rfl ?_
      show Steps p.tables e below (T321.setTop (mkF m 85 #[.val (.int p0_0), .val (.int p0_1), .val (.int p0_2), .val (.int p0_3), .val (.int p0_4), .val (.int (p0_0 &&& (3 : Int32))), .val (.ref b147), .val (.ref b160), .val (.ref b175), .val .null, .val (.ref b309), .unset, .unset, .unset, .unset, .unset, .unset] [(.int (p0_0 &&& (3 : Int32)))])) t
      exact k
    by_cases hc337 : (0 : Int32) < (p0_0 &&& (3 : Int32))
    · skip
      refine own_by (T' := T321) (g' := (mkF m 135 #[.val (.int p0_0), .val (.int p0_1), .val (.int p0_2), .val (.int p0_3), .val (.int p0_4), .val (.int (p0_0 &&& (3 : Int32))), .val (.ref b147), .val (.ref b160), .val (.ref b175), .val .null, .val (.ref b309), .val (.int (1 : Int32)), .val (.int ((p0_1 &&& (65535 : Int32)) % (p0_0 &&& (3 : Int32)))), .val (.int ((((p0_1.toUInt32 >>> ((16 : Int32) &&& 31).toUInt32).toInt32) &&& (32767 : Int32)) % (p0_0 &&& (3 : Int32)))), .unset, .unset, .unset] [(.int p0_2), (.int ((p0_1 &&& (65535 : Int32)) % (p0_0 &&& (3 : Int32)))), (.ref b175), (.ref b309)])) (fun t k => ?_) ?_
      · show Steps p.tables e below (T321.setTop (mkF m 85 #[.val (.int p0_0), .val (.int p0_1), .val (.int p0_2), .val (.int p0_3), .val (.int p0_4), .val (.int (p0_0 &&& (3 : Int32))), .val (.ref b147), .val (.ref b160), .val (.ref b175), .val .null, .val (.ref b309), .unset, .unset, .unset, .unset, .unset, .unset] [(.int (p0_0 &&& (3 : Int32)))])) t
        refine XS.ifNo X321.here hx rfl (hb hby at_85) rfl ((if0 _ _).trans (tlt hc337).2.2.2) ?_
        show Steps p.tables e below (T321.setTop (mkF m 88 #[.val (.int p0_0), .val (.int p0_1), .val (.int p0_2), .val (.int p0_3), .val (.int p0_4), .val (.int (p0_0 &&& (3 : Int32))), .val (.ref b147), .val (.ref b160), .val (.ref b175), .val .null, .val (.ref b309), .unset, .unset, .unset, .unset, .unset, .unset] [])) t
        refine XS.iconst X321.here hx rfl (hb hby at_88) ?_
        show Steps p.tables e below (T321.setTop (mkF m 89 #[.val (.int p0_0), .val (.int p0_1), .val (.int p0_2), .val (.int p0_3), .val (.int p0_4), .val (.int (p0_0 &&& (3 : Int32))), .val (.ref b147), .val (.ref b160), .val (.ref b175), .val .null, .val (.ref b309), .unset, .unset, .unset, .unset, .unset, .unset] [(.int (1 : Int32))])) t
        refine XS.goto X321.here hx rfl (pc0 := 89) (pc' := 93) rfl (hb hby at_89) (by decide) (by decide) ?_
        show Steps p.tables e below (T321.setTop (mkF m 93 #[.val (.int p0_0), .val (.int p0_1), .val (.int p0_2), .val (.int p0_3), .val (.int p0_4), .val (.int (p0_0 &&& (3 : Int32))), .val (.ref b147), .val (.ref b160), .val (.ref b175), .val .null, .val (.ref b309), .unset, .unset, .unset, .unset, .unset, .unset] [(.int (1 : Int32))])) t
        refine XS.istore X321.here hx rfl (hb hby at_93) rfl (l' := #[.val (.int p0_0), .val (.int p0_1), .val (.int p0_2), .val (.int p0_3), .val (.int p0_4), .val (.int (p0_0 &&& (3 : Int32))), .val (.ref b147), .val (.ref b160), .val (.ref b175), .val .null, .val (.ref b309), .val (.int (1 : Int32)), .unset, .unset, .unset, .unset, .unset]) rfl ?_
        show Steps p.tables e below (T321.setTop (mkF m 95 #[.val (.int p0_0), .val (.int p0_1), .val (.int p0_2), .val (.int p0_3), .val (.int p0_4), .val (.int (p0_0 &&& (3 : Int32))), .val (.ref b147), .val (.ref b160), .val (.ref b175), .val .null, .val (.ref b309), .val (.int (1 : Int32)), .unset, .unset, .unset, .unset, .unset] [])) t
        refine XS.iconst X321.here hx rfl (hb hby at_95) ?_
        show Steps p.tables e below (T321.setTop (mkF m 96 #[.val (.int p0_0), .val (.int p0_1), .val (.int p0_2), .val (.int p0_3), .val (.int p0_4), .val (.int (p0_0 &&& (3 : Int32))), .val (.ref b147), .val (.ref b160), .val (.ref b175), .val .null, .val (.ref b309), .val (.int (1 : Int32)), .unset, .unset, .unset, .unset, .unset] [(.int (0 : Int32))])) t
        refine XS.istore X321.here hx rfl (hb hby at_96) rfl (l' := #[.val (.int p0_0), .val (.int p0_1), .val (.int p0_2), .val (.int p0_3), .val (.int p0_4), .val (.int (p0_0 &&& (3 : Int32))), .val (.ref b147), .val (.ref b160), .val (.ref b175), .val .null, .val (.ref b309), .val (.int (1 : Int32)), .val (.int (0 : Int32)), .unset, .unset, .unset, .unset]) rfl ?_
        show Steps p.tables e below (T321.setTop (mkF m 98 #[.val (.int p0_0), .val (.int p0_1), .val (.int p0_2), .val (.int p0_3), .val (.int p0_4), .val (.int (p0_0 &&& (3 : Int32))), .val (.ref b147), .val (.ref b160), .val (.ref b175), .val .null, .val (.ref b309), .val (.int (1 : Int32)), .val (.int (0 : Int32)), .unset, .unset, .unset, .unset] [])) t
        refine XS.iconst X321.here hx rfl (hb hby at_98) ?_
        show Steps p.tables e below (T321.setTop (mkF m 99 #[.val (.int p0_0), .val (.int p0_1), .val (.int p0_2), .val (.int p0_3), .val (.int p0_4), .val (.int (p0_0 &&& (3 : Int32))), .val (.ref b147), .val (.ref b160), .val (.ref b175), .val .null, .val (.ref b309), .val (.int (1 : Int32)), .val (.int (0 : Int32)), .unset, .unset, .unset, .unset] [(.int (0 : Int32))])) t
        refine XS.istore X321.here hx rfl (hb hby at_99) rfl (l' := #[.val (.int p0_0), .val (.int p0_1), .val (.int p0_2), .val (.int p0_3), .val (.int p0_4), .val (.int (p0_0 &&& (3 : Int32))), .val (.ref b147), .val (.ref b160), .val (.ref b175), .val .null, .val (.ref b309), .val (.int (1 : Int32)), .val (.int (0 : Int32)), .val (.int (0 : Int32)), .unset, .unset, .unset]) rfl ?_
        show Steps p.tables e below (T321.setTop (mkF m 101 #[.val (.int p0_0), .val (.int p0_1), .val (.int p0_2), .val (.int p0_3), .val (.int p0_4), .val (.int (p0_0 &&& (3 : Int32))), .val (.ref b147), .val (.ref b160), .val (.ref b175), .val .null, .val (.ref b309), .val (.int (1 : Int32)), .val (.int (0 : Int32)), .val (.int (0 : Int32)), .unset, .unset, .unset] [])) t
        refine XS.iload X321.here hx rfl (hb hby at_101) rfl ?_
        show Steps p.tables e below (T321.setTop (mkF m 103 #[.val (.int p0_0), .val (.int p0_1), .val (.int p0_2), .val (.int p0_3), .val (.int p0_4), .val (.int (p0_0 &&& (3 : Int32))), .val (.ref b147), .val (.ref b160), .val (.ref b175), .val .null, .val (.ref b309), .val (.int (1 : Int32)), .val (.int (0 : Int32)), .val (.int (0 : Int32)), .unset, .unset, .unset] [(.int (1 : Int32))])) t
        refine XS.ifNo X321.here hx rfl (hb hby at_103) rfl ((if0 _ _).trans (feq (by decide : ¬ ((1 : Int32) = (0 : Int32)))).1) ?_
        show Steps p.tables e below (T321.setTop (mkF m 106 #[.val (.int p0_0), .val (.int p0_1), .val (.int p0_2), .val (.int p0_3), .val (.int p0_4), .val (.int (p0_0 &&& (3 : Int32))), .val (.ref b147), .val (.ref b160), .val (.ref b175), .val .null, .val (.ref b309), .val (.int (1 : Int32)), .val (.int (0 : Int32)), .val (.int (0 : Int32)), .unset, .unset, .unset] [])) t
        refine XS.iloadN X321.here hx rfl (hb hby at_106) rfl ?_
        show Steps p.tables e below (T321.setTop (mkF m 107 #[.val (.int p0_0), .val (.int p0_1), .val (.int p0_2), .val (.int p0_3), .val (.int p0_4), .val (.int (p0_0 &&& (3 : Int32))), .val (.ref b147), .val (.ref b160), .val (.ref b175), .val .null, .val (.ref b309), .val (.int (1 : Int32)), .val (.int (0 : Int32)), .val (.int (0 : Int32)), .unset, .unset, .unset] [(.int p0_1)])) t
        refine X321.ldcInt hx hown (mvT hZ (hw _ (List.mem_of_getElem? (i := 59) rfl))) (g := (mkF m 107 #[.val (.int p0_0), .val (.int p0_1), .val (.int p0_2), .val (.int p0_3), .val (.int p0_4), .val (.int (p0_0 &&& (3 : Int32))), .val (.ref b147), .val (.ref b160), .val (.ref b175), .val .null, .val (.ref b309), .val (.int (1 : Int32)), .val (.int (0 : Int32)), .val (.int (0 : Int32)), .unset, .unset, .unset] [(.int p0_1)])) rfl (hb hby at_107) _ ?_
        show Steps p.tables e below (T321.setTop (mkF m 109 #[.val (.int p0_0), .val (.int p0_1), .val (.int p0_2), .val (.int p0_3), .val (.int p0_4), .val (.int (p0_0 &&& (3 : Int32))), .val (.ref b147), .val (.ref b160), .val (.ref b175), .val .null, .val (.ref b309), .val (.int (1 : Int32)), .val (.int (0 : Int32)), .val (.int (0 : Int32)), .unset, .unset, .unset] [(.int (65535 : Int32)), (.int p0_1)])) t
        refine XS.iand X321.here hx rfl (hb hby at_109) rfl ?_
        show Steps p.tables e below (T321.setTop (mkF m 110 #[.val (.int p0_0), .val (.int p0_1), .val (.int p0_2), .val (.int p0_3), .val (.int p0_4), .val (.int (p0_0 &&& (3 : Int32))), .val (.ref b147), .val (.ref b160), .val (.ref b175), .val .null, .val (.ref b309), .val (.int (1 : Int32)), .val (.int (0 : Int32)), .val (.int (0 : Int32)), .unset, .unset, .unset] [(.int (p0_1 &&& (65535 : Int32)))])) t
        refine XS.iload X321.here hx rfl (hb hby at_110) rfl ?_
        show Steps p.tables e below (T321.setTop (mkF m 112 #[.val (.int p0_0), .val (.int p0_1), .val (.int p0_2), .val (.int p0_3), .val (.int p0_4), .val (.int (p0_0 &&& (3 : Int32))), .val (.ref b147), .val (.ref b160), .val (.ref b175), .val .null, .val (.ref b309), .val (.int (1 : Int32)), .val (.int (0 : Int32)), .val (.int (0 : Int32)), .unset, .unset, .unset] [(.int (p0_0 &&& (3 : Int32))), (.int (p0_1 &&& (65535 : Int32)))])) t
        refine iremM (g := (mkF m 112 #[.val (.int p0_0), .val (.int p0_1), .val (.int p0_2), .val (.int p0_3), .val (.int p0_4), .val (.int (p0_0 &&& (3 : Int32))), .val (.ref b147), .val (.ref b160), .val (.ref b175), .val .null, .val (.ref b309), .val (.int (1 : Int32)), .val (.int (0 : Int32)), .val (.int (0 : Int32)), .unset, .unset, .unset] [(.int (p0_0 &&& (3 : Int32))), (.int (p0_1 &&& (65535 : Int32)))])) X321 hx rfl (hb hby at_112) rfl (own_nz hc337) ?_
        show Steps p.tables e below (T321.setTop (mkF m 113 #[.val (.int p0_0), .val (.int p0_1), .val (.int p0_2), .val (.int p0_3), .val (.int p0_4), .val (.int (p0_0 &&& (3 : Int32))), .val (.ref b147), .val (.ref b160), .val (.ref b175), .val .null, .val (.ref b309), .val (.int (1 : Int32)), .val (.int (0 : Int32)), .val (.int (0 : Int32)), .unset, .unset, .unset] [(.int ((p0_1 &&& (65535 : Int32)) % (p0_0 &&& (3 : Int32))))])) t
        refine XS.istore X321.here hx rfl (hb hby at_113) rfl (l' := #[.val (.int p0_0), .val (.int p0_1), .val (.int p0_2), .val (.int p0_3), .val (.int p0_4), .val (.int (p0_0 &&& (3 : Int32))), .val (.ref b147), .val (.ref b160), .val (.ref b175), .val .null, .val (.ref b309), .val (.int (1 : Int32)), .val (.int ((p0_1 &&& (65535 : Int32)) % (p0_0 &&& (3 : Int32)))), .val (.int (0 : Int32)), .unset, .unset, .unset]) rfl ?_
        show Steps p.tables e below (T321.setTop (mkF m 115 #[.val (.int p0_0), .val (.int p0_1), .val (.int p0_2), .val (.int p0_3), .val (.int p0_4), .val (.int (p0_0 &&& (3 : Int32))), .val (.ref b147), .val (.ref b160), .val (.ref b175), .val .null, .val (.ref b309), .val (.int (1 : Int32)), .val (.int ((p0_1 &&& (65535 : Int32)) % (p0_0 &&& (3 : Int32)))), .val (.int (0 : Int32)), .unset, .unset, .unset] [])) t
        refine XS.iloadN X321.here hx rfl (hb hby at_115) rfl ?_
        show Steps p.tables e below (T321.setTop (mkF m 116 #[.val (.int p0_0), .val (.int p0_1), .val (.int p0_2), .val (.int p0_3), .val (.int p0_4), .val (.int (p0_0 &&& (3 : Int32))), .val (.ref b147), .val (.ref b160), .val (.ref b175), .val .null, .val (.ref b309), .val (.int (1 : Int32)), .val (.int ((p0_1 &&& (65535 : Int32)) % (p0_0 &&& (3 : Int32)))), .val (.int (0 : Int32)), .unset, .unset, .unset] [(.int p0_1)])) t
        refine XS.bipush X321.here hx rfl (hb hby at_116) ?_
        show Steps p.tables e below (T321.setTop (mkF m 118 #[.val (.int p0_0), .val (.int p0_1), .val (.int p0_2), .val (.int p0_3), .val (.int p0_4), .val (.int (p0_0 &&& (3 : Int32))), .val (.ref b147), .val (.ref b160), .val (.ref b175), .val .null, .val (.ref b309), .val (.int (1 : Int32)), .val (.int ((p0_1 &&& (65535 : Int32)) % (p0_0 &&& (3 : Int32)))), .val (.int (0 : Int32)), .unset, .unset, .unset] [(.int (16 : Int32)), (.int p0_1)])) t
        refine XS.iushr X321.here hx rfl (hb hby at_118) rfl ?_
        show Steps p.tables e below (T321.setTop (mkF m 119 #[.val (.int p0_0), .val (.int p0_1), .val (.int p0_2), .val (.int p0_3), .val (.int p0_4), .val (.int (p0_0 &&& (3 : Int32))), .val (.ref b147), .val (.ref b160), .val (.ref b175), .val .null, .val (.ref b309), .val (.int (1 : Int32)), .val (.int ((p0_1 &&& (65535 : Int32)) % (p0_0 &&& (3 : Int32)))), .val (.int (0 : Int32)), .unset, .unset, .unset] [(.int ((p0_1.toUInt32 >>> ((16 : Int32) &&& 31).toUInt32).toInt32))])) t
        refine XS.sipush X321.here hx rfl (hb hby at_119) ?_
        show Steps p.tables e below (T321.setTop (mkF m 122 #[.val (.int p0_0), .val (.int p0_1), .val (.int p0_2), .val (.int p0_3), .val (.int p0_4), .val (.int (p0_0 &&& (3 : Int32))), .val (.ref b147), .val (.ref b160), .val (.ref b175), .val .null, .val (.ref b309), .val (.int (1 : Int32)), .val (.int ((p0_1 &&& (65535 : Int32)) % (p0_0 &&& (3 : Int32)))), .val (.int (0 : Int32)), .unset, .unset, .unset] [(.int (32767 : Int32)), (.int ((p0_1.toUInt32 >>> ((16 : Int32) &&& 31).toUInt32).toInt32))])) t
        refine XS.iand X321.here hx rfl (hb hby at_122) rfl ?_
        show Steps p.tables e below (T321.setTop (mkF m 123 #[.val (.int p0_0), .val (.int p0_1), .val (.int p0_2), .val (.int p0_3), .val (.int p0_4), .val (.int (p0_0 &&& (3 : Int32))), .val (.ref b147), .val (.ref b160), .val (.ref b175), .val .null, .val (.ref b309), .val (.int (1 : Int32)), .val (.int ((p0_1 &&& (65535 : Int32)) % (p0_0 &&& (3 : Int32)))), .val (.int (0 : Int32)), .unset, .unset, .unset] [(.int (((p0_1.toUInt32 >>> ((16 : Int32) &&& 31).toUInt32).toInt32) &&& (32767 : Int32)))])) t
        refine XS.iload X321.here hx rfl (hb hby at_123) rfl ?_
        show Steps p.tables e below (T321.setTop (mkF m 125 #[.val (.int p0_0), .val (.int p0_1), .val (.int p0_2), .val (.int p0_3), .val (.int p0_4), .val (.int (p0_0 &&& (3 : Int32))), .val (.ref b147), .val (.ref b160), .val (.ref b175), .val .null, .val (.ref b309), .val (.int (1 : Int32)), .val (.int ((p0_1 &&& (65535 : Int32)) % (p0_0 &&& (3 : Int32)))), .val (.int (0 : Int32)), .unset, .unset, .unset] [(.int (p0_0 &&& (3 : Int32))), (.int (((p0_1.toUInt32 >>> ((16 : Int32) &&& 31).toUInt32).toInt32) &&& (32767 : Int32)))])) t
        refine iremM (g := (mkF m 125 #[.val (.int p0_0), .val (.int p0_1), .val (.int p0_2), .val (.int p0_3), .val (.int p0_4), .val (.int (p0_0 &&& (3 : Int32))), .val (.ref b147), .val (.ref b160), .val (.ref b175), .val .null, .val (.ref b309), .val (.int (1 : Int32)), .val (.int ((p0_1 &&& (65535 : Int32)) % (p0_0 &&& (3 : Int32)))), .val (.int (0 : Int32)), .unset, .unset, .unset] [(.int (p0_0 &&& (3 : Int32))), (.int (((p0_1.toUInt32 >>> ((16 : Int32) &&& 31).toUInt32).toInt32) &&& (32767 : Int32)))])) X321 hx rfl (hb hby at_125) rfl (own_nz hc337) ?_
        show Steps p.tables e below (T321.setTop (mkF m 126 #[.val (.int p0_0), .val (.int p0_1), .val (.int p0_2), .val (.int p0_3), .val (.int p0_4), .val (.int (p0_0 &&& (3 : Int32))), .val (.ref b147), .val (.ref b160), .val (.ref b175), .val .null, .val (.ref b309), .val (.int (1 : Int32)), .val (.int ((p0_1 &&& (65535 : Int32)) % (p0_0 &&& (3 : Int32)))), .val (.int (0 : Int32)), .unset, .unset, .unset] [(.int ((((p0_1.toUInt32 >>> ((16 : Int32) &&& 31).toUInt32).toInt32) &&& (32767 : Int32)) % (p0_0 &&& (3 : Int32))))])) t
        refine XS.istore X321.here hx rfl (hb hby at_126) rfl (l' := #[.val (.int p0_0), .val (.int p0_1), .val (.int p0_2), .val (.int p0_3), .val (.int p0_4), .val (.int (p0_0 &&& (3 : Int32))), .val (.ref b147), .val (.ref b160), .val (.ref b175), .val .null, .val (.ref b309), .val (.int (1 : Int32)), .val (.int ((p0_1 &&& (65535 : Int32)) % (p0_0 &&& (3 : Int32)))), .val (.int ((((p0_1.toUInt32 >>> ((16 : Int32) &&& 31).toUInt32).toInt32) &&& (32767 : Int32)) % (p0_0 &&& (3 : Int32)))), .unset, .unset, .unset]) rfl ?_
        show Steps p.tables e below (T321.setTop (mkF m 128 #[.val (.int p0_0), .val (.int p0_1), .val (.int p0_2), .val (.int p0_3), .val (.int p0_4), .val (.int (p0_0 &&& (3 : Int32))), .val (.ref b147), .val (.ref b160), .val (.ref b175), .val .null, .val (.ref b309), .val (.int (1 : Int32)), .val (.int ((p0_1 &&& (65535 : Int32)) % (p0_0 &&& (3 : Int32)))), .val (.int ((((p0_1.toUInt32 >>> ((16 : Int32) &&& 31).toUInt32).toInt32) &&& (32767 : Int32)) % (p0_0 &&& (3 : Int32)))), .unset, .unset, .unset] [])) t
        refine XS.aload X321.here hx rfl (hb hby at_128) rfl rfl ?_
        show Steps p.tables e below (T321.setTop (mkF m 130 #[.val (.int p0_0), .val (.int p0_1), .val (.int p0_2), .val (.int p0_3), .val (.int p0_4), .val (.int (p0_0 &&& (3 : Int32))), .val (.ref b147), .val (.ref b160), .val (.ref b175), .val .null, .val (.ref b309), .val (.int (1 : Int32)), .val (.int ((p0_1 &&& (65535 : Int32)) % (p0_0 &&& (3 : Int32)))), .val (.int ((((p0_1.toUInt32 >>> ((16 : Int32) &&& 31).toUInt32).toInt32) &&& (32767 : Int32)) % (p0_0 &&& (3 : Int32)))), .unset, .unset, .unset] [(.ref b309)])) t
        refine XS.aload X321.here hx rfl (hb hby at_130) rfl rfl ?_
        show Steps p.tables e below (T321.setTop (mkF m 132 #[.val (.int p0_0), .val (.int p0_1), .val (.int p0_2), .val (.int p0_3), .val (.int p0_4), .val (.int (p0_0 &&& (3 : Int32))), .val (.ref b147), .val (.ref b160), .val (.ref b175), .val .null, .val (.ref b309), .val (.int (1 : Int32)), .val (.int ((p0_1 &&& (65535 : Int32)) % (p0_0 &&& (3 : Int32)))), .val (.int ((((p0_1.toUInt32 >>> ((16 : Int32) &&& 31).toUInt32).toInt32) &&& (32767 : Int32)) % (p0_0 &&& (3 : Int32)))), .unset, .unset, .unset] [(.ref b175), (.ref b309)])) t
        refine XS.iload X321.here hx rfl (hb hby at_132) rfl ?_
        show Steps p.tables e below (T321.setTop (mkF m 134 #[.val (.int p0_0), .val (.int p0_1), .val (.int p0_2), .val (.int p0_3), .val (.int p0_4), .val (.int (p0_0 &&& (3 : Int32))), .val (.ref b147), .val (.ref b160), .val (.ref b175), .val .null, .val (.ref b309), .val (.int (1 : Int32)), .val (.int ((p0_1 &&& (65535 : Int32)) % (p0_0 &&& (3 : Int32)))), .val (.int ((((p0_1.toUInt32 >>> ((16 : Int32) &&& 31).toUInt32).toInt32) &&& (32767 : Int32)) % (p0_0 &&& (3 : Int32)))), .unset, .unset, .unset] [(.int ((p0_1 &&& (65535 : Int32)) % (p0_0 &&& (3 : Int32)))), (.ref b175), (.ref b309)])) t
        refine XS.iloadN X321.here hx rfl (hb hby at_134) rfl ?_
        show Steps p.tables e below (T321.setTop (mkF m 135 #[.val (.int p0_0), .val (.int p0_1), .val (.int p0_2), .val (.int p0_3), .val (.int p0_4), .val (.int (p0_0 &&& (3 : Int32))), .val (.ref b147), .val (.ref b160), .val (.ref b175), .val .null, .val (.ref b309), .val (.int (1 : Int32)), .val (.int ((p0_1 &&& (65535 : Int32)) % (p0_0 &&& (3 : Int32)))), .val (.int ((((p0_1.toUInt32 >>> ((16 : Int32) &&& 31).toUInt32).toInt32) &&& (32767 : Int32)) % (p0_0 &&& (3 : Int32)))), .unset, .unset, .unset] [(.int p0_2), (.int ((p0_1 &&& (65535 : Int32)) % (p0_0 &&& (3 : Int32)))), (.ref b175), (.ref b309)])) t
        exact k
      obtain ⟨cq338, kq338, q338a, q338b, q338c⟩ := isOf hZ rfl f322
      obtain ⟨v338, _, ⟨T338, L338, k338, n338⟩, -, X338, ⟨Lc338, hQ338, l338, y338, z338⟩, st338⟩ := X321.virtualBack hx (y := (⟨"com/example/yohokit/yohokit/Parts", "write", "(Ljava/lang/String;II)V"⟩ : MethodName)) (z := (⟨"com/example/yohokit/yohokit/Parts", "write", "(Ljava/lang/String;II)V"⟩ : MethodName)) hown (mvT hZ (hw _ (List.mem_of_getElem? (i := 60) rfl))) (mvT hZ (hw _ (List.mem_of_getElem? (i := 61) rfl))) (notFace_of_selects (args := #[]) (mvT hZ (hw _ (List.mem_of_getElem? (i := 63) rfl)))) (mvT hZ (hw _ (List.mem_of_getElem? (i := 63) rfl))) (mvT hZ (hw _ (List.mem_of_getElem? (i := 62) rfl))) (by decide) (backOf (W := 0) (own_rm11 l Z a0 hw [] b309 (.ref b175) ((p0_1 &&& (65535 : Int32)) % (p0_0 &&& (3 : Int32))) p0_2 x321 y321 (p0_0 &&& (3 : Int32)) ([.null, .null, .null]) T321.heap n0 Z335 rfl f325 f326 (own_n3 p0_0).2 (own_mod (own_and_le _ 65535 65535 (by decide) (by decide)).1 hc337) (Or.inr ⟨b175, rfl, f329⟩) f323 (Ne.symm nb321) ne_b309_x321 g1321 f324 ne_b309_y321 nb321 g2321) hZ (hw _ (List.mem_of_getElem? (i := 64) rfl)) (hw _ (List.mem_of_getElem? (i := 32) rfl)) (by decide) (by decide)) q338a q338c (g := (mkF m 135 #[.val (.int p0_0), .val (.int p0_1), .val (.int p0_2), .val (.int p0_3), .val (.int p0_4), .val (.int (p0_0 &&& (3 : Int32))), .val (.ref b147), .val (.ref b160), .val (.ref b175), .val .null, .val (.ref b309), .val (.int (1 : Int32)), .val (.int ((p0_1 &&& (65535 : Int32)) % (p0_0 &&& (3 : Int32)))), .val (.int ((((p0_1.toUInt32 >>> ((16 : Int32) &&& 31).toUInt32).toInt32) &&& (32767 : Int32)) % (p0_0 &&& (3 : Int32)))), .unset, .unset, .unset] [(.int p0_2), (.int ((p0_1 &&& (65535 : Int32)) % (p0_0 &&& (3 : Int32)))), (.ref b175), (.ref b309)])) rfl (by rw [hml]; rfl) (Steps.refl _) (argsL := [(.ref b175), (.int ((p0_1 &&& (65535 : Int32)) % (p0_0 &&& (3 : Int32)))), (.int p0_2)]) (rest := []) (lenOf pd__Ljava_lang_String_II_V rfl) rfl (by show 2 * 0 + _ ≤ _; exact Nat.le_of_eq rfl) (hb hby at_135) (fun _ _ => ⟨rfl, rfl, (by decide : 7 + 0 ≤ _), (by decide : 16 + 0 ≤ _)⟩)
      dsimp only [Pt.U, Pt.locs, Pt.cells, Pt.slots] at X338 l338 y338 z338 st338 hQ338
      subst y338 z338
      obtain ⟨rfl, M338, K338, f339, f340⟩ := hQ338
      have f341 := f327.keep K338 (ninS ne_b147_x321 (ninS ne_b147_y321 nin0))
      have f342 := f328.keep K338 (ninS ne_b160_x321 (ninS ne_b160_y321 nin0))
      have f343 := f329.keep K338
      have f344 := f330.keep K338 (ninS ne_b175_x321 (ninS ne_b175_y321 nin0))
      have f345 := f331.keep K338 (ninS ne_b175_x321 (ninS ne_b175_y321 nin0))
      have f346 := f322.keep K338
      have f347 := f323.keep K338 (ninS ne_b309_x321 (ninS ne_b309_y321 nin0))
      have f348 := f324.keep K338 (ninS ne_b309_x321 (ninS ne_b309_y321 nin0))
      have K349 : Keep h0 T338.heap [] := K333.trans K338 (allS (Or.inr sz_x321) (allS (Or.inr sz_y321) all0))
      have O350 := O334.keep K338 (allS g1321 (allS g2321 all0))
      have Z351 := Nat.le_trans Z335 K338.1
      have N352 : Fr n0 L338 := by rw [l338]; exact Fr.app N336 M338
      refine own_via (T' := T338) (g' := (mkF m 138 #[.val (.int p0_0), .val (.int p0_1), .val (.int p0_2), .val (.int p0_3), .val (.int p0_4), .val (.int (p0_0 &&& (3 : Int32))), .val (.ref b147), .val (.ref b160), .val (.ref b175), .val .null, .val (.ref b309), .val (.int (1 : Int32)), .val (.int ((p0_1 &&& (65535 : Int32)) % (p0_0 &&& (3 : Int32)))), .val (.int ((((p0_1.toUInt32 >>> ((16 : Int32) &&& 31).toUInt32).toInt32) &&& (32767 : Int32)) % (p0_0 &&& (3 : Int32)))), .unset, .unset, .unset] [])) st338 ?_
      refine own_by (T' := T338) (g' := (mkF m 146 #[.val (.int p0_0), .val (.int p0_1), .val (.int p0_2), .val (.int p0_3), .val (.int p0_4), .val (.int (p0_0 &&& (3 : Int32))), .val (.ref b147), .val (.ref b160), .val (.ref b175), .val .null, .val (.ref b309), .val (.int (1 : Int32)), .val (.int ((p0_1 &&& (65535 : Int32)) % (p0_0 &&& (3 : Int32)))), .val (.int ((((p0_1.toUInt32 >>> ((16 : Int32) &&& 31).toUInt32).toInt32) &&& (32767 : Int32)) % (p0_0 &&& (3 : Int32)))), .unset, .unset, .unset] [(.int (48 : Int32)), (.int ((((p0_1.toUInt32 >>> ((16 : Int32) &&& 31).toUInt32).toInt32) &&& (32767 : Int32)) % (p0_0 &&& (3 : Int32)))), .null, (.ref b309)])) (fun t k => ?_) ?_
      · show Steps p.tables e below (T338.setTop (mkF m 138 #[.val (.int p0_0), .val (.int p0_1), .val (.int p0_2), .val (.int p0_3), .val (.int p0_4), .val (.int (p0_0 &&& (3 : Int32))), .val (.ref b147), .val (.ref b160), .val (.ref b175), .val .null, .val (.ref b309), .val (.int (1 : Int32)), .val (.int ((p0_1 &&& (65535 : Int32)) % (p0_0 &&& (3 : Int32)))), .val (.int ((((p0_1.toUInt32 >>> ((16 : Int32) &&& 31).toUInt32).toInt32) &&& (32767 : Int32)) % (p0_0 &&& (3 : Int32)))), .unset, .unset, .unset] [])) t
        refine XS.aload X338.here hx rfl (hb hby at_138) rfl rfl ?_
        show Steps p.tables e below (T338.setTop (mkF m 140 #[.val (.int p0_0), .val (.int p0_1), .val (.int p0_2), .val (.int p0_3), .val (.int p0_4), .val (.int (p0_0 &&& (3 : Int32))), .val (.ref b147), .val (.ref b160), .val (.ref b175), .val .null, .val (.ref b309), .val (.int (1 : Int32)), .val (.int ((p0_1 &&& (65535 : Int32)) % (p0_0 &&& (3 : Int32)))), .val (.int ((((p0_1.toUInt32 >>> ((16 : Int32) &&& 31).toUInt32).toInt32) &&& (32767 : Int32)) % (p0_0 &&& (3 : Int32)))), .unset, .unset, .unset] [(.ref b309)])) t
        refine XS.aload X338.here hx rfl (hb hby at_140) rfl rfl ?_
        show Steps p.tables e below (T338.setTop (mkF m 142 #[.val (.int p0_0), .val (.int p0_1), .val (.int p0_2), .val (.int p0_3), .val (.int p0_4), .val (.int (p0_0 &&& (3 : Int32))), .val (.ref b147), .val (.ref b160), .val (.ref b175), .val .null, .val (.ref b309), .val (.int (1 : Int32)), .val (.int ((p0_1 &&& (65535 : Int32)) % (p0_0 &&& (3 : Int32)))), .val (.int ((((p0_1.toUInt32 >>> ((16 : Int32) &&& 31).toUInt32).toInt32) &&& (32767 : Int32)) % (p0_0 &&& (3 : Int32)))), .unset, .unset, .unset] [.null, (.ref b309)])) t
        refine XS.iload X338.here hx rfl (hb hby at_142) rfl ?_
        show Steps p.tables e below (T338.setTop (mkF m 144 #[.val (.int p0_0), .val (.int p0_1), .val (.int p0_2), .val (.int p0_3), .val (.int p0_4), .val (.int (p0_0 &&& (3 : Int32))), .val (.ref b147), .val (.ref b160), .val (.ref b175), .val .null, .val (.ref b309), .val (.int (1 : Int32)), .val (.int ((p0_1 &&& (65535 : Int32)) % (p0_0 &&& (3 : Int32)))), .val (.int ((((p0_1.toUInt32 >>> ((16 : Int32) &&& 31).toUInt32).toInt32) &&& (32767 : Int32)) % (p0_0 &&& (3 : Int32)))), .unset, .unset, .unset] [(.int ((((p0_1.toUInt32 >>> ((16 : Int32) &&& 31).toUInt32).toInt32) &&& (32767 : Int32)) % (p0_0 &&& (3 : Int32)))), .null, (.ref b309)])) t
        refine XS.bipush X338.here hx rfl (hb hby at_144) ?_
        show Steps p.tables e below (T338.setTop (mkF m 146 #[.val (.int p0_0), .val (.int p0_1), .val (.int p0_2), .val (.int p0_3), .val (.int p0_4), .val (.int (p0_0 &&& (3 : Int32))), .val (.ref b147), .val (.ref b160), .val (.ref b175), .val .null, .val (.ref b309), .val (.int (1 : Int32)), .val (.int ((p0_1 &&& (65535 : Int32)) % (p0_0 &&& (3 : Int32)))), .val (.int ((((p0_1.toUInt32 >>> ((16 : Int32) &&& 31).toUInt32).toInt32) &&& (32767 : Int32)) % (p0_0 &&& (3 : Int32)))), .unset, .unset, .unset] [(.int (48 : Int32)), (.int ((((p0_1.toUInt32 >>> ((16 : Int32) &&& 31).toUInt32).toInt32) &&& (32767 : Int32)) % (p0_0 &&& (3 : Int32)))), .null, (.ref b309)])) t
        exact k
      obtain ⟨cq353, kq353, q353a, q353b, q353c⟩ := isOf hZ rfl f346
      obtain ⟨v353, _, ⟨T353, L353, k353, n353⟩, -, X353, ⟨Lc353, hQ353, l353, y353, z353⟩, st353⟩ := X338.virtualBack hx (y := (⟨"com/example/yohokit/yohokit/Parts", "write", "(Ljava/lang/String;II)V"⟩ : MethodName)) (z := (⟨"com/example/yohokit/yohokit/Parts", "write", "(Ljava/lang/String;II)V"⟩ : MethodName)) hown (mvT hZ (hw _ (List.mem_of_getElem? (i := 60) rfl))) (mvT hZ (hw _ (List.mem_of_getElem? (i := 61) rfl))) (notFace_of_selects (args := #[]) (mvT hZ (hw _ (List.mem_of_getElem? (i := 63) rfl)))) (mvT hZ (hw _ (List.mem_of_getElem? (i := 63) rfl))) (mvT hZ (hw _ (List.mem_of_getElem? (i := 62) rfl))) (by decide) (backOf (W := 0) (own_rm11 l Z a0 hw [] b309 .null ((((p0_1.toUInt32 >>> ((16 : Int32) &&& 31).toUInt32).toInt32) &&& (32767 : Int32)) % (p0_0 &&& (3 : Int32))) (48 : Int32) x321 y321 (p0_0 &&& (3 : Int32)) (([.null, .null, .null]).set ((p0_1 &&& (65535 : Int32)) % (p0_0 &&& (3 : Int32))).toNatClampNeg (.ref b175)) T338.heap n0 Z351 rfl f339 f340 (own_n3 p0_0).2 (own_mod (own_and_le _ 32767 32767 (by decide) (by decide)).1 hc337) (Or.inl rfl) f347 (Ne.symm nb321) ne_b309_x321 g1321 f348 ne_b309_y321 nb321 g2321) hZ (hw _ (List.mem_of_getElem? (i := 64) rfl)) (hw _ (List.mem_of_getElem? (i := 32) rfl)) (by decide) (by decide)) q353a q353c (g := (mkF m 146 #[.val (.int p0_0), .val (.int p0_1), .val (.int p0_2), .val (.int p0_3), .val (.int p0_4), .val (.int (p0_0 &&& (3 : Int32))), .val (.ref b147), .val (.ref b160), .val (.ref b175), .val .null, .val (.ref b309), .val (.int (1 : Int32)), .val (.int ((p0_1 &&& (65535 : Int32)) % (p0_0 &&& (3 : Int32)))), .val (.int ((((p0_1.toUInt32 >>> ((16 : Int32) &&& 31).toUInt32).toInt32) &&& (32767 : Int32)) % (p0_0 &&& (3 : Int32)))), .unset, .unset, .unset] [(.int (48 : Int32)), (.int ((((p0_1.toUInt32 >>> ((16 : Int32) &&& 31).toUInt32).toInt32) &&& (32767 : Int32)) % (p0_0 &&& (3 : Int32)))), .null, (.ref b309)])) rfl (by rw [hml]; rfl) (Steps.refl _) (argsL := [.null, (.int ((((p0_1.toUInt32 >>> ((16 : Int32) &&& 31).toUInt32).toInt32) &&& (32767 : Int32)) % (p0_0 &&& (3 : Int32)))), (.int (48 : Int32))]) (rest := []) (lenOf pd__Ljava_lang_String_II_V rfl) rfl (by show 2 * 0 + _ ≤ _; exact Nat.le_of_eq rfl) (hb hby at_146) (fun _ _ => ⟨rfl, rfl, (by decide : 7 + 0 ≤ _), (by decide : 16 + 0 ≤ _)⟩)
      dsimp only [Pt.U, Pt.locs, Pt.cells, Pt.slots] at X353 l353 y353 z353 st353 hQ353
      subst y353 z353
      obtain ⟨rfl, M353, K353, f354, f355⟩ := hQ353
      have f356 := f341.keep K353 (ninS ne_b147_x321 (ninS ne_b147_y321 nin0))
      have f357 := f342.keep K353 (ninS ne_b160_x321 (ninS ne_b160_y321 nin0))
      have f358 := f343.keep K353
      have f359 := f344.keep K353 (ninS ne_b175_x321 (ninS ne_b175_y321 nin0))
      have f360 := f345.keep K353 (ninS ne_b175_x321 (ninS ne_b175_y321 nin0))
      have f361 := f346.keep K353
      have f362 := f347.keep K353 (ninS ne_b309_x321 (ninS ne_b309_y321 nin0))
      have f363 := f348.keep K353 (ninS ne_b309_x321 (ninS ne_b309_y321 nin0))
      have K364 : Keep h0 T353.heap [] := K349.trans K353 (allS (Or.inr sz_x321) (allS (Or.inr sz_y321) all0))
      have O365 := O350.keep K353 (allS g1321 (allS g2321 all0))
      have Z366 := Nat.le_trans Z351 K353.1
      have N367 : Fr n0 L353 := by rw [l353]; exact Fr.app N352 M353
      refine own_via (T' := T353) (g' := (mkF m 149 #[.val (.int p0_0), .val (.int p0_1), .val (.int p0_2), .val (.int p0_3), .val (.int p0_4), .val (.int (p0_0 &&& (3 : Int32))), .val (.ref b147), .val (.ref b160), .val (.ref b175), .val .null, .val (.ref b309), .val (.int (1 : Int32)), .val (.int ((p0_1 &&& (65535 : Int32)) % (p0_0 &&& (3 : Int32)))), .val (.int ((((p0_1.toUInt32 >>> ((16 : Int32) &&& 31).toUInt32).toInt32) &&& (32767 : Int32)) % (p0_0 &&& (3 : Int32)))), .unset, .unset, .unset] [])) st353 ?_
      refine own_by (T' := T353) (g' := (mkF m 161 #[.val (.int p0_0), .val (.int p0_1), .val (.int p0_2), .val (.int p0_3), .val (.int p0_4), .val (.int (p0_0 &&& (3 : Int32))), .val (.ref b147), .val (.ref b160), .val (.ref b175), .val .null, .val (.ref b309), .val (.int (1 : Int32)), .val (.int ((p0_1 &&& (65535 : Int32)) % (p0_0 &&& (3 : Int32)))), .val (.int ((((p0_1.toUInt32 >>> ((16 : Int32) &&& 31).toUInt32).toInt32) &&& (32767 : Int32)) % (p0_0 &&& (3 : Int32)))), .val (.int ((p0_4 &&& (7 : Int32)) - (2 : Int32))), .unset, .unset] [(.int p0_3), (.ref b309)])) (fun t k => ?_) ?_
      · show Steps p.tables e below (T353.setTop (mkF m 149 #[.val (.int p0_0), .val (.int p0_1), .val (.int p0_2), .val (.int p0_3), .val (.int p0_4), .val (.int (p0_0 &&& (3 : Int32))), .val (.ref b147), .val (.ref b160), .val (.ref b175), .val .null, .val (.ref b309), .val (.int (1 : Int32)), .val (.int ((p0_1 &&& (65535 : Int32)) % (p0_0 &&& (3 : Int32)))), .val (.int ((((p0_1.toUInt32 >>> ((16 : Int32) &&& 31).toUInt32).toInt32) &&& (32767 : Int32)) % (p0_0 &&& (3 : Int32)))), .unset, .unset, .unset] [])) t
        refine XS.iload X353.here hx rfl (hb hby at_149) rfl ?_
        show Steps p.tables e below (T353.setTop (mkF m 151 #[.val (.int p0_0), .val (.int p0_1), .val (.int p0_2), .val (.int p0_3), .val (.int p0_4), .val (.int (p0_0 &&& (3 : Int32))), .val (.ref b147), .val (.ref b160), .val (.ref b175), .val .null, .val (.ref b309), .val (.int (1 : Int32)), .val (.int ((p0_1 &&& (65535 : Int32)) % (p0_0 &&& (3 : Int32)))), .val (.int ((((p0_1.toUInt32 >>> ((16 : Int32) &&& 31).toUInt32).toInt32) &&& (32767 : Int32)) % (p0_0 &&& (3 : Int32)))), .unset, .unset, .unset] [(.int p0_4)])) t
        refine XS.bipush X353.here hx rfl (hb hby at_151) ?_
        show Steps p.tables e below (T353.setTop (mkF m 153 #[.val (.int p0_0), .val (.int p0_1), .val (.int p0_2), .val (.int p0_3), .val (.int p0_4), .val (.int (p0_0 &&& (3 : Int32))), .val (.ref b147), .val (.ref b160), .val (.ref b175), .val .null, .val (.ref b309), .val (.int (1 : Int32)), .val (.int ((p0_1 &&& (65535 : Int32)) % (p0_0 &&& (3 : Int32)))), .val (.int ((((p0_1.toUInt32 >>> ((16 : Int32) &&& 31).toUInt32).toInt32) &&& (32767 : Int32)) % (p0_0 &&& (3 : Int32)))), .unset, .unset, .unset] [(.int (7 : Int32)), (.int p0_4)])) t
        refine XS.iand X353.here hx rfl (hb hby at_153) rfl ?_
        show Steps p.tables e below (T353.setTop (mkF m 154 #[.val (.int p0_0), .val (.int p0_1), .val (.int p0_2), .val (.int p0_3), .val (.int p0_4), .val (.int (p0_0 &&& (3 : Int32))), .val (.ref b147), .val (.ref b160), .val (.ref b175), .val .null, .val (.ref b309), .val (.int (1 : Int32)), .val (.int ((p0_1 &&& (65535 : Int32)) % (p0_0 &&& (3 : Int32)))), .val (.int ((((p0_1.toUInt32 >>> ((16 : Int32) &&& 31).toUInt32).toInt32) &&& (32767 : Int32)) % (p0_0 &&& (3 : Int32)))), .unset, .unset, .unset] [(.int (p0_4 &&& (7 : Int32)))])) t
        refine XS.iconst X353.here hx rfl (hb hby at_154) ?_
        show Steps p.tables e below (T353.setTop (mkF m 155 #[.val (.int p0_0), .val (.int p0_1), .val (.int p0_2), .val (.int p0_3), .val (.int p0_4), .val (.int (p0_0 &&& (3 : Int32))), .val (.ref b147), .val (.ref b160), .val (.ref b175), .val .null, .val (.ref b309), .val (.int (1 : Int32)), .val (.int ((p0_1 &&& (65535 : Int32)) % (p0_0 &&& (3 : Int32)))), .val (.int ((((p0_1.toUInt32 >>> ((16 : Int32) &&& 31).toUInt32).toInt32) &&& (32767 : Int32)) % (p0_0 &&& (3 : Int32)))), .unset, .unset, .unset] [(.int (2 : Int32)), (.int (p0_4 &&& (7 : Int32)))])) t
        refine XS.isub X353.here hx rfl (hb hby at_155) rfl ?_
        show Steps p.tables e below (T353.setTop (mkF m 156 #[.val (.int p0_0), .val (.int p0_1), .val (.int p0_2), .val (.int p0_3), .val (.int p0_4), .val (.int (p0_0 &&& (3 : Int32))), .val (.ref b147), .val (.ref b160), .val (.ref b175), .val .null, .val (.ref b309), .val (.int (1 : Int32)), .val (.int ((p0_1 &&& (65535 : Int32)) % (p0_0 &&& (3 : Int32)))), .val (.int ((((p0_1.toUInt32 >>> ((16 : Int32) &&& 31).toUInt32).toInt32) &&& (32767 : Int32)) % (p0_0 &&& (3 : Int32)))), .unset, .unset, .unset] [(.int ((p0_4 &&& (7 : Int32)) - (2 : Int32)))])) t
        refine XS.istore X353.here hx rfl (hb hby at_156) rfl (l' := #[.val (.int p0_0), .val (.int p0_1), .val (.int p0_2), .val (.int p0_3), .val (.int p0_4), .val (.int (p0_0 &&& (3 : Int32))), .val (.ref b147), .val (.ref b160), .val (.ref b175), .val .null, .val (.ref b309), .val (.int (1 : Int32)), .val (.int ((p0_1 &&& (65535 : Int32)) % (p0_0 &&& (3 : Int32)))), .val (.int ((((p0_1.toUInt32 >>> ((16 : Int32) &&& 31).toUInt32).toInt32) &&& (32767 : Int32)) % (p0_0 &&& (3 : Int32)))), .val (.int ((p0_4 &&& (7 : Int32)) - (2 : Int32))), .unset, .unset]) rfl ?_
        show Steps p.tables e below (T353.setTop (mkF m 158 #[.val (.int p0_0), .val (.int p0_1), .val (.int p0_2), .val (.int p0_3), .val (.int p0_4), .val (.int (p0_0 &&& (3 : Int32))), .val (.ref b147), .val (.ref b160), .val (.ref b175), .val .null, .val (.ref b309), .val (.int (1 : Int32)), .val (.int ((p0_1 &&& (65535 : Int32)) % (p0_0 &&& (3 : Int32)))), .val (.int ((((p0_1.toUInt32 >>> ((16 : Int32) &&& 31).toUInt32).toInt32) &&& (32767 : Int32)) % (p0_0 &&& (3 : Int32)))), .val (.int ((p0_4 &&& (7 : Int32)) - (2 : Int32))), .unset, .unset] [])) t
        refine XS.aload X353.here hx rfl (hb hby at_158) rfl rfl ?_
        show Steps p.tables e below (T353.setTop (mkF m 160 #[.val (.int p0_0), .val (.int p0_1), .val (.int p0_2), .val (.int p0_3), .val (.int p0_4), .val (.int (p0_0 &&& (3 : Int32))), .val (.ref b147), .val (.ref b160), .val (.ref b175), .val .null, .val (.ref b309), .val (.int (1 : Int32)), .val (.int ((p0_1 &&& (65535 : Int32)) % (p0_0 &&& (3 : Int32)))), .val (.int ((((p0_1.toUInt32 >>> ((16 : Int32) &&& 31).toUInt32).toInt32) &&& (32767 : Int32)) % (p0_0 &&& (3 : Int32)))), .val (.int ((p0_4 &&& (7 : Int32)) - (2 : Int32))), .unset, .unset] [(.ref b309)])) t
        refine XS.iloadN X353.here hx rfl (hb hby at_160) rfl ?_
        show Steps p.tables e below (T353.setTop (mkF m 161 #[.val (.int p0_0), .val (.int p0_1), .val (.int p0_2), .val (.int p0_3), .val (.int p0_4), .val (.int (p0_0 &&& (3 : Int32))), .val (.ref b147), .val (.ref b160), .val (.ref b175), .val .null, .val (.ref b309), .val (.int (1 : Int32)), .val (.int ((p0_1 &&& (65535 : Int32)) % (p0_0 &&& (3 : Int32)))), .val (.int ((((p0_1.toUInt32 >>> ((16 : Int32) &&& 31).toUInt32).toInt32) &&& (32767 : Int32)) % (p0_0 &&& (3 : Int32)))), .val (.int ((p0_4 &&& (7 : Int32)) - (2 : Int32))), .unset, .unset] [(.int p0_3), (.ref b309)])) t
        exact k
      obtain ⟨cq368, kq368, q368a, q368b, q368c⟩ := isOf hZ rfl f361
      obtain ⟨v368, _, ⟨T368, L368, k368, n368⟩, -, X368, ⟨Lc368, hQ368, l368, y368, z368⟩, st368⟩ := X353.virtualBack hx (y := (⟨"com/example/yohokit/yohokit/Parts", "keyAt", "(I)Ljava/lang/String;"⟩ : MethodName)) (z := (⟨"com/example/yohokit/yohokit/Parts", "keyAt", "(I)Ljava/lang/String;"⟩ : MethodName)) hown (mvT hZ (hw _ (List.mem_of_getElem? (i := 50) rfl))) (mvT hZ (hw _ (List.mem_of_getElem? (i := 51) rfl))) (notFace_of_selects (args := #[]) (mvT hZ (hw _ (List.mem_of_getElem? (i := 53) rfl)))) (mvT hZ (hw _ (List.mem_of_getElem? (i := 53) rfl))) (mvT hZ (hw _ (List.mem_of_getElem? (i := 52) rfl))) (by decide) (backOf (W := 0) (own_rm9 l Z a0 hw [] b309 p0_3 y321 (p0_0 &&& (3 : Int32)) ((([.null, .null, .null]).set ((p0_1 &&& (65535 : Int32)) % (p0_0 &&& (3 : Int32))).toNatClampNeg (.ref b175)).set ((((p0_1.toUInt32 >>> ((16 : Int32) &&& 31).toUInt32).toInt32) &&& (32767 : Int32)) % (p0_0 &&& (3 : Int32))).toNatClampNeg .null) T353.heap n0 Z366 f355 f363) hZ (hw _ (List.mem_of_getElem? (i := 54) rfl)) (hw _ (List.mem_of_getElem? (i := 32) rfl)) (by decide) (by decide)) q368a q368c (g := (mkF m 161 #[.val (.int p0_0), .val (.int p0_1), .val (.int p0_2), .val (.int p0_3), .val (.int p0_4), .val (.int (p0_0 &&& (3 : Int32))), .val (.ref b147), .val (.ref b160), .val (.ref b175), .val .null, .val (.ref b309), .val (.int (1 : Int32)), .val (.int ((p0_1 &&& (65535 : Int32)) % (p0_0 &&& (3 : Int32)))), .val (.int ((((p0_1.toUInt32 >>> ((16 : Int32) &&& 31).toUInt32).toInt32) &&& (32767 : Int32)) % (p0_0 &&& (3 : Int32)))), .val (.int ((p0_4 &&& (7 : Int32)) - (2 : Int32))), .unset, .unset] [(.int p0_3), (.ref b309)])) rfl (by rw [hml]; rfl) (Steps.refl _) (argsL := [(.int p0_3)]) (rest := []) (lenOf pd__I_Ljava_lang_String_ rfl) rfl (by show 2 * 0 + _ ≤ _; exact Nat.le_of_eq rfl) (hb hby at_161) (fun _ _ => ⟨rfl, rfl, (by decide : 7 + 0 ≤ _), (by decide : 16 + 0 ≤ _)⟩)
      dsimp only [Pt.U, Pt.locs, Pt.cells, Pt.slots] at X368 l368 y368 z368 st368 hQ368
      subst y368 z368
      obtain ⟨rfl, M368, e368, hr368⟩ := hQ368
      have N369 : Fr n0 L368 := by rw [l368]; exact Fr.app N367 M368
      refine own_via (T' := T368) (g' := (mkF m 164 #[.val (.int p0_0), .val (.int p0_1), .val (.int p0_2), .val (.int p0_3), .val (.int p0_4), .val (.int (p0_0 &&& (3 : Int32))), .val (.ref b147), .val (.ref b160), .val (.ref b175), .val .null, .val (.ref b309), .val (.int (1 : Int32)), .val (.int ((p0_1 &&& (65535 : Int32)) % (p0_0 &&& (3 : Int32)))), .val (.int ((((p0_1.toUInt32 >>> ((16 : Int32) &&& 31).toUInt32).toInt32) &&& (32767 : Int32)) % (p0_0 &&& (3 : Int32)))), .val (.int ((p0_4 &&& (7 : Int32)) - (2 : Int32))), .unset, .unset] [(own_F9 b309 p0_3 y321 (p0_0 &&& (3 : Int32)) ((([.null, .null, .null]).set ((p0_1 &&& (65535 : Int32)) % (p0_0 &&& (3 : Int32))).toNatClampNeg (.ref b175)).set ((((p0_1.toUInt32 >>> ((16 : Int32) &&& 31).toUInt32).toInt32) &&& (32767 : Int32)) % (p0_0 &&& (3 : Int32))).toNatClampNeg .null))])) st368 ?_
      refine own_by (T' := T368) (g' := (mkF m 170 #[.val (.int p0_0), .val (.int p0_1), .val (.int p0_2), .val (.int p0_3), .val (.int p0_4), .val (.int (p0_0 &&& (3 : Int32))), .val (.ref b147), .val (.ref b160), .val (.ref b175), .val .null, .val (.ref b309), .val (.int (1 : Int32)), .val (.int ((p0_1 &&& (65535 : Int32)) % (p0_0 &&& (3 : Int32)))), .val (.int ((((p0_1.toUInt32 >>> ((16 : Int32) &&& 31).toUInt32).toInt32) &&& (32767 : Int32)) % (p0_0 &&& (3 : Int32)))), .val (.int ((p0_4 &&& (7 : Int32)) - (2 : Int32))), .val (own_F9 b309 p0_3 y321 (p0_0 &&& (3 : Int32)) ((([.null, .null, .null]).set ((p0_1 &&& (65535 : Int32)) % (p0_0 &&& (3 : Int32))).toNatClampNeg (.ref b175)).set ((((p0_1.toUInt32 >>> ((16 : Int32) &&& 31).toUInt32).toInt32) &&& (32767 : Int32)) % (p0_0 &&& (3 : Int32))).toNatClampNeg .null)), .unset] [(.int ((p0_4 &&& (7 : Int32)) - (2 : Int32))), (.ref b309)])) (fun t k => ?_) ?_
      · show Steps p.tables e below (T368.setTop (mkF m 164 #[.val (.int p0_0), .val (.int p0_1), .val (.int p0_2), .val (.int p0_3), .val (.int p0_4), .val (.int (p0_0 &&& (3 : Int32))), .val (.ref b147), .val (.ref b160), .val (.ref b175), .val .null, .val (.ref b309), .val (.int (1 : Int32)), .val (.int ((p0_1 &&& (65535 : Int32)) % (p0_0 &&& (3 : Int32)))), .val (.int ((((p0_1.toUInt32 >>> ((16 : Int32) &&& 31).toUInt32).toInt32) &&& (32767 : Int32)) % (p0_0 &&& (3 : Int32)))), .val (.int ((p0_4 &&& (7 : Int32)) - (2 : Int32))), .unset, .unset] [(own_F9 b309 p0_3 y321 (p0_0 &&& (3 : Int32)) ((([.null, .null, .null]).set ((p0_1 &&& (65535 : Int32)) % (p0_0 &&& (3 : Int32))).toNatClampNeg (.ref b175)).set ((((p0_1.toUInt32 >>> ((16 : Int32) &&& 31).toUInt32).toInt32) &&& (32767 : Int32)) % (p0_0 &&& (3 : Int32))).toNatClampNeg .null))])) t
        refine XS.astore X368.here hx rfl (hb hby at_164) rfl hr368 (l' := #[.val (.int p0_0), .val (.int p0_1), .val (.int p0_2), .val (.int p0_3), .val (.int p0_4), .val (.int (p0_0 &&& (3 : Int32))), .val (.ref b147), .val (.ref b160), .val (.ref b175), .val .null, .val (.ref b309), .val (.int (1 : Int32)), .val (.int ((p0_1 &&& (65535 : Int32)) % (p0_0 &&& (3 : Int32)))), .val (.int ((((p0_1.toUInt32 >>> ((16 : Int32) &&& 31).toUInt32).toInt32) &&& (32767 : Int32)) % (p0_0 &&& (3 : Int32)))), .val (.int ((p0_4 &&& (7 : Int32)) - (2 : Int32))), .val (own_F9 b309 p0_3 y321 (p0_0 &&& (3 : Int32)) ((([.null, .null, .null]).set ((p0_1 &&& (65535 : Int32)) % (p0_0 &&& (3 : Int32))).toNatClampNeg (.ref b175)).set ((((p0_1.toUInt32 >>> ((16 : Int32) &&& 31).toUInt32).toInt32) &&& (32767 : Int32)) % (p0_0 &&& (3 : Int32))).toNatClampNeg .null)), .unset]) (XS.store1 (o := .unset) rfl (Or.inl rfl) (own_cat1 hr368)) ?_
        show Steps p.tables e below (T368.setTop (mkF m 166 #[.val (.int p0_0), .val (.int p0_1), .val (.int p0_2), .val (.int p0_3), .val (.int p0_4), .val (.int (p0_0 &&& (3 : Int32))), .val (.ref b147), .val (.ref b160), .val (.ref b175), .val .null, .val (.ref b309), .val (.int (1 : Int32)), .val (.int ((p0_1 &&& (65535 : Int32)) % (p0_0 &&& (3 : Int32)))), .val (.int ((((p0_1.toUInt32 >>> ((16 : Int32) &&& 31).toUInt32).toInt32) &&& (32767 : Int32)) % (p0_0 &&& (3 : Int32)))), .val (.int ((p0_4 &&& (7 : Int32)) - (2 : Int32))), .val (own_F9 b309 p0_3 y321 (p0_0 &&& (3 : Int32)) ((([.null, .null, .null]).set ((p0_1 &&& (65535 : Int32)) % (p0_0 &&& (3 : Int32))).toNatClampNeg (.ref b175)).set ((((p0_1.toUInt32 >>> ((16 : Int32) &&& 31).toUInt32).toInt32) &&& (32767 : Int32)) % (p0_0 &&& (3 : Int32))).toNatClampNeg .null)), .unset] [])) t
        refine XS.aload X368.here hx rfl (hb hby at_166) rfl rfl ?_
        show Steps p.tables e below (T368.setTop (mkF m 168 #[.val (.int p0_0), .val (.int p0_1), .val (.int p0_2), .val (.int p0_3), .val (.int p0_4), .val (.int (p0_0 &&& (3 : Int32))), .val (.ref b147), .val (.ref b160), .val (.ref b175), .val .null, .val (.ref b309), .val (.int (1 : Int32)), .val (.int ((p0_1 &&& (65535 : Int32)) % (p0_0 &&& (3 : Int32)))), .val (.int ((((p0_1.toUInt32 >>> ((16 : Int32) &&& 31).toUInt32).toInt32) &&& (32767 : Int32)) % (p0_0 &&& (3 : Int32)))), .val (.int ((p0_4 &&& (7 : Int32)) - (2 : Int32))), .val (own_F9 b309 p0_3 y321 (p0_0 &&& (3 : Int32)) ((([.null, .null, .null]).set ((p0_1 &&& (65535 : Int32)) % (p0_0 &&& (3 : Int32))).toNatClampNeg (.ref b175)).set ((((p0_1.toUInt32 >>> ((16 : Int32) &&& 31).toUInt32).toInt32) &&& (32767 : Int32)) % (p0_0 &&& (3 : Int32))).toNatClampNeg .null)), .unset] [(.ref b309)])) t
        refine XS.iload X368.here hx rfl (hb hby at_168) rfl ?_
        show Steps p.tables e below (T368.setTop (mkF m 170 #[.val (.int p0_0), .val (.int p0_1), .val (.int p0_2), .val (.int p0_3), .val (.int p0_4), .val (.int (p0_0 &&& (3 : Int32))), .val (.ref b147), .val (.ref b160), .val (.ref b175), .val .null, .val (.ref b309), .val (.int (1 : Int32)), .val (.int ((p0_1 &&& (65535 : Int32)) % (p0_0 &&& (3 : Int32)))), .val (.int ((((p0_1.toUInt32 >>> ((16 : Int32) &&& 31).toUInt32).toInt32) &&& (32767 : Int32)) % (p0_0 &&& (3 : Int32)))), .val (.int ((p0_4 &&& (7 : Int32)) - (2 : Int32))), .val (own_F9 b309 p0_3 y321 (p0_0 &&& (3 : Int32)) ((([.null, .null, .null]).set ((p0_1 &&& (65535 : Int32)) % (p0_0 &&& (3 : Int32))).toNatClampNeg (.ref b175)).set ((((p0_1.toUInt32 >>> ((16 : Int32) &&& 31).toUInt32).toInt32) &&& (32767 : Int32)) % (p0_0 &&& (3 : Int32))).toNatClampNeg .null)), .unset] [(.int ((p0_4 &&& (7 : Int32)) - (2 : Int32))), (.ref b309)])) t
        exact k
      obtain ⟨cq370, kq370, q370a, q370b, q370c⟩ := isOf hZ e368 f361
      obtain ⟨v370, _, ⟨T370, L370, k370, n370⟩, -, X370, ⟨Lc370, hQ370, l370, y370, z370⟩, st370⟩ := X368.virtualBack hx (y := (⟨"com/example/yohokit/yohokit/Parts", "keyAt", "(I)Ljava/lang/String;"⟩ : MethodName)) (z := (⟨"com/example/yohokit/yohokit/Parts", "keyAt", "(I)Ljava/lang/String;"⟩ : MethodName)) hown (mvT hZ (hw _ (List.mem_of_getElem? (i := 50) rfl))) (mvT hZ (hw _ (List.mem_of_getElem? (i := 51) rfl))) (notFace_of_selects (args := #[]) (mvT hZ (hw _ (List.mem_of_getElem? (i := 53) rfl)))) (mvT hZ (hw _ (List.mem_of_getElem? (i := 53) rfl))) (mvT hZ (hw _ (List.mem_of_getElem? (i := 52) rfl))) (by decide) (backOf (W := 0) (own_rm9 l Z a0 hw [] b309 ((p0_4 &&& (7 : Int32)) - (2 : Int32)) y321 (p0_0 &&& (3 : Int32)) ((([.null, .null, .null]).set ((p0_1 &&& (65535 : Int32)) % (p0_0 &&& (3 : Int32))).toNatClampNeg (.ref b175)).set ((((p0_1.toUInt32 >>> ((16 : Int32) &&& 31).toUInt32).toInt32) &&& (32767 : Int32)) % (p0_0 &&& (3 : Int32))).toNatClampNeg .null) T353.heap n0 Z366 f355 f363) hZ (hw _ (List.mem_of_getElem? (i := 54) rfl)) (hw _ (List.mem_of_getElem? (i := 32) rfl)) (by decide) (by decide)) q370a q370c (g := (mkF m 170 #[.val (.int p0_0), .val (.int p0_1), .val (.int p0_2), .val (.int p0_3), .val (.int p0_4), .val (.int (p0_0 &&& (3 : Int32))), .val (.ref b147), .val (.ref b160), .val (.ref b175), .val .null, .val (.ref b309), .val (.int (1 : Int32)), .val (.int ((p0_1 &&& (65535 : Int32)) % (p0_0 &&& (3 : Int32)))), .val (.int ((((p0_1.toUInt32 >>> ((16 : Int32) &&& 31).toUInt32).toInt32) &&& (32767 : Int32)) % (p0_0 &&& (3 : Int32)))), .val (.int ((p0_4 &&& (7 : Int32)) - (2 : Int32))), .val (own_F9 b309 p0_3 y321 (p0_0 &&& (3 : Int32)) ((([.null, .null, .null]).set ((p0_1 &&& (65535 : Int32)) % (p0_0 &&& (3 : Int32))).toNatClampNeg (.ref b175)).set ((((p0_1.toUInt32 >>> ((16 : Int32) &&& 31).toUInt32).toInt32) &&& (32767 : Int32)) % (p0_0 &&& (3 : Int32))).toNatClampNeg .null)), .unset] [(.int ((p0_4 &&& (7 : Int32)) - (2 : Int32))), (.ref b309)])) rfl (by rw [hml]; rfl) (Steps.refl _) (argsL := [(.int ((p0_4 &&& (7 : Int32)) - (2 : Int32)))]) (rest := []) (lenOf pd__I_Ljava_lang_String_ rfl) rfl (by show 2 * 0 + _ ≤ _; exact Nat.le_of_eq rfl) (hb hby at_170) (fun _ _ => ⟨rfl, e368, (by decide : 7 + 0 ≤ _), (by decide : 16 + 0 ≤ _)⟩)
      dsimp only [Pt.U, Pt.locs, Pt.cells, Pt.slots] at X370 l370 y370 z370 st370 hQ370
      subst y370 z370
      obtain ⟨rfl, M370, e370, hr370⟩ := hQ370
      have N371 : Fr n0 L370 := by rw [l370]; exact Fr.app N369 M370
      refine own_via (T' := T370) (g' := (mkF m 173 #[.val (.int p0_0), .val (.int p0_1), .val (.int p0_2), .val (.int p0_3), .val (.int p0_4), .val (.int (p0_0 &&& (3 : Int32))), .val (.ref b147), .val (.ref b160), .val (.ref b175), .val .null, .val (.ref b309), .val (.int (1 : Int32)), .val (.int ((p0_1 &&& (65535 : Int32)) % (p0_0 &&& (3 : Int32)))), .val (.int ((((p0_1.toUInt32 >>> ((16 : Int32) &&& 31).toUInt32).toInt32) &&& (32767 : Int32)) % (p0_0 &&& (3 : Int32)))), .val (.int ((p0_4 &&& (7 : Int32)) - (2 : Int32))), .val (own_F9 b309 p0_3 y321 (p0_0 &&& (3 : Int32)) ((([.null, .null, .null]).set ((p0_1 &&& (65535 : Int32)) % (p0_0 &&& (3 : Int32))).toNatClampNeg (.ref b175)).set ((((p0_1.toUInt32 >>> ((16 : Int32) &&& 31).toUInt32).toInt32) &&& (32767 : Int32)) % (p0_0 &&& (3 : Int32))).toNatClampNeg .null)), .unset] [(own_F9 b309 ((p0_4 &&& (7 : Int32)) - (2 : Int32)) y321 (p0_0 &&& (3 : Int32)) ((([.null, .null, .null]).set ((p0_1 &&& (65535 : Int32)) % (p0_0 &&& (3 : Int32))).toNatClampNeg (.ref b175)).set ((((p0_1.toUInt32 >>> ((16 : Int32) &&& 31).toUInt32).toInt32) &&& (32767 : Int32)) % (p0_0 &&& (3 : Int32))).toNatClampNeg .null))])) st370 ?_
      refine own_by (T' := T370) (g' := (mkF m 190 #[.val (.int p0_0), .val (.int p0_1), .val (.int p0_2), .val (.int p0_3), .val (.int p0_4), .val (.int (p0_0 &&& (3 : Int32))), .val (.ref b147), .val (.ref b160), .val (.ref b175), .val .null, .val (.ref b309), .val (.int (1 : Int32)), .val (.int ((p0_1 &&& (65535 : Int32)) % (p0_0 &&& (3 : Int32)))), .val (.int ((((p0_1.toUInt32 >>> ((16 : Int32) &&& 31).toUInt32).toInt32) &&& (32767 : Int32)) % (p0_0 &&& (3 : Int32)))), .val (.int ((p0_4 &&& (7 : Int32)) - (2 : Int32))), .val (own_F9 b309 p0_3 y321 (p0_0 &&& (3 : Int32)) ((([.null, .null, .null]).set ((p0_1 &&& (65535 : Int32)) % (p0_0 &&& (3 : Int32))).toNatClampNeg (.ref b175)).set ((((p0_1.toUInt32 >>> ((16 : Int32) &&& 31).toUInt32).toInt32) &&& (32767 : Int32)) % (p0_0 &&& (3 : Int32))).toNatClampNeg .null)), .val (own_F9 b309 ((p0_4 &&& (7 : Int32)) - (2 : Int32)) y321 (p0_0 &&& (3 : Int32)) ((([.null, .null, .null]).set ((p0_1 &&& (65535 : Int32)) % (p0_0 &&& (3 : Int32))).toNatClampNeg (.ref b175)).set ((((p0_1.toUInt32 >>> ((16 : Int32) &&& 31).toUInt32).toInt32) &&& (32767 : Int32)) % (p0_0 &&& (3 : Int32))).toNatClampNeg .null))] [.null, (.int ((((p0_1.toUInt32 >>> ((16 : Int32) &&& 31).toUInt32).toInt32) &&& (32767 : Int32)) % (p0_0 &&& (3 : Int32)))), (.ref b175), (.int ((p0_1 &&& (65535 : Int32)) % (p0_0 &&& (3 : Int32)))), (.int (1 : Int32)), (.int (p0_0 &&& (3 : Int32))), (.int p0_3), (own_F9 b309 p0_3 y321 (p0_0 &&& (3 : Int32)) ((([.null, .null, .null]).set ((p0_1 &&& (65535 : Int32)) % (p0_0 &&& (3 : Int32))).toNatClampNeg (.ref b175)).set ((((p0_1.toUInt32 >>> ((16 : Int32) &&& 31).toUInt32).toInt32) &&& (32767 : Int32)) % (p0_0 &&& (3 : Int32))).toNatClampNeg .null))])) (fun t k => ?_) ?_
      · show Steps p.tables e below (T370.setTop (mkF m 173 #[.val (.int p0_0), .val (.int p0_1), .val (.int p0_2), .val (.int p0_3), .val (.int p0_4), .val (.int (p0_0 &&& (3 : Int32))), .val (.ref b147), .val (.ref b160), .val (.ref b175), .val .null, .val (.ref b309), .val (.int (1 : Int32)), .val (.int ((p0_1 &&& (65535 : Int32)) % (p0_0 &&& (3 : Int32)))), .val (.int ((((p0_1.toUInt32 >>> ((16 : Int32) &&& 31).toUInt32).toInt32) &&& (32767 : Int32)) % (p0_0 &&& (3 : Int32)))), .val (.int ((p0_4 &&& (7 : Int32)) - (2 : Int32))), .val (own_F9 b309 p0_3 y321 (p0_0 &&& (3 : Int32)) ((([.null, .null, .null]).set ((p0_1 &&& (65535 : Int32)) % (p0_0 &&& (3 : Int32))).toNatClampNeg (.ref b175)).set ((((p0_1.toUInt32 >>> ((16 : Int32) &&& 31).toUInt32).toInt32) &&& (32767 : Int32)) % (p0_0 &&& (3 : Int32))).toNatClampNeg .null)), .unset] [(own_F9 b309 ((p0_4 &&& (7 : Int32)) - (2 : Int32)) y321 (p0_0 &&& (3 : Int32)) ((([.null, .null, .null]).set ((p0_1 &&& (65535 : Int32)) % (p0_0 &&& (3 : Int32))).toNatClampNeg (.ref b175)).set ((((p0_1.toUInt32 >>> ((16 : Int32) &&& 31).toUInt32).toInt32) &&& (32767 : Int32)) % (p0_0 &&& (3 : Int32))).toNatClampNeg .null))])) t
        refine XS.astore X370.here hx rfl (hb hby at_173) rfl hr370 (l' := #[.val (.int p0_0), .val (.int p0_1), .val (.int p0_2), .val (.int p0_3), .val (.int p0_4), .val (.int (p0_0 &&& (3 : Int32))), .val (.ref b147), .val (.ref b160), .val (.ref b175), .val .null, .val (.ref b309), .val (.int (1 : Int32)), .val (.int ((p0_1 &&& (65535 : Int32)) % (p0_0 &&& (3 : Int32)))), .val (.int ((((p0_1.toUInt32 >>> ((16 : Int32) &&& 31).toUInt32).toInt32) &&& (32767 : Int32)) % (p0_0 &&& (3 : Int32)))), .val (.int ((p0_4 &&& (7 : Int32)) - (2 : Int32))), .val (own_F9 b309 p0_3 y321 (p0_0 &&& (3 : Int32)) ((([.null, .null, .null]).set ((p0_1 &&& (65535 : Int32)) % (p0_0 &&& (3 : Int32))).toNatClampNeg (.ref b175)).set ((((p0_1.toUInt32 >>> ((16 : Int32) &&& 31).toUInt32).toInt32) &&& (32767 : Int32)) % (p0_0 &&& (3 : Int32))).toNatClampNeg .null)), .val (own_F9 b309 ((p0_4 &&& (7 : Int32)) - (2 : Int32)) y321 (p0_0 &&& (3 : Int32)) ((([.null, .null, .null]).set ((p0_1 &&& (65535 : Int32)) % (p0_0 &&& (3 : Int32))).toNatClampNeg (.ref b175)).set ((((p0_1.toUInt32 >>> ((16 : Int32) &&& 31).toUInt32).toInt32) &&& (32767 : Int32)) % (p0_0 &&& (3 : Int32))).toNatClampNeg .null))]) (XS.store1 (o := .unset) rfl (Or.inl rfl) (own_cat1 hr370)) ?_
        show Steps p.tables e below (T370.setTop (mkF m 175 #[.val (.int p0_0), .val (.int p0_1), .val (.int p0_2), .val (.int p0_3), .val (.int p0_4), .val (.int (p0_0 &&& (3 : Int32))), .val (.ref b147), .val (.ref b160), .val (.ref b175), .val .null, .val (.ref b309), .val (.int (1 : Int32)), .val (.int ((p0_1 &&& (65535 : Int32)) % (p0_0 &&& (3 : Int32)))), .val (.int ((((p0_1.toUInt32 >>> ((16 : Int32) &&& 31).toUInt32).toInt32) &&& (32767 : Int32)) % (p0_0 &&& (3 : Int32)))), .val (.int ((p0_4 &&& (7 : Int32)) - (2 : Int32))), .val (own_F9 b309 p0_3 y321 (p0_0 &&& (3 : Int32)) ((([.null, .null, .null]).set ((p0_1 &&& (65535 : Int32)) % (p0_0 &&& (3 : Int32))).toNatClampNeg (.ref b175)).set ((((p0_1.toUInt32 >>> ((16 : Int32) &&& 31).toUInt32).toInt32) &&& (32767 : Int32)) % (p0_0 &&& (3 : Int32))).toNatClampNeg .null)), .val (own_F9 b309 ((p0_4 &&& (7 : Int32)) - (2 : Int32)) y321 (p0_0 &&& (3 : Int32)) ((([.null, .null, .null]).set ((p0_1 &&& (65535 : Int32)) % (p0_0 &&& (3 : Int32))).toNatClampNeg (.ref b175)).set ((((p0_1.toUInt32 >>> ((16 : Int32) &&& 31).toUInt32).toInt32) &&& (32767 : Int32)) % (p0_0 &&& (3 : Int32))).toNatClampNeg .null))] [])) t
        refine XS.aload X370.here hx rfl (hb hby at_175) rfl hr368 ?_
        show Steps p.tables e below (T370.setTop (mkF m 177 #[.val (.int p0_0), .val (.int p0_1), .val (.int p0_2), .val (.int p0_3), .val (.int p0_4), .val (.int (p0_0 &&& (3 : Int32))), .val (.ref b147), .val (.ref b160), .val (.ref b175), .val .null, .val (.ref b309), .val (.int (1 : Int32)), .val (.int ((p0_1 &&& (65535 : Int32)) % (p0_0 &&& (3 : Int32)))), .val (.int ((((p0_1.toUInt32 >>> ((16 : Int32) &&& 31).toUInt32).toInt32) &&& (32767 : Int32)) % (p0_0 &&& (3 : Int32)))), .val (.int ((p0_4 &&& (7 : Int32)) - (2 : Int32))), .val (own_F9 b309 p0_3 y321 (p0_0 &&& (3 : Int32)) ((([.null, .null, .null]).set ((p0_1 &&& (65535 : Int32)) % (p0_0 &&& (3 : Int32))).toNatClampNeg (.ref b175)).set ((((p0_1.toUInt32 >>> ((16 : Int32) &&& 31).toUInt32).toInt32) &&& (32767 : Int32)) % (p0_0 &&& (3 : Int32))).toNatClampNeg .null)), .val (own_F9 b309 ((p0_4 &&& (7 : Int32)) - (2 : Int32)) y321 (p0_0 &&& (3 : Int32)) ((([.null, .null, .null]).set ((p0_1 &&& (65535 : Int32)) % (p0_0 &&& (3 : Int32))).toNatClampNeg (.ref b175)).set ((((p0_1.toUInt32 >>> ((16 : Int32) &&& 31).toUInt32).toInt32) &&& (32767 : Int32)) % (p0_0 &&& (3 : Int32))).toNatClampNeg .null))] [(own_F9 b309 p0_3 y321 (p0_0 &&& (3 : Int32)) ((([.null, .null, .null]).set ((p0_1 &&& (65535 : Int32)) % (p0_0 &&& (3 : Int32))).toNatClampNeg (.ref b175)).set ((((p0_1.toUInt32 >>> ((16 : Int32) &&& 31).toUInt32).toInt32) &&& (32767 : Int32)) % (p0_0 &&& (3 : Int32))).toNatClampNeg .null))])) t
        refine XS.iloadN X370.here hx rfl (hb hby at_177) rfl ?_
        show Steps p.tables e below (T370.setTop (mkF m 178 #[.val (.int p0_0), .val (.int p0_1), .val (.int p0_2), .val (.int p0_3), .val (.int p0_4), .val (.int (p0_0 &&& (3 : Int32))), .val (.ref b147), .val (.ref b160), .val (.ref b175), .val .null, .val (.ref b309), .val (.int (1 : Int32)), .val (.int ((p0_1 &&& (65535 : Int32)) % (p0_0 &&& (3 : Int32)))), .val (.int ((((p0_1.toUInt32 >>> ((16 : Int32) &&& 31).toUInt32).toInt32) &&& (32767 : Int32)) % (p0_0 &&& (3 : Int32)))), .val (.int ((p0_4 &&& (7 : Int32)) - (2 : Int32))), .val (own_F9 b309 p0_3 y321 (p0_0 &&& (3 : Int32)) ((([.null, .null, .null]).set ((p0_1 &&& (65535 : Int32)) % (p0_0 &&& (3 : Int32))).toNatClampNeg (.ref b175)).set ((((p0_1.toUInt32 >>> ((16 : Int32) &&& 31).toUInt32).toInt32) &&& (32767 : Int32)) % (p0_0 &&& (3 : Int32))).toNatClampNeg .null)), .val (own_F9 b309 ((p0_4 &&& (7 : Int32)) - (2 : Int32)) y321 (p0_0 &&& (3 : Int32)) ((([.null, .null, .null]).set ((p0_1 &&& (65535 : Int32)) % (p0_0 &&& (3 : Int32))).toNatClampNeg (.ref b175)).set ((((p0_1.toUInt32 >>> ((16 : Int32) &&& 31).toUInt32).toInt32) &&& (32767 : Int32)) % (p0_0 &&& (3 : Int32))).toNatClampNeg .null))] [(.int p0_3), (own_F9 b309 p0_3 y321 (p0_0 &&& (3 : Int32)) ((([.null, .null, .null]).set ((p0_1 &&& (65535 : Int32)) % (p0_0 &&& (3 : Int32))).toNatClampNeg (.ref b175)).set ((((p0_1.toUInt32 >>> ((16 : Int32) &&& 31).toUInt32).toInt32) &&& (32767 : Int32)) % (p0_0 &&& (3 : Int32))).toNatClampNeg .null))])) t
        refine XS.iload X370.here hx rfl (hb hby at_178) rfl ?_
        show Steps p.tables e below (T370.setTop (mkF m 180 #[.val (.int p0_0), .val (.int p0_1), .val (.int p0_2), .val (.int p0_3), .val (.int p0_4), .val (.int (p0_0 &&& (3 : Int32))), .val (.ref b147), .val (.ref b160), .val (.ref b175), .val .null, .val (.ref b309), .val (.int (1 : Int32)), .val (.int ((p0_1 &&& (65535 : Int32)) % (p0_0 &&& (3 : Int32)))), .val (.int ((((p0_1.toUInt32 >>> ((16 : Int32) &&& 31).toUInt32).toInt32) &&& (32767 : Int32)) % (p0_0 &&& (3 : Int32)))), .val (.int ((p0_4 &&& (7 : Int32)) - (2 : Int32))), .val (own_F9 b309 p0_3 y321 (p0_0 &&& (3 : Int32)) ((([.null, .null, .null]).set ((p0_1 &&& (65535 : Int32)) % (p0_0 &&& (3 : Int32))).toNatClampNeg (.ref b175)).set ((((p0_1.toUInt32 >>> ((16 : Int32) &&& 31).toUInt32).toInt32) &&& (32767 : Int32)) % (p0_0 &&& (3 : Int32))).toNatClampNeg .null)), .val (own_F9 b309 ((p0_4 &&& (7 : Int32)) - (2 : Int32)) y321 (p0_0 &&& (3 : Int32)) ((([.null, .null, .null]).set ((p0_1 &&& (65535 : Int32)) % (p0_0 &&& (3 : Int32))).toNatClampNeg (.ref b175)).set ((((p0_1.toUInt32 >>> ((16 : Int32) &&& 31).toUInt32).toInt32) &&& (32767 : Int32)) % (p0_0 &&& (3 : Int32))).toNatClampNeg .null))] [(.int (p0_0 &&& (3 : Int32))), (.int p0_3), (own_F9 b309 p0_3 y321 (p0_0 &&& (3 : Int32)) ((([.null, .null, .null]).set ((p0_1 &&& (65535 : Int32)) % (p0_0 &&& (3 : Int32))).toNatClampNeg (.ref b175)).set ((((p0_1.toUInt32 >>> ((16 : Int32) &&& 31).toUInt32).toInt32) &&& (32767 : Int32)) % (p0_0 &&& (3 : Int32))).toNatClampNeg .null))])) t
        refine XS.iload X370.here hx rfl (hb hby at_180) rfl ?_
        show Steps p.tables e below (T370.setTop (mkF m 182 #[.val (.int p0_0), .val (.int p0_1), .val (.int p0_2), .val (.int p0_3), .val (.int p0_4), .val (.int (p0_0 &&& (3 : Int32))), .val (.ref b147), .val (.ref b160), .val (.ref b175), .val .null, .val (.ref b309), .val (.int (1 : Int32)), .val (.int ((p0_1 &&& (65535 : Int32)) % (p0_0 &&& (3 : Int32)))), .val (.int ((((p0_1.toUInt32 >>> ((16 : Int32) &&& 31).toUInt32).toInt32) &&& (32767 : Int32)) % (p0_0 &&& (3 : Int32)))), .val (.int ((p0_4 &&& (7 : Int32)) - (2 : Int32))), .val (own_F9 b309 p0_3 y321 (p0_0 &&& (3 : Int32)) ((([.null, .null, .null]).set ((p0_1 &&& (65535 : Int32)) % (p0_0 &&& (3 : Int32))).toNatClampNeg (.ref b175)).set ((((p0_1.toUInt32 >>> ((16 : Int32) &&& 31).toUInt32).toInt32) &&& (32767 : Int32)) % (p0_0 &&& (3 : Int32))).toNatClampNeg .null)), .val (own_F9 b309 ((p0_4 &&& (7 : Int32)) - (2 : Int32)) y321 (p0_0 &&& (3 : Int32)) ((([.null, .null, .null]).set ((p0_1 &&& (65535 : Int32)) % (p0_0 &&& (3 : Int32))).toNatClampNeg (.ref b175)).set ((((p0_1.toUInt32 >>> ((16 : Int32) &&& 31).toUInt32).toInt32) &&& (32767 : Int32)) % (p0_0 &&& (3 : Int32))).toNatClampNeg .null))] [(.int (1 : Int32)), (.int (p0_0 &&& (3 : Int32))), (.int p0_3), (own_F9 b309 p0_3 y321 (p0_0 &&& (3 : Int32)) ((([.null, .null, .null]).set ((p0_1 &&& (65535 : Int32)) % (p0_0 &&& (3 : Int32))).toNatClampNeg (.ref b175)).set ((((p0_1.toUInt32 >>> ((16 : Int32) &&& 31).toUInt32).toInt32) &&& (32767 : Int32)) % (p0_0 &&& (3 : Int32))).toNatClampNeg .null))])) t
        refine XS.iload X370.here hx rfl (hb hby at_182) rfl ?_
        show Steps p.tables e below (T370.setTop (mkF m 184 #[.val (.int p0_0), .val (.int p0_1), .val (.int p0_2), .val (.int p0_3), .val (.int p0_4), .val (.int (p0_0 &&& (3 : Int32))), .val (.ref b147), .val (.ref b160), .val (.ref b175), .val .null, .val (.ref b309), .val (.int (1 : Int32)), .val (.int ((p0_1 &&& (65535 : Int32)) % (p0_0 &&& (3 : Int32)))), .val (.int ((((p0_1.toUInt32 >>> ((16 : Int32) &&& 31).toUInt32).toInt32) &&& (32767 : Int32)) % (p0_0 &&& (3 : Int32)))), .val (.int ((p0_4 &&& (7 : Int32)) - (2 : Int32))), .val (own_F9 b309 p0_3 y321 (p0_0 &&& (3 : Int32)) ((([.null, .null, .null]).set ((p0_1 &&& (65535 : Int32)) % (p0_0 &&& (3 : Int32))).toNatClampNeg (.ref b175)).set ((((p0_1.toUInt32 >>> ((16 : Int32) &&& 31).toUInt32).toInt32) &&& (32767 : Int32)) % (p0_0 &&& (3 : Int32))).toNatClampNeg .null)), .val (own_F9 b309 ((p0_4 &&& (7 : Int32)) - (2 : Int32)) y321 (p0_0 &&& (3 : Int32)) ((([.null, .null, .null]).set ((p0_1 &&& (65535 : Int32)) % (p0_0 &&& (3 : Int32))).toNatClampNeg (.ref b175)).set ((((p0_1.toUInt32 >>> ((16 : Int32) &&& 31).toUInt32).toInt32) &&& (32767 : Int32)) % (p0_0 &&& (3 : Int32))).toNatClampNeg .null))] [(.int ((p0_1 &&& (65535 : Int32)) % (p0_0 &&& (3 : Int32)))), (.int (1 : Int32)), (.int (p0_0 &&& (3 : Int32))), (.int p0_3), (own_F9 b309 p0_3 y321 (p0_0 &&& (3 : Int32)) ((([.null, .null, .null]).set ((p0_1 &&& (65535 : Int32)) % (p0_0 &&& (3 : Int32))).toNatClampNeg (.ref b175)).set ((((p0_1.toUInt32 >>> ((16 : Int32) &&& 31).toUInt32).toInt32) &&& (32767 : Int32)) % (p0_0 &&& (3 : Int32))).toNatClampNeg .null))])) t
        refine XS.aload X370.here hx rfl (hb hby at_184) rfl rfl ?_
        show Steps p.tables e below (T370.setTop (mkF m 186 #[.val (.int p0_0), .val (.int p0_1), .val (.int p0_2), .val (.int p0_3), .val (.int p0_4), .val (.int (p0_0 &&& (3 : Int32))), .val (.ref b147), .val (.ref b160), .val (.ref b175), .val .null, .val (.ref b309), .val (.int (1 : Int32)), .val (.int ((p0_1 &&& (65535 : Int32)) % (p0_0 &&& (3 : Int32)))), .val (.int ((((p0_1.toUInt32 >>> ((16 : Int32) &&& 31).toUInt32).toInt32) &&& (32767 : Int32)) % (p0_0 &&& (3 : Int32)))), .val (.int ((p0_4 &&& (7 : Int32)) - (2 : Int32))), .val (own_F9 b309 p0_3 y321 (p0_0 &&& (3 : Int32)) ((([.null, .null, .null]).set ((p0_1 &&& (65535 : Int32)) % (p0_0 &&& (3 : Int32))).toNatClampNeg (.ref b175)).set ((((p0_1.toUInt32 >>> ((16 : Int32) &&& 31).toUInt32).toInt32) &&& (32767 : Int32)) % (p0_0 &&& (3 : Int32))).toNatClampNeg .null)), .val (own_F9 b309 ((p0_4 &&& (7 : Int32)) - (2 : Int32)) y321 (p0_0 &&& (3 : Int32)) ((([.null, .null, .null]).set ((p0_1 &&& (65535 : Int32)) % (p0_0 &&& (3 : Int32))).toNatClampNeg (.ref b175)).set ((((p0_1.toUInt32 >>> ((16 : Int32) &&& 31).toUInt32).toInt32) &&& (32767 : Int32)) % (p0_0 &&& (3 : Int32))).toNatClampNeg .null))] [(.ref b175), (.int ((p0_1 &&& (65535 : Int32)) % (p0_0 &&& (3 : Int32)))), (.int (1 : Int32)), (.int (p0_0 &&& (3 : Int32))), (.int p0_3), (own_F9 b309 p0_3 y321 (p0_0 &&& (3 : Int32)) ((([.null, .null, .null]).set ((p0_1 &&& (65535 : Int32)) % (p0_0 &&& (3 : Int32))).toNatClampNeg (.ref b175)).set ((((p0_1.toUInt32 >>> ((16 : Int32) &&& 31).toUInt32).toInt32) &&& (32767 : Int32)) % (p0_0 &&& (3 : Int32))).toNatClampNeg .null))])) t
        refine XS.iload X370.here hx rfl (hb hby at_186) rfl ?_
        show Steps p.tables e below (T370.setTop (mkF m 188 #[.val (.int p0_0), .val (.int p0_1), .val (.int p0_2), .val (.int p0_3), .val (.int p0_4), .val (.int (p0_0 &&& (3 : Int32))), .val (.ref b147), .val (.ref b160), .val (.ref b175), .val .null, .val (.ref b309), .val (.int (1 : Int32)), .val (.int ((p0_1 &&& (65535 : Int32)) % (p0_0 &&& (3 : Int32)))), .val (.int ((((p0_1.toUInt32 >>> ((16 : Int32) &&& 31).toUInt32).toInt32) &&& (32767 : Int32)) % (p0_0 &&& (3 : Int32)))), .val (.int ((p0_4 &&& (7 : Int32)) - (2 : Int32))), .val (own_F9 b309 p0_3 y321 (p0_0 &&& (3 : Int32)) ((([.null, .null, .null]).set ((p0_1 &&& (65535 : Int32)) % (p0_0 &&& (3 : Int32))).toNatClampNeg (.ref b175)).set ((((p0_1.toUInt32 >>> ((16 : Int32) &&& 31).toUInt32).toInt32) &&& (32767 : Int32)) % (p0_0 &&& (3 : Int32))).toNatClampNeg .null)), .val (own_F9 b309 ((p0_4 &&& (7 : Int32)) - (2 : Int32)) y321 (p0_0 &&& (3 : Int32)) ((([.null, .null, .null]).set ((p0_1 &&& (65535 : Int32)) % (p0_0 &&& (3 : Int32))).toNatClampNeg (.ref b175)).set ((((p0_1.toUInt32 >>> ((16 : Int32) &&& 31).toUInt32).toInt32) &&& (32767 : Int32)) % (p0_0 &&& (3 : Int32))).toNatClampNeg .null))] [(.int ((((p0_1.toUInt32 >>> ((16 : Int32) &&& 31).toUInt32).toInt32) &&& (32767 : Int32)) % (p0_0 &&& (3 : Int32)))), (.ref b175), (.int ((p0_1 &&& (65535 : Int32)) % (p0_0 &&& (3 : Int32)))), (.int (1 : Int32)), (.int (p0_0 &&& (3 : Int32))), (.int p0_3), (own_F9 b309 p0_3 y321 (p0_0 &&& (3 : Int32)) ((([.null, .null, .null]).set ((p0_1 &&& (65535 : Int32)) % (p0_0 &&& (3 : Int32))).toNatClampNeg (.ref b175)).set ((((p0_1.toUInt32 >>> ((16 : Int32) &&& 31).toUInt32).toInt32) &&& (32767 : Int32)) % (p0_0 &&& (3 : Int32))).toNatClampNeg .null))])) t
        refine XS.aload X370.here hx rfl (hb hby at_188) rfl rfl ?_
        show Steps p.tables e below (T370.setTop (mkF m 190 #[.val (.int p0_0), .val (.int p0_1), .val (.int p0_2), .val (.int p0_3), .val (.int p0_4), .val (.int (p0_0 &&& (3 : Int32))), .val (.ref b147), .val (.ref b160), .val (.ref b175), .val .null, .val (.ref b309), .val (.int (1 : Int32)), .val (.int ((p0_1 &&& (65535 : Int32)) % (p0_0 &&& (3 : Int32)))), .val (.int ((((p0_1.toUInt32 >>> ((16 : Int32) &&& 31).toUInt32).toInt32) &&& (32767 : Int32)) % (p0_0 &&& (3 : Int32)))), .val (.int ((p0_4 &&& (7 : Int32)) - (2 : Int32))), .val (own_F9 b309 p0_3 y321 (p0_0 &&& (3 : Int32)) ((([.null, .null, .null]).set ((p0_1 &&& (65535 : Int32)) % (p0_0 &&& (3 : Int32))).toNatClampNeg (.ref b175)).set ((((p0_1.toUInt32 >>> ((16 : Int32) &&& 31).toUInt32).toInt32) &&& (32767 : Int32)) % (p0_0 &&& (3 : Int32))).toNatClampNeg .null)), .val (own_F9 b309 ((p0_4 &&& (7 : Int32)) - (2 : Int32)) y321 (p0_0 &&& (3 : Int32)) ((([.null, .null, .null]).set ((p0_1 &&& (65535 : Int32)) % (p0_0 &&& (3 : Int32))).toNatClampNeg (.ref b175)).set ((((p0_1.toUInt32 >>> ((16 : Int32) &&& 31).toUInt32).toInt32) &&& (32767 : Int32)) % (p0_0 &&& (3 : Int32))).toNatClampNeg .null))] [.null, (.int ((((p0_1.toUInt32 >>> ((16 : Int32) &&& 31).toUInt32).toInt32) &&& (32767 : Int32)) % (p0_0 &&& (3 : Int32)))), (.ref b175), (.int ((p0_1 &&& (65535 : Int32)) % (p0_0 &&& (3 : Int32)))), (.int (1 : Int32)), (.int (p0_0 &&& (3 : Int32))), (.int p0_3), (own_F9 b309 p0_3 y321 (p0_0 &&& (3 : Int32)) ((([.null, .null, .null]).set ((p0_1 &&& (65535 : Int32)) % (p0_0 &&& (3 : Int32))).toNatClampNeg (.ref b175)).set ((((p0_1.toUInt32 >>> ((16 : Int32) &&& 31).toUInt32).toInt32) &&& (32767 : Int32)) % (p0_0 &&& (3 : Int32))).toNatClampNeg .null))])) t
        exact k
      obtain ⟨v372, _, ⟨T372, L372, k372, n372⟩, -, X372, ⟨Lc372, hQ372, l372, y372, z372⟩, st372⟩ := Jvm.LawKit.callS X370 hx (y := (⟨"com/example/yohokit/yohokit/PartsKeyAtPinLaw", "expected", "(IIZILjava/lang/String;ILjava/lang/String;)Ljava/lang/String;"⟩ : MethodName)) hown (mvT hZ (hw _ (List.mem_of_getElem? (i := 55) rfl))) (mvT hZ (hw _ (List.mem_of_getElem? (i := 56) rfl))) (mvT hZ (hw _ (List.mem_of_getElem? (i := 57) rfl))) (mvT hZ (hw _ (List.mem_of_getElem? (i := 58) rfl))) (by decide) (backOf (W := 1) (own_rm10 l Z a0 hw [] p0_3 (p0_0 &&& (3 : Int32)) (1 : Int32) ((p0_1 &&& (65535 : Int32)) % (p0_0 &&& (3 : Int32))) b175 ((((p0_1.toUInt32 >>> ((16 : Int32) &&& 31).toUInt32).toInt32) &&& (32767 : Int32)) % (p0_0 &&& (3 : Int32))) .null T353.heap n0 Z366 rfl) hZ (hw _ (List.mem_of_getElem? (i := 58) rfl)) (hw _ (List.mem_of_getElem? (i := 57) rfl)) (by decide) (by decide)) (g := (mkF m 190 #[.val (.int p0_0), .val (.int p0_1), .val (.int p0_2), .val (.int p0_3), .val (.int p0_4), .val (.int (p0_0 &&& (3 : Int32))), .val (.ref b147), .val (.ref b160), .val (.ref b175), .val .null, .val (.ref b309), .val (.int (1 : Int32)), .val (.int ((p0_1 &&& (65535 : Int32)) % (p0_0 &&& (3 : Int32)))), .val (.int ((((p0_1.toUInt32 >>> ((16 : Int32) &&& 31).toUInt32).toInt32) &&& (32767 : Int32)) % (p0_0 &&& (3 : Int32)))), .val (.int ((p0_4 &&& (7 : Int32)) - (2 : Int32))), .val (own_F9 b309 p0_3 y321 (p0_0 &&& (3 : Int32)) ((([.null, .null, .null]).set ((p0_1 &&& (65535 : Int32)) % (p0_0 &&& (3 : Int32))).toNatClampNeg (.ref b175)).set ((((p0_1.toUInt32 >>> ((16 : Int32) &&& 31).toUInt32).toInt32) &&& (32767 : Int32)) % (p0_0 &&& (3 : Int32))).toNatClampNeg .null)), .val (own_F9 b309 ((p0_4 &&& (7 : Int32)) - (2 : Int32)) y321 (p0_0 &&& (3 : Int32)) ((([.null, .null, .null]).set ((p0_1 &&& (65535 : Int32)) % (p0_0 &&& (3 : Int32))).toNatClampNeg (.ref b175)).set ((((p0_1.toUInt32 >>> ((16 : Int32) &&& 31).toUInt32).toInt32) &&& (32767 : Int32)) % (p0_0 &&& (3 : Int32))).toNatClampNeg .null))] [.null, (.int ((((p0_1.toUInt32 >>> ((16 : Int32) &&& 31).toUInt32).toInt32) &&& (32767 : Int32)) % (p0_0 &&& (3 : Int32)))), (.ref b175), (.int ((p0_1 &&& (65535 : Int32)) % (p0_0 &&& (3 : Int32)))), (.int (1 : Int32)), (.int (p0_0 &&& (3 : Int32))), (.int p0_3), (own_F9 b309 p0_3 y321 (p0_0 &&& (3 : Int32)) ((([.null, .null, .null]).set ((p0_1 &&& (65535 : Int32)) % (p0_0 &&& (3 : Int32))).toNatClampNeg (.ref b175)).set ((((p0_1.toUInt32 >>> ((16 : Int32) &&& 31).toUInt32).toInt32) &&& (32767 : Int32)) % (p0_0 &&& (3 : Int32))).toNatClampNeg .null))])) rfl (by rw [hml]; rfl) (argsL := [(.int p0_3), (.int (p0_0 &&& (3 : Int32))), (.int (1 : Int32)), (.int ((p0_1 &&& (65535 : Int32)) % (p0_0 &&& (3 : Int32)))), (.ref b175), (.int ((((p0_1.toUInt32 >>> ((16 : Int32) &&& 31).toUInt32).toInt32) &&& (32767 : Int32)) % (p0_0 &&& (3 : Int32)))), .null]) (rest := [(own_F9 b309 p0_3 y321 (p0_0 &&& (3 : Int32)) ((([.null, .null, .null]).set ((p0_1 &&& (65535 : Int32)) % (p0_0 &&& (3 : Int32))).toNatClampNeg (.ref b175)).set ((((p0_1.toUInt32 >>> ((16 : Int32) &&& 31).toUInt32).toInt32) &&& (32767 : Int32)) % (p0_0 &&& (3 : Int32))).toNatClampNeg .null))]) (lenOf pd__IIZILjava_lang_String_ILjava_lang_String__Ljava_lang_String_ rfl) rfl (by show 2 * 0 + _ ≤ _; (simp only [List.map_cons, List.map_nil, List.sum_cons, List.sum_nil, own_cat1 hr368]) <;> exact Nat.le_of_eq rfl) (hb hby at_190) (fun _ _ => ⟨rfl, e370, (by decide : 7 + 0 ≤ _), (by decide : 16 + 0 ≤ _)⟩)
      dsimp only [Pt.U, Pt.locs, Pt.cells, Pt.slots] at X372 l372 y372 z372 st372 hQ372
      subst y372 z372
      obtain ⟨rfl, M372, e372, hr372⟩ := hQ372
      have N373 : Fr n0 L372 := by rw [l372]; exact Fr.app N371 M372
      refine own_by (T' := T372) (g' := (mkF m 193 #[.val (.int p0_0), .val (.int p0_1), .val (.int p0_2), .val (.int p0_3), .val (.int p0_4), .val (.int (p0_0 &&& (3 : Int32))), .val (.ref b147), .val (.ref b160), .val (.ref b175), .val .null, .val (.ref b309), .val (.int (1 : Int32)), .val (.int ((p0_1 &&& (65535 : Int32)) % (p0_0 &&& (3 : Int32)))), .val (.int ((((p0_1.toUInt32 >>> ((16 : Int32) &&& 31).toUInt32).toInt32) &&& (32767 : Int32)) % (p0_0 &&& (3 : Int32)))), .val (.int ((p0_4 &&& (7 : Int32)) - (2 : Int32))), .val (own_F9 b309 p0_3 y321 (p0_0 &&& (3 : Int32)) ((([.null, .null, .null]).set ((p0_1 &&& (65535 : Int32)) % (p0_0 &&& (3 : Int32))).toNatClampNeg (.ref b175)).set ((((p0_1.toUInt32 >>> ((16 : Int32) &&& 31).toUInt32).toInt32) &&& (32767 : Int32)) % (p0_0 &&& (3 : Int32))).toNatClampNeg .null)), .val (own_F9 b309 ((p0_4 &&& (7 : Int32)) - (2 : Int32)) y321 (p0_0 &&& (3 : Int32)) ((([.null, .null, .null]).set ((p0_1 &&& (65535 : Int32)) % (p0_0 &&& (3 : Int32))).toNatClampNeg (.ref b175)).set ((((p0_1.toUInt32 >>> ((16 : Int32) &&& 31).toUInt32).toInt32) &&& (32767 : Int32)) % (p0_0 &&& (3 : Int32))).toNatClampNeg .null))] [(own_F10 p0_3 (p0_0 &&& (3 : Int32)) (1 : Int32) ((p0_1 &&& (65535 : Int32)) % (p0_0 &&& (3 : Int32))) b175 ((((p0_1.toUInt32 >>> ((16 : Int32) &&& 31).toUInt32).toInt32) &&& (32767 : Int32)) % (p0_0 &&& (3 : Int32))) .null), (own_F9 b309 p0_3 y321 (p0_0 &&& (3 : Int32)) ((([.null, .null, .null]).set ((p0_1 &&& (65535 : Int32)) % (p0_0 &&& (3 : Int32))).toNatClampNeg (.ref b175)).set ((((p0_1.toUInt32 >>> ((16 : Int32) &&& 31).toUInt32).toInt32) &&& (32767 : Int32)) % (p0_0 &&& (3 : Int32))).toNatClampNeg .null))])) st372 ?_
      refine own_by (T' := T372) (g' := (mkF m 212 #[.val (.int p0_0), .val (.int p0_1), .val (.int p0_2), .val (.int p0_3), .val (.int p0_4), .val (.int (p0_0 &&& (3 : Int32))), .val (.ref b147), .val (.ref b160), .val (.ref b175), .val .null, .val (.ref b309), .val (.int (1 : Int32)), .val (.int ((p0_1 &&& (65535 : Int32)) % (p0_0 &&& (3 : Int32)))), .val (.int ((((p0_1.toUInt32 >>> ((16 : Int32) &&& 31).toUInt32).toInt32) &&& (32767 : Int32)) % (p0_0 &&& (3 : Int32)))), .val (.int ((p0_4 &&& (7 : Int32)) - (2 : Int32))), .val (own_F9 b309 p0_3 y321 (p0_0 &&& (3 : Int32)) ((([.null, .null, .null]).set ((p0_1 &&& (65535 : Int32)) % (p0_0 &&& (3 : Int32))).toNatClampNeg (.ref b175)).set ((((p0_1.toUInt32 >>> ((16 : Int32) &&& 31).toUInt32).toInt32) &&& (32767 : Int32)) % (p0_0 &&& (3 : Int32))).toNatClampNeg .null)), .val (own_F9 b309 ((p0_4 &&& (7 : Int32)) - (2 : Int32)) y321 (p0_0 &&& (3 : Int32)) ((([.null, .null, .null]).set ((p0_1 &&& (65535 : Int32)) % (p0_0 &&& (3 : Int32))).toNatClampNeg (.ref b175)).set ((((p0_1.toUInt32 >>> ((16 : Int32) &&& 31).toUInt32).toInt32) &&& (32767 : Int32)) % (p0_0 &&& (3 : Int32))).toNatClampNeg .null))] [.null, (.int ((((p0_1.toUInt32 >>> ((16 : Int32) &&& 31).toUInt32).toInt32) &&& (32767 : Int32)) % (p0_0 &&& (3 : Int32)))), (.ref b175), (.int ((p0_1 &&& (65535 : Int32)) % (p0_0 &&& (3 : Int32)))), (.int (1 : Int32)), (.int (p0_0 &&& (3 : Int32))), (.int ((p0_4 &&& (7 : Int32)) - (2 : Int32))), (own_F9 b309 ((p0_4 &&& (7 : Int32)) - (2 : Int32)) y321 (p0_0 &&& (3 : Int32)) ((([.null, .null, .null]).set ((p0_1 &&& (65535 : Int32)) % (p0_0 &&& (3 : Int32))).toNatClampNeg (.ref b175)).set ((((p0_1.toUInt32 >>> ((16 : Int32) &&& 31).toUInt32).toInt32) &&& (32767 : Int32)) % (p0_0 &&& (3 : Int32))).toNatClampNeg .null))])) (fun t k => ?_) ?_
      · show Steps p.tables e below (T372.setTop (mkF m 193 #[.val (.int p0_0), .val (.int p0_1), .val (.int p0_2), .val (.int p0_3), .val (.int p0_4), .val (.int (p0_0 &&& (3 : Int32))), .val (.ref b147), .val (.ref b160), .val (.ref b175), .val .null, .val (.ref b309), .val (.int (1 : Int32)), .val (.int ((p0_1 &&& (65535 : Int32)) % (p0_0 &&& (3 : Int32)))), .val (.int ((((p0_1.toUInt32 >>> ((16 : Int32) &&& 31).toUInt32).toInt32) &&& (32767 : Int32)) % (p0_0 &&& (3 : Int32)))), .val (.int ((p0_4 &&& (7 : Int32)) - (2 : Int32))), .val (own_F9 b309 p0_3 y321 (p0_0 &&& (3 : Int32)) ((([.null, .null, .null]).set ((p0_1 &&& (65535 : Int32)) % (p0_0 &&& (3 : Int32))).toNatClampNeg (.ref b175)).set ((((p0_1.toUInt32 >>> ((16 : Int32) &&& 31).toUInt32).toInt32) &&& (32767 : Int32)) % (p0_0 &&& (3 : Int32))).toNatClampNeg .null)), .val (own_F9 b309 ((p0_4 &&& (7 : Int32)) - (2 : Int32)) y321 (p0_0 &&& (3 : Int32)) ((([.null, .null, .null]).set ((p0_1 &&& (65535 : Int32)) % (p0_0 &&& (3 : Int32))).toNatClampNeg (.ref b175)).set ((((p0_1.toUInt32 >>> ((16 : Int32) &&& 31).toUInt32).toInt32) &&& (32767 : Int32)) % (p0_0 &&& (3 : Int32))).toNatClampNeg .null))] [(own_F10 p0_3 (p0_0 &&& (3 : Int32)) (1 : Int32) ((p0_1 &&& (65535 : Int32)) % (p0_0 &&& (3 : Int32))) b175 ((((p0_1.toUInt32 >>> ((16 : Int32) &&& 31).toUInt32).toInt32) &&& (32767 : Int32)) % (p0_0 &&& (3 : Int32))) .null), (own_F9 b309 p0_3 y321 (p0_0 &&& (3 : Int32)) ((([.null, .null, .null]).set ((p0_1 &&& (65535 : Int32)) % (p0_0 &&& (3 : Int32))).toNatClampNeg (.ref b175)).set ((((p0_1.toUInt32 >>> ((16 : Int32) &&& 31).toUInt32).toInt32) &&& (32767 : Int32)) % (p0_0 &&& (3 : Int32))).toNatClampNeg .null))])) t
        refine Jvm.RoadKit.acmp (g := (mkF m 193 #[.val (.int p0_0), .val (.int p0_1), .val (.int p0_2), .val (.int p0_3), .val (.int p0_4), .val (.int (p0_0 &&& (3 : Int32))), .val (.ref b147), .val (.ref b160), .val (.ref b175), .val .null, .val (.ref b309), .val (.int (1 : Int32)), .val (.int ((p0_1 &&& (65535 : Int32)) % (p0_0 &&& (3 : Int32)))), .val (.int ((((p0_1.toUInt32 >>> ((16 : Int32) &&& 31).toUInt32).toInt32) &&& (32767 : Int32)) % (p0_0 &&& (3 : Int32)))), .val (.int ((p0_4 &&& (7 : Int32)) - (2 : Int32))), .val (own_F9 b309 p0_3 y321 (p0_0 &&& (3 : Int32)) ((([.null, .null, .null]).set ((p0_1 &&& (65535 : Int32)) % (p0_0 &&& (3 : Int32))).toNatClampNeg (.ref b175)).set ((((p0_1.toUInt32 >>> ((16 : Int32) &&& 31).toUInt32).toInt32) &&& (32767 : Int32)) % (p0_0 &&& (3 : Int32))).toNatClampNeg .null)), .val (own_F9 b309 ((p0_4 &&& (7 : Int32)) - (2 : Int32)) y321 (p0_0 &&& (3 : Int32)) ((([.null, .null, .null]).set ((p0_1 &&& (65535 : Int32)) % (p0_0 &&& (3 : Int32))).toNatClampNeg (.ref b175)).set ((((p0_1.toUInt32 >>> ((16 : Int32) &&& 31).toUInt32).toInt32) &&& (32767 : Int32)) % (p0_0 &&& (3 : Int32))).toNatClampNeg .null))] [(own_F10 p0_3 (p0_0 &&& (3 : Int32)) (1 : Int32) ((p0_1 &&& (65535 : Int32)) % (p0_0 &&& (3 : Int32))) b175 ((((p0_1.toUInt32 >>> ((16 : Int32) &&& 31).toUInt32).toInt32) &&& (32767 : Int32)) % (p0_0 &&& (3 : Int32))) .null), (own_F9 b309 p0_3 y321 (p0_0 &&& (3 : Int32)) ((([.null, .null, .null]).set ((p0_1 &&& (65535 : Int32)) % (p0_0 &&& (3 : Int32))).toNatClampNeg (.ref b175)).set ((((p0_1.toUInt32 >>> ((16 : Int32) &&& 31).toUInt32).toInt32) &&& (32767 : Int32)) % (p0_0 &&& (3 : Int32))).toNatClampNeg .null))])) X372 hx rfl hr368 hr372 (pc0 := 193) (pc' := 196) (same := true) rfl (hb hby at_193) rfl (decide_eq_true (own_ag1 (own_n3 p0_0) (own_mod (own_and_le _ 65535 65535 (by decide) (by decide)).1 hc337) (own_mod (own_and_le _ 32767 32767 (by decide) (by decide)).1 hc337))) (by decide) (by decide) ?_
        show Steps p.tables e below (T372.setTop (mkF m 196 #[.val (.int p0_0), .val (.int p0_1), .val (.int p0_2), .val (.int p0_3), .val (.int p0_4), .val (.int (p0_0 &&& (3 : Int32))), .val (.ref b147), .val (.ref b160), .val (.ref b175), .val .null, .val (.ref b309), .val (.int (1 : Int32)), .val (.int ((p0_1 &&& (65535 : Int32)) % (p0_0 &&& (3 : Int32)))), .val (.int ((((p0_1.toUInt32 >>> ((16 : Int32) &&& 31).toUInt32).toInt32) &&& (32767 : Int32)) % (p0_0 &&& (3 : Int32)))), .val (.int ((p0_4 &&& (7 : Int32)) - (2 : Int32))), .val (own_F9 b309 p0_3 y321 (p0_0 &&& (3 : Int32)) ((([.null, .null, .null]).set ((p0_1 &&& (65535 : Int32)) % (p0_0 &&& (3 : Int32))).toNatClampNeg (.ref b175)).set ((((p0_1.toUInt32 >>> ((16 : Int32) &&& 31).toUInt32).toInt32) &&& (32767 : Int32)) % (p0_0 &&& (3 : Int32))).toNatClampNeg .null)), .val (own_F9 b309 ((p0_4 &&& (7 : Int32)) - (2 : Int32)) y321 (p0_0 &&& (3 : Int32)) ((([.null, .null, .null]).set ((p0_1 &&& (65535 : Int32)) % (p0_0 &&& (3 : Int32))).toNatClampNeg (.ref b175)).set ((((p0_1.toUInt32 >>> ((16 : Int32) &&& 31).toUInt32).toInt32) &&& (32767 : Int32)) % (p0_0 &&& (3 : Int32))).toNatClampNeg .null))] [])) t
        refine XS.aload X372.here hx rfl (hb hby at_196) rfl hr370 ?_
        show Steps p.tables e below (T372.setTop (mkF m 198 #[.val (.int p0_0), .val (.int p0_1), .val (.int p0_2), .val (.int p0_3), .val (.int p0_4), .val (.int (p0_0 &&& (3 : Int32))), .val (.ref b147), .val (.ref b160), .val (.ref b175), .val .null, .val (.ref b309), .val (.int (1 : Int32)), .val (.int ((p0_1 &&& (65535 : Int32)) % (p0_0 &&& (3 : Int32)))), .val (.int ((((p0_1.toUInt32 >>> ((16 : Int32) &&& 31).toUInt32).toInt32) &&& (32767 : Int32)) % (p0_0 &&& (3 : Int32)))), .val (.int ((p0_4 &&& (7 : Int32)) - (2 : Int32))), .val (own_F9 b309 p0_3 y321 (p0_0 &&& (3 : Int32)) ((([.null, .null, .null]).set ((p0_1 &&& (65535 : Int32)) % (p0_0 &&& (3 : Int32))).toNatClampNeg (.ref b175)).set ((((p0_1.toUInt32 >>> ((16 : Int32) &&& 31).toUInt32).toInt32) &&& (32767 : Int32)) % (p0_0 &&& (3 : Int32))).toNatClampNeg .null)), .val (own_F9 b309 ((p0_4 &&& (7 : Int32)) - (2 : Int32)) y321 (p0_0 &&& (3 : Int32)) ((([.null, .null, .null]).set ((p0_1 &&& (65535 : Int32)) % (p0_0 &&& (3 : Int32))).toNatClampNeg (.ref b175)).set ((((p0_1.toUInt32 >>> ((16 : Int32) &&& 31).toUInt32).toInt32) &&& (32767 : Int32)) % (p0_0 &&& (3 : Int32))).toNatClampNeg .null))] [(own_F9 b309 ((p0_4 &&& (7 : Int32)) - (2 : Int32)) y321 (p0_0 &&& (3 : Int32)) ((([.null, .null, .null]).set ((p0_1 &&& (65535 : Int32)) % (p0_0 &&& (3 : Int32))).toNatClampNeg (.ref b175)).set ((((p0_1.toUInt32 >>> ((16 : Int32) &&& 31).toUInt32).toInt32) &&& (32767 : Int32)) % (p0_0 &&& (3 : Int32))).toNatClampNeg .null))])) t
        refine XS.iload X372.here hx rfl (hb hby at_198) rfl ?_
        show Steps p.tables e below (T372.setTop (mkF m 200 #[.val (.int p0_0), .val (.int p0_1), .val (.int p0_2), .val (.int p0_3), .val (.int p0_4), .val (.int (p0_0 &&& (3 : Int32))), .val (.ref b147), .val (.ref b160), .val (.ref b175), .val .null, .val (.ref b309), .val (.int (1 : Int32)), .val (.int ((p0_1 &&& (65535 : Int32)) % (p0_0 &&& (3 : Int32)))), .val (.int ((((p0_1.toUInt32 >>> ((16 : Int32) &&& 31).toUInt32).toInt32) &&& (32767 : Int32)) % (p0_0 &&& (3 : Int32)))), .val (.int ((p0_4 &&& (7 : Int32)) - (2 : Int32))), .val (own_F9 b309 p0_3 y321 (p0_0 &&& (3 : Int32)) ((([.null, .null, .null]).set ((p0_1 &&& (65535 : Int32)) % (p0_0 &&& (3 : Int32))).toNatClampNeg (.ref b175)).set ((((p0_1.toUInt32 >>> ((16 : Int32) &&& 31).toUInt32).toInt32) &&& (32767 : Int32)) % (p0_0 &&& (3 : Int32))).toNatClampNeg .null)), .val (own_F9 b309 ((p0_4 &&& (7 : Int32)) - (2 : Int32)) y321 (p0_0 &&& (3 : Int32)) ((([.null, .null, .null]).set ((p0_1 &&& (65535 : Int32)) % (p0_0 &&& (3 : Int32))).toNatClampNeg (.ref b175)).set ((((p0_1.toUInt32 >>> ((16 : Int32) &&& 31).toUInt32).toInt32) &&& (32767 : Int32)) % (p0_0 &&& (3 : Int32))).toNatClampNeg .null))] [(.int ((p0_4 &&& (7 : Int32)) - (2 : Int32))), (own_F9 b309 ((p0_4 &&& (7 : Int32)) - (2 : Int32)) y321 (p0_0 &&& (3 : Int32)) ((([.null, .null, .null]).set ((p0_1 &&& (65535 : Int32)) % (p0_0 &&& (3 : Int32))).toNatClampNeg (.ref b175)).set ((((p0_1.toUInt32 >>> ((16 : Int32) &&& 31).toUInt32).toInt32) &&& (32767 : Int32)) % (p0_0 &&& (3 : Int32))).toNatClampNeg .null))])) t
        refine XS.iload X372.here hx rfl (hb hby at_200) rfl ?_
        show Steps p.tables e below (T372.setTop (mkF m 202 #[.val (.int p0_0), .val (.int p0_1), .val (.int p0_2), .val (.int p0_3), .val (.int p0_4), .val (.int (p0_0 &&& (3 : Int32))), .val (.ref b147), .val (.ref b160), .val (.ref b175), .val .null, .val (.ref b309), .val (.int (1 : Int32)), .val (.int ((p0_1 &&& (65535 : Int32)) % (p0_0 &&& (3 : Int32)))), .val (.int ((((p0_1.toUInt32 >>> ((16 : Int32) &&& 31).toUInt32).toInt32) &&& (32767 : Int32)) % (p0_0 &&& (3 : Int32)))), .val (.int ((p0_4 &&& (7 : Int32)) - (2 : Int32))), .val (own_F9 b309 p0_3 y321 (p0_0 &&& (3 : Int32)) ((([.null, .null, .null]).set ((p0_1 &&& (65535 : Int32)) % (p0_0 &&& (3 : Int32))).toNatClampNeg (.ref b175)).set ((((p0_1.toUInt32 >>> ((16 : Int32) &&& 31).toUInt32).toInt32) &&& (32767 : Int32)) % (p0_0 &&& (3 : Int32))).toNatClampNeg .null)), .val (own_F9 b309 ((p0_4 &&& (7 : Int32)) - (2 : Int32)) y321 (p0_0 &&& (3 : Int32)) ((([.null, .null, .null]).set ((p0_1 &&& (65535 : Int32)) % (p0_0 &&& (3 : Int32))).toNatClampNeg (.ref b175)).set ((((p0_1.toUInt32 >>> ((16 : Int32) &&& 31).toUInt32).toInt32) &&& (32767 : Int32)) % (p0_0 &&& (3 : Int32))).toNatClampNeg .null))] [(.int (p0_0 &&& (3 : Int32))), (.int ((p0_4 &&& (7 : Int32)) - (2 : Int32))), (own_F9 b309 ((p0_4 &&& (7 : Int32)) - (2 : Int32)) y321 (p0_0 &&& (3 : Int32)) ((([.null, .null, .null]).set ((p0_1 &&& (65535 : Int32)) % (p0_0 &&& (3 : Int32))).toNatClampNeg (.ref b175)).set ((((p0_1.toUInt32 >>> ((16 : Int32) &&& 31).toUInt32).toInt32) &&& (32767 : Int32)) % (p0_0 &&& (3 : Int32))).toNatClampNeg .null))])) t
        refine XS.iload X372.here hx rfl (hb hby at_202) rfl ?_
        show Steps p.tables e below (T372.setTop (mkF m 204 #[.val (.int p0_0), .val (.int p0_1), .val (.int p0_2), .val (.int p0_3), .val (.int p0_4), .val (.int (p0_0 &&& (3 : Int32))), .val (.ref b147), .val (.ref b160), .val (.ref b175), .val .null, .val (.ref b309), .val (.int (1 : Int32)), .val (.int ((p0_1 &&& (65535 : Int32)) % (p0_0 &&& (3 : Int32)))), .val (.int ((((p0_1.toUInt32 >>> ((16 : Int32) &&& 31).toUInt32).toInt32) &&& (32767 : Int32)) % (p0_0 &&& (3 : Int32)))), .val (.int ((p0_4 &&& (7 : Int32)) - (2 : Int32))), .val (own_F9 b309 p0_3 y321 (p0_0 &&& (3 : Int32)) ((([.null, .null, .null]).set ((p0_1 &&& (65535 : Int32)) % (p0_0 &&& (3 : Int32))).toNatClampNeg (.ref b175)).set ((((p0_1.toUInt32 >>> ((16 : Int32) &&& 31).toUInt32).toInt32) &&& (32767 : Int32)) % (p0_0 &&& (3 : Int32))).toNatClampNeg .null)), .val (own_F9 b309 ((p0_4 &&& (7 : Int32)) - (2 : Int32)) y321 (p0_0 &&& (3 : Int32)) ((([.null, .null, .null]).set ((p0_1 &&& (65535 : Int32)) % (p0_0 &&& (3 : Int32))).toNatClampNeg (.ref b175)).set ((((p0_1.toUInt32 >>> ((16 : Int32) &&& 31).toUInt32).toInt32) &&& (32767 : Int32)) % (p0_0 &&& (3 : Int32))).toNatClampNeg .null))] [(.int (1 : Int32)), (.int (p0_0 &&& (3 : Int32))), (.int ((p0_4 &&& (7 : Int32)) - (2 : Int32))), (own_F9 b309 ((p0_4 &&& (7 : Int32)) - (2 : Int32)) y321 (p0_0 &&& (3 : Int32)) ((([.null, .null, .null]).set ((p0_1 &&& (65535 : Int32)) % (p0_0 &&& (3 : Int32))).toNatClampNeg (.ref b175)).set ((((p0_1.toUInt32 >>> ((16 : Int32) &&& 31).toUInt32).toInt32) &&& (32767 : Int32)) % (p0_0 &&& (3 : Int32))).toNatClampNeg .null))])) t
        refine XS.iload X372.here hx rfl (hb hby at_204) rfl ?_
        show Steps p.tables e below (T372.setTop (mkF m 206 #[.val (.int p0_0), .val (.int p0_1), .val (.int p0_2), .val (.int p0_3), .val (.int p0_4), .val (.int (p0_0 &&& (3 : Int32))), .val (.ref b147), .val (.ref b160), .val (.ref b175), .val .null, .val (.ref b309), .val (.int (1 : Int32)), .val (.int ((p0_1 &&& (65535 : Int32)) % (p0_0 &&& (3 : Int32)))), .val (.int ((((p0_1.toUInt32 >>> ((16 : Int32) &&& 31).toUInt32).toInt32) &&& (32767 : Int32)) % (p0_0 &&& (3 : Int32)))), .val (.int ((p0_4 &&& (7 : Int32)) - (2 : Int32))), .val (own_F9 b309 p0_3 y321 (p0_0 &&& (3 : Int32)) ((([.null, .null, .null]).set ((p0_1 &&& (65535 : Int32)) % (p0_0 &&& (3 : Int32))).toNatClampNeg (.ref b175)).set ((((p0_1.toUInt32 >>> ((16 : Int32) &&& 31).toUInt32).toInt32) &&& (32767 : Int32)) % (p0_0 &&& (3 : Int32))).toNatClampNeg .null)), .val (own_F9 b309 ((p0_4 &&& (7 : Int32)) - (2 : Int32)) y321 (p0_0 &&& (3 : Int32)) ((([.null, .null, .null]).set ((p0_1 &&& (65535 : Int32)) % (p0_0 &&& (3 : Int32))).toNatClampNeg (.ref b175)).set ((((p0_1.toUInt32 >>> ((16 : Int32) &&& 31).toUInt32).toInt32) &&& (32767 : Int32)) % (p0_0 &&& (3 : Int32))).toNatClampNeg .null))] [(.int ((p0_1 &&& (65535 : Int32)) % (p0_0 &&& (3 : Int32)))), (.int (1 : Int32)), (.int (p0_0 &&& (3 : Int32))), (.int ((p0_4 &&& (7 : Int32)) - (2 : Int32))), (own_F9 b309 ((p0_4 &&& (7 : Int32)) - (2 : Int32)) y321 (p0_0 &&& (3 : Int32)) ((([.null, .null, .null]).set ((p0_1 &&& (65535 : Int32)) % (p0_0 &&& (3 : Int32))).toNatClampNeg (.ref b175)).set ((((p0_1.toUInt32 >>> ((16 : Int32) &&& 31).toUInt32).toInt32) &&& (32767 : Int32)) % (p0_0 &&& (3 : Int32))).toNatClampNeg .null))])) t
        refine XS.aload X372.here hx rfl (hb hby at_206) rfl rfl ?_
        show Steps p.tables e below (T372.setTop (mkF m 208 #[.val (.int p0_0), .val (.int p0_1), .val (.int p0_2), .val (.int p0_3), .val (.int p0_4), .val (.int (p0_0 &&& (3 : Int32))), .val (.ref b147), .val (.ref b160), .val (.ref b175), .val .null, .val (.ref b309), .val (.int (1 : Int32)), .val (.int ((p0_1 &&& (65535 : Int32)) % (p0_0 &&& (3 : Int32)))), .val (.int ((((p0_1.toUInt32 >>> ((16 : Int32) &&& 31).toUInt32).toInt32) &&& (32767 : Int32)) % (p0_0 &&& (3 : Int32)))), .val (.int ((p0_4 &&& (7 : Int32)) - (2 : Int32))), .val (own_F9 b309 p0_3 y321 (p0_0 &&& (3 : Int32)) ((([.null, .null, .null]).set ((p0_1 &&& (65535 : Int32)) % (p0_0 &&& (3 : Int32))).toNatClampNeg (.ref b175)).set ((((p0_1.toUInt32 >>> ((16 : Int32) &&& 31).toUInt32).toInt32) &&& (32767 : Int32)) % (p0_0 &&& (3 : Int32))).toNatClampNeg .null)), .val (own_F9 b309 ((p0_4 &&& (7 : Int32)) - (2 : Int32)) y321 (p0_0 &&& (3 : Int32)) ((([.null, .null, .null]).set ((p0_1 &&& (65535 : Int32)) % (p0_0 &&& (3 : Int32))).toNatClampNeg (.ref b175)).set ((((p0_1.toUInt32 >>> ((16 : Int32) &&& 31).toUInt32).toInt32) &&& (32767 : Int32)) % (p0_0 &&& (3 : Int32))).toNatClampNeg .null))] [(.ref b175), (.int ((p0_1 &&& (65535 : Int32)) % (p0_0 &&& (3 : Int32)))), (.int (1 : Int32)), (.int (p0_0 &&& (3 : Int32))), (.int ((p0_4 &&& (7 : Int32)) - (2 : Int32))), (own_F9 b309 ((p0_4 &&& (7 : Int32)) - (2 : Int32)) y321 (p0_0 &&& (3 : Int32)) ((([.null, .null, .null]).set ((p0_1 &&& (65535 : Int32)) % (p0_0 &&& (3 : Int32))).toNatClampNeg (.ref b175)).set ((((p0_1.toUInt32 >>> ((16 : Int32) &&& 31).toUInt32).toInt32) &&& (32767 : Int32)) % (p0_0 &&& (3 : Int32))).toNatClampNeg .null))])) t
        refine XS.iload X372.here hx rfl (hb hby at_208) rfl ?_
        show Steps p.tables e below (T372.setTop (mkF m 210 #[.val (.int p0_0), .val (.int p0_1), .val (.int p0_2), .val (.int p0_3), .val (.int p0_4), .val (.int (p0_0 &&& (3 : Int32))), .val (.ref b147), .val (.ref b160), .val (.ref b175), .val .null, .val (.ref b309), .val (.int (1 : Int32)), .val (.int ((p0_1 &&& (65535 : Int32)) % (p0_0 &&& (3 : Int32)))), .val (.int ((((p0_1.toUInt32 >>> ((16 : Int32) &&& 31).toUInt32).toInt32) &&& (32767 : Int32)) % (p0_0 &&& (3 : Int32)))), .val (.int ((p0_4 &&& (7 : Int32)) - (2 : Int32))), .val (own_F9 b309 p0_3 y321 (p0_0 &&& (3 : Int32)) ((([.null, .null, .null]).set ((p0_1 &&& (65535 : Int32)) % (p0_0 &&& (3 : Int32))).toNatClampNeg (.ref b175)).set ((((p0_1.toUInt32 >>> ((16 : Int32) &&& 31).toUInt32).toInt32) &&& (32767 : Int32)) % (p0_0 &&& (3 : Int32))).toNatClampNeg .null)), .val (own_F9 b309 ((p0_4 &&& (7 : Int32)) - (2 : Int32)) y321 (p0_0 &&& (3 : Int32)) ((([.null, .null, .null]).set ((p0_1 &&& (65535 : Int32)) % (p0_0 &&& (3 : Int32))).toNatClampNeg (.ref b175)).set ((((p0_1.toUInt32 >>> ((16 : Int32) &&& 31).toUInt32).toInt32) &&& (32767 : Int32)) % (p0_0 &&& (3 : Int32))).toNatClampNeg .null))] [(.int ((((p0_1.toUInt32 >>> ((16 : Int32) &&& 31).toUInt32).toInt32) &&& (32767 : Int32)) % (p0_0 &&& (3 : Int32)))), (.ref b175), (.int ((p0_1 &&& (65535 : Int32)) % (p0_0 &&& (3 : Int32)))), (.int (1 : Int32)), (.int (p0_0 &&& (3 : Int32))), (.int ((p0_4 &&& (7 : Int32)) - (2 : Int32))), (own_F9 b309 ((p0_4 &&& (7 : Int32)) - (2 : Int32)) y321 (p0_0 &&& (3 : Int32)) ((([.null, .null, .null]).set ((p0_1 &&& (65535 : Int32)) % (p0_0 &&& (3 : Int32))).toNatClampNeg (.ref b175)).set ((((p0_1.toUInt32 >>> ((16 : Int32) &&& 31).toUInt32).toInt32) &&& (32767 : Int32)) % (p0_0 &&& (3 : Int32))).toNatClampNeg .null))])) t
        refine XS.aload X372.here hx rfl (hb hby at_210) rfl rfl ?_
        show Steps p.tables e below (T372.setTop (mkF m 212 #[.val (.int p0_0), .val (.int p0_1), .val (.int p0_2), .val (.int p0_3), .val (.int p0_4), .val (.int (p0_0 &&& (3 : Int32))), .val (.ref b147), .val (.ref b160), .val (.ref b175), .val .null, .val (.ref b309), .val (.int (1 : Int32)), .val (.int ((p0_1 &&& (65535 : Int32)) % (p0_0 &&& (3 : Int32)))), .val (.int ((((p0_1.toUInt32 >>> ((16 : Int32) &&& 31).toUInt32).toInt32) &&& (32767 : Int32)) % (p0_0 &&& (3 : Int32)))), .val (.int ((p0_4 &&& (7 : Int32)) - (2 : Int32))), .val (own_F9 b309 p0_3 y321 (p0_0 &&& (3 : Int32)) ((([.null, .null, .null]).set ((p0_1 &&& (65535 : Int32)) % (p0_0 &&& (3 : Int32))).toNatClampNeg (.ref b175)).set ((((p0_1.toUInt32 >>> ((16 : Int32) &&& 31).toUInt32).toInt32) &&& (32767 : Int32)) % (p0_0 &&& (3 : Int32))).toNatClampNeg .null)), .val (own_F9 b309 ((p0_4 &&& (7 : Int32)) - (2 : Int32)) y321 (p0_0 &&& (3 : Int32)) ((([.null, .null, .null]).set ((p0_1 &&& (65535 : Int32)) % (p0_0 &&& (3 : Int32))).toNatClampNeg (.ref b175)).set ((((p0_1.toUInt32 >>> ((16 : Int32) &&& 31).toUInt32).toInt32) &&& (32767 : Int32)) % (p0_0 &&& (3 : Int32))).toNatClampNeg .null))] [.null, (.int ((((p0_1.toUInt32 >>> ((16 : Int32) &&& 31).toUInt32).toInt32) &&& (32767 : Int32)) % (p0_0 &&& (3 : Int32)))), (.ref b175), (.int ((p0_1 &&& (65535 : Int32)) % (p0_0 &&& (3 : Int32)))), (.int (1 : Int32)), (.int (p0_0 &&& (3 : Int32))), (.int ((p0_4 &&& (7 : Int32)) - (2 : Int32))), (own_F9 b309 ((p0_4 &&& (7 : Int32)) - (2 : Int32)) y321 (p0_0 &&& (3 : Int32)) ((([.null, .null, .null]).set ((p0_1 &&& (65535 : Int32)) % (p0_0 &&& (3 : Int32))).toNatClampNeg (.ref b175)).set ((((p0_1.toUInt32 >>> ((16 : Int32) &&& 31).toUInt32).toInt32) &&& (32767 : Int32)) % (p0_0 &&& (3 : Int32))).toNatClampNeg .null))])) t
        exact k
      obtain ⟨v374, _, ⟨T374, L374, k374, n374⟩, -, X374, ⟨Lc374, hQ374, l374, y374, z374⟩, st374⟩ := Jvm.LawKit.callS X372 hx (y := (⟨"com/example/yohokit/yohokit/PartsKeyAtPinLaw", "expected", "(IIZILjava/lang/String;ILjava/lang/String;)Ljava/lang/String;"⟩ : MethodName)) hown (mvT hZ (hw _ (List.mem_of_getElem? (i := 55) rfl))) (mvT hZ (hw _ (List.mem_of_getElem? (i := 56) rfl))) (mvT hZ (hw _ (List.mem_of_getElem? (i := 57) rfl))) (mvT hZ (hw _ (List.mem_of_getElem? (i := 58) rfl))) (by decide) (backOf (W := 1) (own_rm10 l Z a0 hw [] ((p0_4 &&& (7 : Int32)) - (2 : Int32)) (p0_0 &&& (3 : Int32)) (1 : Int32) ((p0_1 &&& (65535 : Int32)) % (p0_0 &&& (3 : Int32))) b175 ((((p0_1.toUInt32 >>> ((16 : Int32) &&& 31).toUInt32).toInt32) &&& (32767 : Int32)) % (p0_0 &&& (3 : Int32))) .null T353.heap n0 Z366 rfl) hZ (hw _ (List.mem_of_getElem? (i := 58) rfl)) (hw _ (List.mem_of_getElem? (i := 57) rfl)) (by decide) (by decide)) (g := (mkF m 212 #[.val (.int p0_0), .val (.int p0_1), .val (.int p0_2), .val (.int p0_3), .val (.int p0_4), .val (.int (p0_0 &&& (3 : Int32))), .val (.ref b147), .val (.ref b160), .val (.ref b175), .val .null, .val (.ref b309), .val (.int (1 : Int32)), .val (.int ((p0_1 &&& (65535 : Int32)) % (p0_0 &&& (3 : Int32)))), .val (.int ((((p0_1.toUInt32 >>> ((16 : Int32) &&& 31).toUInt32).toInt32) &&& (32767 : Int32)) % (p0_0 &&& (3 : Int32)))), .val (.int ((p0_4 &&& (7 : Int32)) - (2 : Int32))), .val (own_F9 b309 p0_3 y321 (p0_0 &&& (3 : Int32)) ((([.null, .null, .null]).set ((p0_1 &&& (65535 : Int32)) % (p0_0 &&& (3 : Int32))).toNatClampNeg (.ref b175)).set ((((p0_1.toUInt32 >>> ((16 : Int32) &&& 31).toUInt32).toInt32) &&& (32767 : Int32)) % (p0_0 &&& (3 : Int32))).toNatClampNeg .null)), .val (own_F9 b309 ((p0_4 &&& (7 : Int32)) - (2 : Int32)) y321 (p0_0 &&& (3 : Int32)) ((([.null, .null, .null]).set ((p0_1 &&& (65535 : Int32)) % (p0_0 &&& (3 : Int32))).toNatClampNeg (.ref b175)).set ((((p0_1.toUInt32 >>> ((16 : Int32) &&& 31).toUInt32).toInt32) &&& (32767 : Int32)) % (p0_0 &&& (3 : Int32))).toNatClampNeg .null))] [.null, (.int ((((p0_1.toUInt32 >>> ((16 : Int32) &&& 31).toUInt32).toInt32) &&& (32767 : Int32)) % (p0_0 &&& (3 : Int32)))), (.ref b175), (.int ((p0_1 &&& (65535 : Int32)) % (p0_0 &&& (3 : Int32)))), (.int (1 : Int32)), (.int (p0_0 &&& (3 : Int32))), (.int ((p0_4 &&& (7 : Int32)) - (2 : Int32))), (own_F9 b309 ((p0_4 &&& (7 : Int32)) - (2 : Int32)) y321 (p0_0 &&& (3 : Int32)) ((([.null, .null, .null]).set ((p0_1 &&& (65535 : Int32)) % (p0_0 &&& (3 : Int32))).toNatClampNeg (.ref b175)).set ((((p0_1.toUInt32 >>> ((16 : Int32) &&& 31).toUInt32).toInt32) &&& (32767 : Int32)) % (p0_0 &&& (3 : Int32))).toNatClampNeg .null))])) rfl (by rw [hml]; rfl) (argsL := [(.int ((p0_4 &&& (7 : Int32)) - (2 : Int32))), (.int (p0_0 &&& (3 : Int32))), (.int (1 : Int32)), (.int ((p0_1 &&& (65535 : Int32)) % (p0_0 &&& (3 : Int32)))), (.ref b175), (.int ((((p0_1.toUInt32 >>> ((16 : Int32) &&& 31).toUInt32).toInt32) &&& (32767 : Int32)) % (p0_0 &&& (3 : Int32)))), .null]) (rest := [(own_F9 b309 ((p0_4 &&& (7 : Int32)) - (2 : Int32)) y321 (p0_0 &&& (3 : Int32)) ((([.null, .null, .null]).set ((p0_1 &&& (65535 : Int32)) % (p0_0 &&& (3 : Int32))).toNatClampNeg (.ref b175)).set ((((p0_1.toUInt32 >>> ((16 : Int32) &&& 31).toUInt32).toInt32) &&& (32767 : Int32)) % (p0_0 &&& (3 : Int32))).toNatClampNeg .null))]) (lenOf pd__IIZILjava_lang_String_ILjava_lang_String__Ljava_lang_String_ rfl) rfl (by show 2 * 0 + _ ≤ _; (simp only [List.map_cons, List.map_nil, List.sum_cons, List.sum_nil, own_cat1 hr370]) <;> exact Nat.le_of_eq rfl) (hb hby at_212) (fun _ _ => ⟨rfl, e372, (by decide : 7 + 0 ≤ _), (by decide : 16 + 0 ≤ _)⟩)
      dsimp only [Pt.U, Pt.locs, Pt.cells, Pt.slots] at X374 l374 y374 z374 st374 hQ374
      subst y374 z374
      obtain ⟨rfl, M374, e374, hr374⟩ := hQ374
      have N375 : Fr n0 L374 := by rw [l374]; exact Fr.app N373 M374
      refine own_by (T' := T374) (g' := (mkF m 215 #[.val (.int p0_0), .val (.int p0_1), .val (.int p0_2), .val (.int p0_3), .val (.int p0_4), .val (.int (p0_0 &&& (3 : Int32))), .val (.ref b147), .val (.ref b160), .val (.ref b175), .val .null, .val (.ref b309), .val (.int (1 : Int32)), .val (.int ((p0_1 &&& (65535 : Int32)) % (p0_0 &&& (3 : Int32)))), .val (.int ((((p0_1.toUInt32 >>> ((16 : Int32) &&& 31).toUInt32).toInt32) &&& (32767 : Int32)) % (p0_0 &&& (3 : Int32)))), .val (.int ((p0_4 &&& (7 : Int32)) - (2 : Int32))), .val (own_F9 b309 p0_3 y321 (p0_0 &&& (3 : Int32)) ((([.null, .null, .null]).set ((p0_1 &&& (65535 : Int32)) % (p0_0 &&& (3 : Int32))).toNatClampNeg (.ref b175)).set ((((p0_1.toUInt32 >>> ((16 : Int32) &&& 31).toUInt32).toInt32) &&& (32767 : Int32)) % (p0_0 &&& (3 : Int32))).toNatClampNeg .null)), .val (own_F9 b309 ((p0_4 &&& (7 : Int32)) - (2 : Int32)) y321 (p0_0 &&& (3 : Int32)) ((([.null, .null, .null]).set ((p0_1 &&& (65535 : Int32)) % (p0_0 &&& (3 : Int32))).toNatClampNeg (.ref b175)).set ((((p0_1.toUInt32 >>> ((16 : Int32) &&& 31).toUInt32).toInt32) &&& (32767 : Int32)) % (p0_0 &&& (3 : Int32))).toNatClampNeg .null))] [(own_F10 ((p0_4 &&& (7 : Int32)) - (2 : Int32)) (p0_0 &&& (3 : Int32)) (1 : Int32) ((p0_1 &&& (65535 : Int32)) % (p0_0 &&& (3 : Int32))) b175 ((((p0_1.toUInt32 >>> ((16 : Int32) &&& 31).toUInt32).toInt32) &&& (32767 : Int32)) % (p0_0 &&& (3 : Int32))) .null), (own_F9 b309 ((p0_4 &&& (7 : Int32)) - (2 : Int32)) y321 (p0_0 &&& (3 : Int32)) ((([.null, .null, .null]).set ((p0_1 &&& (65535 : Int32)) % (p0_0 &&& (3 : Int32))).toNatClampNeg (.ref b175)).set ((((p0_1.toUInt32 >>> ((16 : Int32) &&& 31).toUInt32).toInt32) &&& (32767 : Int32)) % (p0_0 &&& (3 : Int32))).toNatClampNeg .null))])) st374 ?_
      refine own_by (T' := T374) (g' := (mkF m 223 #[.val (.int p0_0), .val (.int p0_1), .val (.int p0_2), .val (.int p0_3), .val (.int p0_4), .val (.int (p0_0 &&& (3 : Int32))), .val (.ref b147), .val (.ref b160), .val (.ref b175), .val .null, .val (.ref b309), .val (.int (1 : Int32)), .val (.int ((p0_1 &&& (65535 : Int32)) % (p0_0 &&& (3 : Int32)))), .val (.int ((((p0_1.toUInt32 >>> ((16 : Int32) &&& 31).toUInt32).toInt32) &&& (32767 : Int32)) % (p0_0 &&& (3 : Int32)))), .val (.int ((p0_4 &&& (7 : Int32)) - (2 : Int32))), .val (own_F9 b309 p0_3 y321 (p0_0 &&& (3 : Int32)) ((([.null, .null, .null]).set ((p0_1 &&& (65535 : Int32)) % (p0_0 &&& (3 : Int32))).toNatClampNeg (.ref b175)).set ((((p0_1.toUInt32 >>> ((16 : Int32) &&& 31).toUInt32).toInt32) &&& (32767 : Int32)) % (p0_0 &&& (3 : Int32))).toNatClampNeg .null)), .val (own_F9 b309 ((p0_4 &&& (7 : Int32)) - (2 : Int32)) y321 (p0_0 &&& (3 : Int32)) ((([.null, .null, .null]).set ((p0_1 &&& (65535 : Int32)) % (p0_0 &&& (3 : Int32))).toNatClampNeg (.ref b175)).set ((((p0_1.toUInt32 >>> ((16 : Int32) &&& 31).toUInt32).toInt32) &&& (32767 : Int32)) % (p0_0 &&& (3 : Int32))).toNatClampNeg .null))] [(.int (1 : Int32))])) (fun t k => ?_) ?_
      · show Steps p.tables e below (T374.setTop (mkF m 215 #[.val (.int p0_0), .val (.int p0_1), .val (.int p0_2), .val (.int p0_3), .val (.int p0_4), .val (.int (p0_0 &&& (3 : Int32))), .val (.ref b147), .val (.ref b160), .val (.ref b175), .val .null, .val (.ref b309), .val (.int (1 : Int32)), .val (.int ((p0_1 &&& (65535 : Int32)) % (p0_0 &&& (3 : Int32)))), .val (.int ((((p0_1.toUInt32 >>> ((16 : Int32) &&& 31).toUInt32).toInt32) &&& (32767 : Int32)) % (p0_0 &&& (3 : Int32)))), .val (.int ((p0_4 &&& (7 : Int32)) - (2 : Int32))), .val (own_F9 b309 p0_3 y321 (p0_0 &&& (3 : Int32)) ((([.null, .null, .null]).set ((p0_1 &&& (65535 : Int32)) % (p0_0 &&& (3 : Int32))).toNatClampNeg (.ref b175)).set ((((p0_1.toUInt32 >>> ((16 : Int32) &&& 31).toUInt32).toInt32) &&& (32767 : Int32)) % (p0_0 &&& (3 : Int32))).toNatClampNeg .null)), .val (own_F9 b309 ((p0_4 &&& (7 : Int32)) - (2 : Int32)) y321 (p0_0 &&& (3 : Int32)) ((([.null, .null, .null]).set ((p0_1 &&& (65535 : Int32)) % (p0_0 &&& (3 : Int32))).toNatClampNeg (.ref b175)).set ((((p0_1.toUInt32 >>> ((16 : Int32) &&& 31).toUInt32).toInt32) &&& (32767 : Int32)) % (p0_0 &&& (3 : Int32))).toNatClampNeg .null))] [(own_F10 ((p0_4 &&& (7 : Int32)) - (2 : Int32)) (p0_0 &&& (3 : Int32)) (1 : Int32) ((p0_1 &&& (65535 : Int32)) % (p0_0 &&& (3 : Int32))) b175 ((((p0_1.toUInt32 >>> ((16 : Int32) &&& 31).toUInt32).toInt32) &&& (32767 : Int32)) % (p0_0 &&& (3 : Int32))) .null), (own_F9 b309 ((p0_4 &&& (7 : Int32)) - (2 : Int32)) y321 (p0_0 &&& (3 : Int32)) ((([.null, .null, .null]).set ((p0_1 &&& (65535 : Int32)) % (p0_0 &&& (3 : Int32))).toNatClampNeg (.ref b175)).set ((((p0_1.toUInt32 >>> ((16 : Int32) &&& 31).toUInt32).toInt32) &&& (32767 : Int32)) % (p0_0 &&& (3 : Int32))).toNatClampNeg .null))])) t
        refine Jvm.RoadKit.acmp (g := (mkF m 215 #[.val (.int p0_0), .val (.int p0_1), .val (.int p0_2), .val (.int p0_3), .val (.int p0_4), .val (.int (p0_0 &&& (3 : Int32))), .val (.ref b147), .val (.ref b160), .val (.ref b175), .val .null, .val (.ref b309), .val (.int (1 : Int32)), .val (.int ((p0_1 &&& (65535 : Int32)) % (p0_0 &&& (3 : Int32)))), .val (.int ((((p0_1.toUInt32 >>> ((16 : Int32) &&& 31).toUInt32).toInt32) &&& (32767 : Int32)) % (p0_0 &&& (3 : Int32)))), .val (.int ((p0_4 &&& (7 : Int32)) - (2 : Int32))), .val (own_F9 b309 p0_3 y321 (p0_0 &&& (3 : Int32)) ((([.null, .null, .null]).set ((p0_1 &&& (65535 : Int32)) % (p0_0 &&& (3 : Int32))).toNatClampNeg (.ref b175)).set ((((p0_1.toUInt32 >>> ((16 : Int32) &&& 31).toUInt32).toInt32) &&& (32767 : Int32)) % (p0_0 &&& (3 : Int32))).toNatClampNeg .null)), .val (own_F9 b309 ((p0_4 &&& (7 : Int32)) - (2 : Int32)) y321 (p0_0 &&& (3 : Int32)) ((([.null, .null, .null]).set ((p0_1 &&& (65535 : Int32)) % (p0_0 &&& (3 : Int32))).toNatClampNeg (.ref b175)).set ((((p0_1.toUInt32 >>> ((16 : Int32) &&& 31).toUInt32).toInt32) &&& (32767 : Int32)) % (p0_0 &&& (3 : Int32))).toNatClampNeg .null))] [(own_F10 ((p0_4 &&& (7 : Int32)) - (2 : Int32)) (p0_0 &&& (3 : Int32)) (1 : Int32) ((p0_1 &&& (65535 : Int32)) % (p0_0 &&& (3 : Int32))) b175 ((((p0_1.toUInt32 >>> ((16 : Int32) &&& 31).toUInt32).toInt32) &&& (32767 : Int32)) % (p0_0 &&& (3 : Int32))) .null), (own_F9 b309 ((p0_4 &&& (7 : Int32)) - (2 : Int32)) y321 (p0_0 &&& (3 : Int32)) ((([.null, .null, .null]).set ((p0_1 &&& (65535 : Int32)) % (p0_0 &&& (3 : Int32))).toNatClampNeg (.ref b175)).set ((((p0_1.toUInt32 >>> ((16 : Int32) &&& 31).toUInt32).toInt32) &&& (32767 : Int32)) % (p0_0 &&& (3 : Int32))).toNatClampNeg .null))])) X374 hx rfl hr370 hr374 (pc0 := 215) (pc' := 218) (same := true) rfl (hb hby at_215) rfl (decide_eq_true (own_ag1 (own_n3 p0_0) (own_mod (own_and_le _ 65535 65535 (by decide) (by decide)).1 hc337) (own_mod (own_and_le _ 32767 32767 (by decide) (by decide)).1 hc337))) (by decide) (by decide) ?_
        show Steps p.tables e below (T374.setTop (mkF m 218 #[.val (.int p0_0), .val (.int p0_1), .val (.int p0_2), .val (.int p0_3), .val (.int p0_4), .val (.int (p0_0 &&& (3 : Int32))), .val (.ref b147), .val (.ref b160), .val (.ref b175), .val .null, .val (.ref b309), .val (.int (1 : Int32)), .val (.int ((p0_1 &&& (65535 : Int32)) % (p0_0 &&& (3 : Int32)))), .val (.int ((((p0_1.toUInt32 >>> ((16 : Int32) &&& 31).toUInt32).toInt32) &&& (32767 : Int32)) % (p0_0 &&& (3 : Int32)))), .val (.int ((p0_4 &&& (7 : Int32)) - (2 : Int32))), .val (own_F9 b309 p0_3 y321 (p0_0 &&& (3 : Int32)) ((([.null, .null, .null]).set ((p0_1 &&& (65535 : Int32)) % (p0_0 &&& (3 : Int32))).toNatClampNeg (.ref b175)).set ((((p0_1.toUInt32 >>> ((16 : Int32) &&& 31).toUInt32).toInt32) &&& (32767 : Int32)) % (p0_0 &&& (3 : Int32))).toNatClampNeg .null)), .val (own_F9 b309 ((p0_4 &&& (7 : Int32)) - (2 : Int32)) y321 (p0_0 &&& (3 : Int32)) ((([.null, .null, .null]).set ((p0_1 &&& (65535 : Int32)) % (p0_0 &&& (3 : Int32))).toNatClampNeg (.ref b175)).set ((((p0_1.toUInt32 >>> ((16 : Int32) &&& 31).toUInt32).toInt32) &&& (32767 : Int32)) % (p0_0 &&& (3 : Int32))).toNatClampNeg .null))] [])) t
        refine XS.iconst X374.here hx rfl (hb hby at_218) ?_
        show Steps p.tables e below (T374.setTop (mkF m 219 #[.val (.int p0_0), .val (.int p0_1), .val (.int p0_2), .val (.int p0_3), .val (.int p0_4), .val (.int (p0_0 &&& (3 : Int32))), .val (.ref b147), .val (.ref b160), .val (.ref b175), .val .null, .val (.ref b309), .val (.int (1 : Int32)), .val (.int ((p0_1 &&& (65535 : Int32)) % (p0_0 &&& (3 : Int32)))), .val (.int ((((p0_1.toUInt32 >>> ((16 : Int32) &&& 31).toUInt32).toInt32) &&& (32767 : Int32)) % (p0_0 &&& (3 : Int32)))), .val (.int ((p0_4 &&& (7 : Int32)) - (2 : Int32))), .val (own_F9 b309 p0_3 y321 (p0_0 &&& (3 : Int32)) ((([.null, .null, .null]).set ((p0_1 &&& (65535 : Int32)) % (p0_0 &&& (3 : Int32))).toNatClampNeg (.ref b175)).set ((((p0_1.toUInt32 >>> ((16 : Int32) &&& 31).toUInt32).toInt32) &&& (32767 : Int32)) % (p0_0 &&& (3 : Int32))).toNatClampNeg .null)), .val (own_F9 b309 ((p0_4 &&& (7 : Int32)) - (2 : Int32)) y321 (p0_0 &&& (3 : Int32)) ((([.null, .null, .null]).set ((p0_1 &&& (65535 : Int32)) % (p0_0 &&& (3 : Int32))).toNatClampNeg (.ref b175)).set ((((p0_1.toUInt32 >>> ((16 : Int32) &&& 31).toUInt32).toInt32) &&& (32767 : Int32)) % (p0_0 &&& (3 : Int32))).toNatClampNeg .null))] [(.int (1 : Int32))])) t
        refine XS.goto X374.here hx rfl (pc0 := 219) (pc' := 223) rfl (hb hby at_219) (by decide) (by decide) ?_
        show Steps p.tables e below (T374.setTop (mkF m 223 #[.val (.int p0_0), .val (.int p0_1), .val (.int p0_2), .val (.int p0_3), .val (.int p0_4), .val (.int (p0_0 &&& (3 : Int32))), .val (.ref b147), .val (.ref b160), .val (.ref b175), .val .null, .val (.ref b309), .val (.int (1 : Int32)), .val (.int ((p0_1 &&& (65535 : Int32)) % (p0_0 &&& (3 : Int32)))), .val (.int ((((p0_1.toUInt32 >>> ((16 : Int32) &&& 31).toUInt32).toInt32) &&& (32767 : Int32)) % (p0_0 &&& (3 : Int32)))), .val (.int ((p0_4 &&& (7 : Int32)) - (2 : Int32))), .val (own_F9 b309 p0_3 y321 (p0_0 &&& (3 : Int32)) ((([.null, .null, .null]).set ((p0_1 &&& (65535 : Int32)) % (p0_0 &&& (3 : Int32))).toNatClampNeg (.ref b175)).set ((((p0_1.toUInt32 >>> ((16 : Int32) &&& 31).toUInt32).toInt32) &&& (32767 : Int32)) % (p0_0 &&& (3 : Int32))).toNatClampNeg .null)), .val (own_F9 b309 ((p0_4 &&& (7 : Int32)) - (2 : Int32)) y321 (p0_0 &&& (3 : Int32)) ((([.null, .null, .null]).set ((p0_1 &&& (65535 : Int32)) % (p0_0 &&& (3 : Int32))).toNatClampNeg (.ref b175)).set ((((p0_1.toUInt32 >>> ((16 : Int32) &&& 31).toUInt32).toInt32) &&& (32767 : Int32)) % (p0_0 &&& (3 : Int32))).toNatClampNeg .null))] [(.int (1 : Int32))])) t
        exact k
      exact own_retN X374 hx (t := .boolean) Bd.returns (by simp) (hb hby at_223) hlk (by decide) (by decide) ⟨rfl, N375⟩
    · skip
      refine own_by (T' := T321) (g' := (mkF m 161 #[.val (.int p0_0), .val (.int p0_1), .val (.int p0_2), .val (.int p0_3), .val (.int p0_4), .val (.int (p0_0 &&& (3 : Int32))), .val (.ref b147), .val (.ref b160), .val (.ref b175), .val .null, .val (.ref b309), .val (.int (0 : Int32)), .val (.int (0 : Int32)), .val (.int (0 : Int32)), .val (.int ((p0_4 &&& (7 : Int32)) - (2 : Int32))), .unset, .unset] [(.int p0_3), (.ref b309)])) (fun t k => ?_) ?_
      · show Steps p.tables e below (T321.setTop (mkF m 85 #[.val (.int p0_0), .val (.int p0_1), .val (.int p0_2), .val (.int p0_3), .val (.int p0_4), .val (.int (p0_0 &&& (3 : Int32))), .val (.ref b147), .val (.ref b160), .val (.ref b175), .val .null, .val (.ref b309), .unset, .unset, .unset, .unset, .unset, .unset] [(.int (p0_0 &&& (3 : Int32)))])) t
        refine XS.ifYes X321.here hx rfl (pc0 := 85) (pc' := 92) rfl (hb hby at_85) rfl ((if0 _ _).trans (flt hc337).2.2.2) (by decide) (by decide) ?_
        show Steps p.tables e below (T321.setTop (mkF m 92 #[.val (.int p0_0), .val (.int p0_1), .val (.int p0_2), .val (.int p0_3), .val (.int p0_4), .val (.int (p0_0 &&& (3 : Int32))), .val (.ref b147), .val (.ref b160), .val (.ref b175), .val .null, .val (.ref b309), .unset, .unset, .unset, .unset, .unset, .unset] [])) t
        refine XS.iconst X321.here hx rfl (hb hby at_92) ?_
        show Steps p.tables e below (T321.setTop (mkF m 93 #[.val (.int p0_0), .val (.int p0_1), .val (.int p0_2), .val (.int p0_3), .val (.int p0_4), .val (.int (p0_0 &&& (3 : Int32))), .val (.ref b147), .val (.ref b160), .val (.ref b175), .val .null, .val (.ref b309), .unset, .unset, .unset, .unset, .unset, .unset] [(.int (0 : Int32))])) t
        refine XS.istore X321.here hx rfl (hb hby at_93) rfl (l' := #[.val (.int p0_0), .val (.int p0_1), .val (.int p0_2), .val (.int p0_3), .val (.int p0_4), .val (.int (p0_0 &&& (3 : Int32))), .val (.ref b147), .val (.ref b160), .val (.ref b175), .val .null, .val (.ref b309), .val (.int (0 : Int32)), .unset, .unset, .unset, .unset, .unset]) rfl ?_
        show Steps p.tables e below (T321.setTop (mkF m 95 #[.val (.int p0_0), .val (.int p0_1), .val (.int p0_2), .val (.int p0_3), .val (.int p0_4), .val (.int (p0_0 &&& (3 : Int32))), .val (.ref b147), .val (.ref b160), .val (.ref b175), .val .null, .val (.ref b309), .val (.int (0 : Int32)), .unset, .unset, .unset, .unset, .unset] [])) t
        refine XS.iconst X321.here hx rfl (hb hby at_95) ?_
        show Steps p.tables e below (T321.setTop (mkF m 96 #[.val (.int p0_0), .val (.int p0_1), .val (.int p0_2), .val (.int p0_3), .val (.int p0_4), .val (.int (p0_0 &&& (3 : Int32))), .val (.ref b147), .val (.ref b160), .val (.ref b175), .val .null, .val (.ref b309), .val (.int (0 : Int32)), .unset, .unset, .unset, .unset, .unset] [(.int (0 : Int32))])) t
        refine XS.istore X321.here hx rfl (hb hby at_96) rfl (l' := #[.val (.int p0_0), .val (.int p0_1), .val (.int p0_2), .val (.int p0_3), .val (.int p0_4), .val (.int (p0_0 &&& (3 : Int32))), .val (.ref b147), .val (.ref b160), .val (.ref b175), .val .null, .val (.ref b309), .val (.int (0 : Int32)), .val (.int (0 : Int32)), .unset, .unset, .unset, .unset]) rfl ?_
        show Steps p.tables e below (T321.setTop (mkF m 98 #[.val (.int p0_0), .val (.int p0_1), .val (.int p0_2), .val (.int p0_3), .val (.int p0_4), .val (.int (p0_0 &&& (3 : Int32))), .val (.ref b147), .val (.ref b160), .val (.ref b175), .val .null, .val (.ref b309), .val (.int (0 : Int32)), .val (.int (0 : Int32)), .unset, .unset, .unset, .unset] [])) t
        refine XS.iconst X321.here hx rfl (hb hby at_98) ?_
        show Steps p.tables e below (T321.setTop (mkF m 99 #[.val (.int p0_0), .val (.int p0_1), .val (.int p0_2), .val (.int p0_3), .val (.int p0_4), .val (.int (p0_0 &&& (3 : Int32))), .val (.ref b147), .val (.ref b160), .val (.ref b175), .val .null, .val (.ref b309), .val (.int (0 : Int32)), .val (.int (0 : Int32)), .unset, .unset, .unset, .unset] [(.int (0 : Int32))])) t
        refine XS.istore X321.here hx rfl (hb hby at_99) rfl (l' := #[.val (.int p0_0), .val (.int p0_1), .val (.int p0_2), .val (.int p0_3), .val (.int p0_4), .val (.int (p0_0 &&& (3 : Int32))), .val (.ref b147), .val (.ref b160), .val (.ref b175), .val .null, .val (.ref b309), .val (.int (0 : Int32)), .val (.int (0 : Int32)), .val (.int (0 : Int32)), .unset, .unset, .unset]) rfl ?_
        show Steps p.tables e below (T321.setTop (mkF m 101 #[.val (.int p0_0), .val (.int p0_1), .val (.int p0_2), .val (.int p0_3), .val (.int p0_4), .val (.int (p0_0 &&& (3 : Int32))), .val (.ref b147), .val (.ref b160), .val (.ref b175), .val .null, .val (.ref b309), .val (.int (0 : Int32)), .val (.int (0 : Int32)), .val (.int (0 : Int32)), .unset, .unset, .unset] [])) t
        refine XS.iload X321.here hx rfl (hb hby at_101) rfl ?_
        show Steps p.tables e below (T321.setTop (mkF m 103 #[.val (.int p0_0), .val (.int p0_1), .val (.int p0_2), .val (.int p0_3), .val (.int p0_4), .val (.int (p0_0 &&& (3 : Int32))), .val (.ref b147), .val (.ref b160), .val (.ref b175), .val .null, .val (.ref b309), .val (.int (0 : Int32)), .val (.int (0 : Int32)), .val (.int (0 : Int32)), .unset, .unset, .unset] [(.int (0 : Int32))])) t
        refine XS.ifYes X321.here hx rfl (pc0 := 103) (pc' := 149) rfl (hb hby at_103) rfl ((if0 _ _).trans (teq (by decide : (0 : Int32) = (0 : Int32))).1) (by decide) (by decide) ?_
        show Steps p.tables e below (T321.setTop (mkF m 149 #[.val (.int p0_0), .val (.int p0_1), .val (.int p0_2), .val (.int p0_3), .val (.int p0_4), .val (.int (p0_0 &&& (3 : Int32))), .val (.ref b147), .val (.ref b160), .val (.ref b175), .val .null, .val (.ref b309), .val (.int (0 : Int32)), .val (.int (0 : Int32)), .val (.int (0 : Int32)), .unset, .unset, .unset] [])) t
        refine XS.iload X321.here hx rfl (hb hby at_149) rfl ?_
        show Steps p.tables e below (T321.setTop (mkF m 151 #[.val (.int p0_0), .val (.int p0_1), .val (.int p0_2), .val (.int p0_3), .val (.int p0_4), .val (.int (p0_0 &&& (3 : Int32))), .val (.ref b147), .val (.ref b160), .val (.ref b175), .val .null, .val (.ref b309), .val (.int (0 : Int32)), .val (.int (0 : Int32)), .val (.int (0 : Int32)), .unset, .unset, .unset] [(.int p0_4)])) t
        refine XS.bipush X321.here hx rfl (hb hby at_151) ?_
        show Steps p.tables e below (T321.setTop (mkF m 153 #[.val (.int p0_0), .val (.int p0_1), .val (.int p0_2), .val (.int p0_3), .val (.int p0_4), .val (.int (p0_0 &&& (3 : Int32))), .val (.ref b147), .val (.ref b160), .val (.ref b175), .val .null, .val (.ref b309), .val (.int (0 : Int32)), .val (.int (0 : Int32)), .val (.int (0 : Int32)), .unset, .unset, .unset] [(.int (7 : Int32)), (.int p0_4)])) t
        refine XS.iand X321.here hx rfl (hb hby at_153) rfl ?_
        show Steps p.tables e below (T321.setTop (mkF m 154 #[.val (.int p0_0), .val (.int p0_1), .val (.int p0_2), .val (.int p0_3), .val (.int p0_4), .val (.int (p0_0 &&& (3 : Int32))), .val (.ref b147), .val (.ref b160), .val (.ref b175), .val .null, .val (.ref b309), .val (.int (0 : Int32)), .val (.int (0 : Int32)), .val (.int (0 : Int32)), .unset, .unset, .unset] [(.int (p0_4 &&& (7 : Int32)))])) t
        refine XS.iconst X321.here hx rfl (hb hby at_154) ?_
        show Steps p.tables e below (T321.setTop (mkF m 155 #[.val (.int p0_0), .val (.int p0_1), .val (.int p0_2), .val (.int p0_3), .val (.int p0_4), .val (.int (p0_0 &&& (3 : Int32))), .val (.ref b147), .val (.ref b160), .val (.ref b175), .val .null, .val (.ref b309), .val (.int (0 : Int32)), .val (.int (0 : Int32)), .val (.int (0 : Int32)), .unset, .unset, .unset] [(.int (2 : Int32)), (.int (p0_4 &&& (7 : Int32)))])) t
        refine XS.isub X321.here hx rfl (hb hby at_155) rfl ?_
        show Steps p.tables e below (T321.setTop (mkF m 156 #[.val (.int p0_0), .val (.int p0_1), .val (.int p0_2), .val (.int p0_3), .val (.int p0_4), .val (.int (p0_0 &&& (3 : Int32))), .val (.ref b147), .val (.ref b160), .val (.ref b175), .val .null, .val (.ref b309), .val (.int (0 : Int32)), .val (.int (0 : Int32)), .val (.int (0 : Int32)), .unset, .unset, .unset] [(.int ((p0_4 &&& (7 : Int32)) - (2 : Int32)))])) t
        refine XS.istore X321.here hx rfl (hb hby at_156) rfl (l' := #[.val (.int p0_0), .val (.int p0_1), .val (.int p0_2), .val (.int p0_3), .val (.int p0_4), .val (.int (p0_0 &&& (3 : Int32))), .val (.ref b147), .val (.ref b160), .val (.ref b175), .val .null, .val (.ref b309), .val (.int (0 : Int32)), .val (.int (0 : Int32)), .val (.int (0 : Int32)), .val (.int ((p0_4 &&& (7 : Int32)) - (2 : Int32))), .unset, .unset]) rfl ?_
        show Steps p.tables e below (T321.setTop (mkF m 158 #[.val (.int p0_0), .val (.int p0_1), .val (.int p0_2), .val (.int p0_3), .val (.int p0_4), .val (.int (p0_0 &&& (3 : Int32))), .val (.ref b147), .val (.ref b160), .val (.ref b175), .val .null, .val (.ref b309), .val (.int (0 : Int32)), .val (.int (0 : Int32)), .val (.int (0 : Int32)), .val (.int ((p0_4 &&& (7 : Int32)) - (2 : Int32))), .unset, .unset] [])) t
        refine XS.aload X321.here hx rfl (hb hby at_158) rfl rfl ?_
        show Steps p.tables e below (T321.setTop (mkF m 160 #[.val (.int p0_0), .val (.int p0_1), .val (.int p0_2), .val (.int p0_3), .val (.int p0_4), .val (.int (p0_0 &&& (3 : Int32))), .val (.ref b147), .val (.ref b160), .val (.ref b175), .val .null, .val (.ref b309), .val (.int (0 : Int32)), .val (.int (0 : Int32)), .val (.int (0 : Int32)), .val (.int ((p0_4 &&& (7 : Int32)) - (2 : Int32))), .unset, .unset] [(.ref b309)])) t
        refine XS.iloadN X321.here hx rfl (hb hby at_160) rfl ?_
        show Steps p.tables e below (T321.setTop (mkF m 161 #[.val (.int p0_0), .val (.int p0_1), .val (.int p0_2), .val (.int p0_3), .val (.int p0_4), .val (.int (p0_0 &&& (3 : Int32))), .val (.ref b147), .val (.ref b160), .val (.ref b175), .val .null, .val (.ref b309), .val (.int (0 : Int32)), .val (.int (0 : Int32)), .val (.int (0 : Int32)), .val (.int ((p0_4 &&& (7 : Int32)) - (2 : Int32))), .unset, .unset] [(.int p0_3), (.ref b309)])) t
        exact k
      obtain ⟨cq376, kq376, q376a, q376b, q376c⟩ := isOf hZ rfl f322
      obtain ⟨v376, _, ⟨T376, L376, k376, n376⟩, -, X376, ⟨Lc376, hQ376, l376, y376, z376⟩, st376⟩ := X321.virtualBack hx (y := (⟨"com/example/yohokit/yohokit/Parts", "keyAt", "(I)Ljava/lang/String;"⟩ : MethodName)) (z := (⟨"com/example/yohokit/yohokit/Parts", "keyAt", "(I)Ljava/lang/String;"⟩ : MethodName)) hown (mvT hZ (hw _ (List.mem_of_getElem? (i := 50) rfl))) (mvT hZ (hw _ (List.mem_of_getElem? (i := 51) rfl))) (notFace_of_selects (args := #[]) (mvT hZ (hw _ (List.mem_of_getElem? (i := 53) rfl)))) (mvT hZ (hw _ (List.mem_of_getElem? (i := 53) rfl))) (mvT hZ (hw _ (List.mem_of_getElem? (i := 52) rfl))) (by decide) (backOf (W := 0) (own_rm9 l Z a0 hw [] b309 p0_3 y321 (p0_0 &&& (3 : Int32)) ([.null, .null, .null]) T321.heap n0 Z335 f326 f324) hZ (hw _ (List.mem_of_getElem? (i := 54) rfl)) (hw _ (List.mem_of_getElem? (i := 32) rfl)) (by decide) (by decide)) q376a q376c (g := (mkF m 161 #[.val (.int p0_0), .val (.int p0_1), .val (.int p0_2), .val (.int p0_3), .val (.int p0_4), .val (.int (p0_0 &&& (3 : Int32))), .val (.ref b147), .val (.ref b160), .val (.ref b175), .val .null, .val (.ref b309), .val (.int (0 : Int32)), .val (.int (0 : Int32)), .val (.int (0 : Int32)), .val (.int ((p0_4 &&& (7 : Int32)) - (2 : Int32))), .unset, .unset] [(.int p0_3), (.ref b309)])) rfl (by rw [hml]; rfl) (Steps.refl _) (argsL := [(.int p0_3)]) (rest := []) (lenOf pd__I_Ljava_lang_String_ rfl) rfl (by show 2 * 0 + _ ≤ _; exact Nat.le_of_eq rfl) (hb hby at_161) (fun _ _ => ⟨rfl, rfl, (by decide : 7 + 0 ≤ _), (by decide : 16 + 0 ≤ _)⟩)
      dsimp only [Pt.U, Pt.locs, Pt.cells, Pt.slots] at X376 l376 y376 z376 st376 hQ376
      subst y376 z376
      obtain ⟨rfl, M376, e376, hr376⟩ := hQ376
      have N377 : Fr n0 L376 := by rw [l376]; exact Fr.app N336 M376
      refine own_via (T' := T376) (g' := (mkF m 164 #[.val (.int p0_0), .val (.int p0_1), .val (.int p0_2), .val (.int p0_3), .val (.int p0_4), .val (.int (p0_0 &&& (3 : Int32))), .val (.ref b147), .val (.ref b160), .val (.ref b175), .val .null, .val (.ref b309), .val (.int (0 : Int32)), .val (.int (0 : Int32)), .val (.int (0 : Int32)), .val (.int ((p0_4 &&& (7 : Int32)) - (2 : Int32))), .unset, .unset] [(own_F9 b309 p0_3 y321 (p0_0 &&& (3 : Int32)) ([.null, .null, .null]))])) st376 ?_
      refine own_by (T' := T376) (g' := (mkF m 170 #[.val (.int p0_0), .val (.int p0_1), .val (.int p0_2), .val (.int p0_3), .val (.int p0_4), .val (.int (p0_0 &&& (3 : Int32))), .val (.ref b147), .val (.ref b160), .val (.ref b175), .val .null, .val (.ref b309), .val (.int (0 : Int32)), .val (.int (0 : Int32)), .val (.int (0 : Int32)), .val (.int ((p0_4 &&& (7 : Int32)) - (2 : Int32))), .val (own_F9 b309 p0_3 y321 (p0_0 &&& (3 : Int32)) ([.null, .null, .null])), .unset] [(.int ((p0_4 &&& (7 : Int32)) - (2 : Int32))), (.ref b309)])) (fun t k => ?_) ?_
      · show Steps p.tables e below (T376.setTop (mkF m 164 #[.val (.int p0_0), .val (.int p0_1), .val (.int p0_2), .val (.int p0_3), .val (.int p0_4), .val (.int (p0_0 &&& (3 : Int32))), .val (.ref b147), .val (.ref b160), .val (.ref b175), .val .null, .val (.ref b309), .val (.int (0 : Int32)), .val (.int (0 : Int32)), .val (.int (0 : Int32)), .val (.int ((p0_4 &&& (7 : Int32)) - (2 : Int32))), .unset, .unset] [(own_F9 b309 p0_3 y321 (p0_0 &&& (3 : Int32)) ([.null, .null, .null]))])) t
        refine XS.astore X376.here hx rfl (hb hby at_164) rfl hr376 (l' := #[.val (.int p0_0), .val (.int p0_1), .val (.int p0_2), .val (.int p0_3), .val (.int p0_4), .val (.int (p0_0 &&& (3 : Int32))), .val (.ref b147), .val (.ref b160), .val (.ref b175), .val .null, .val (.ref b309), .val (.int (0 : Int32)), .val (.int (0 : Int32)), .val (.int (0 : Int32)), .val (.int ((p0_4 &&& (7 : Int32)) - (2 : Int32))), .val (own_F9 b309 p0_3 y321 (p0_0 &&& (3 : Int32)) ([.null, .null, .null])), .unset]) (XS.store1 (o := .unset) rfl (Or.inl rfl) (own_cat1 hr376)) ?_
        show Steps p.tables e below (T376.setTop (mkF m 166 #[.val (.int p0_0), .val (.int p0_1), .val (.int p0_2), .val (.int p0_3), .val (.int p0_4), .val (.int (p0_0 &&& (3 : Int32))), .val (.ref b147), .val (.ref b160), .val (.ref b175), .val .null, .val (.ref b309), .val (.int (0 : Int32)), .val (.int (0 : Int32)), .val (.int (0 : Int32)), .val (.int ((p0_4 &&& (7 : Int32)) - (2 : Int32))), .val (own_F9 b309 p0_3 y321 (p0_0 &&& (3 : Int32)) ([.null, .null, .null])), .unset] [])) t
        refine XS.aload X376.here hx rfl (hb hby at_166) rfl rfl ?_
        show Steps p.tables e below (T376.setTop (mkF m 168 #[.val (.int p0_0), .val (.int p0_1), .val (.int p0_2), .val (.int p0_3), .val (.int p0_4), .val (.int (p0_0 &&& (3 : Int32))), .val (.ref b147), .val (.ref b160), .val (.ref b175), .val .null, .val (.ref b309), .val (.int (0 : Int32)), .val (.int (0 : Int32)), .val (.int (0 : Int32)), .val (.int ((p0_4 &&& (7 : Int32)) - (2 : Int32))), .val (own_F9 b309 p0_3 y321 (p0_0 &&& (3 : Int32)) ([.null, .null, .null])), .unset] [(.ref b309)])) t
        refine XS.iload X376.here hx rfl (hb hby at_168) rfl ?_
        show Steps p.tables e below (T376.setTop (mkF m 170 #[.val (.int p0_0), .val (.int p0_1), .val (.int p0_2), .val (.int p0_3), .val (.int p0_4), .val (.int (p0_0 &&& (3 : Int32))), .val (.ref b147), .val (.ref b160), .val (.ref b175), .val .null, .val (.ref b309), .val (.int (0 : Int32)), .val (.int (0 : Int32)), .val (.int (0 : Int32)), .val (.int ((p0_4 &&& (7 : Int32)) - (2 : Int32))), .val (own_F9 b309 p0_3 y321 (p0_0 &&& (3 : Int32)) ([.null, .null, .null])), .unset] [(.int ((p0_4 &&& (7 : Int32)) - (2 : Int32))), (.ref b309)])) t
        exact k
      obtain ⟨cq378, kq378, q378a, q378b, q378c⟩ := isOf hZ e376 f322
      obtain ⟨v378, _, ⟨T378, L378, k378, n378⟩, -, X378, ⟨Lc378, hQ378, l378, y378, z378⟩, st378⟩ := X376.virtualBack hx (y := (⟨"com/example/yohokit/yohokit/Parts", "keyAt", "(I)Ljava/lang/String;"⟩ : MethodName)) (z := (⟨"com/example/yohokit/yohokit/Parts", "keyAt", "(I)Ljava/lang/String;"⟩ : MethodName)) hown (mvT hZ (hw _ (List.mem_of_getElem? (i := 50) rfl))) (mvT hZ (hw _ (List.mem_of_getElem? (i := 51) rfl))) (notFace_of_selects (args := #[]) (mvT hZ (hw _ (List.mem_of_getElem? (i := 53) rfl)))) (mvT hZ (hw _ (List.mem_of_getElem? (i := 53) rfl))) (mvT hZ (hw _ (List.mem_of_getElem? (i := 52) rfl))) (by decide) (backOf (W := 0) (own_rm9 l Z a0 hw [] b309 ((p0_4 &&& (7 : Int32)) - (2 : Int32)) y321 (p0_0 &&& (3 : Int32)) ([.null, .null, .null]) T321.heap n0 Z335 f326 f324) hZ (hw _ (List.mem_of_getElem? (i := 54) rfl)) (hw _ (List.mem_of_getElem? (i := 32) rfl)) (by decide) (by decide)) q378a q378c (g := (mkF m 170 #[.val (.int p0_0), .val (.int p0_1), .val (.int p0_2), .val (.int p0_3), .val (.int p0_4), .val (.int (p0_0 &&& (3 : Int32))), .val (.ref b147), .val (.ref b160), .val (.ref b175), .val .null, .val (.ref b309), .val (.int (0 : Int32)), .val (.int (0 : Int32)), .val (.int (0 : Int32)), .val (.int ((p0_4 &&& (7 : Int32)) - (2 : Int32))), .val (own_F9 b309 p0_3 y321 (p0_0 &&& (3 : Int32)) ([.null, .null, .null])), .unset] [(.int ((p0_4 &&& (7 : Int32)) - (2 : Int32))), (.ref b309)])) rfl (by rw [hml]; rfl) (Steps.refl _) (argsL := [(.int ((p0_4 &&& (7 : Int32)) - (2 : Int32)))]) (rest := []) (lenOf pd__I_Ljava_lang_String_ rfl) rfl (by show 2 * 0 + _ ≤ _; exact Nat.le_of_eq rfl) (hb hby at_170) (fun _ _ => ⟨rfl, e376, (by decide : 7 + 0 ≤ _), (by decide : 16 + 0 ≤ _)⟩)
      dsimp only [Pt.U, Pt.locs, Pt.cells, Pt.slots] at X378 l378 y378 z378 st378 hQ378
      subst y378 z378
      obtain ⟨rfl, M378, e378, hr378⟩ := hQ378
      have N379 : Fr n0 L378 := by rw [l378]; exact Fr.app N377 M378
      refine own_via (T' := T378) (g' := (mkF m 173 #[.val (.int p0_0), .val (.int p0_1), .val (.int p0_2), .val (.int p0_3), .val (.int p0_4), .val (.int (p0_0 &&& (3 : Int32))), .val (.ref b147), .val (.ref b160), .val (.ref b175), .val .null, .val (.ref b309), .val (.int (0 : Int32)), .val (.int (0 : Int32)), .val (.int (0 : Int32)), .val (.int ((p0_4 &&& (7 : Int32)) - (2 : Int32))), .val (own_F9 b309 p0_3 y321 (p0_0 &&& (3 : Int32)) ([.null, .null, .null])), .unset] [(own_F9 b309 ((p0_4 &&& (7 : Int32)) - (2 : Int32)) y321 (p0_0 &&& (3 : Int32)) ([.null, .null, .null]))])) st378 ?_
      refine own_by (T' := T378) (g' := (mkF m 190 #[.val (.int p0_0), .val (.int p0_1), .val (.int p0_2), .val (.int p0_3), .val (.int p0_4), .val (.int (p0_0 &&& (3 : Int32))), .val (.ref b147), .val (.ref b160), .val (.ref b175), .val .null, .val (.ref b309), .val (.int (0 : Int32)), .val (.int (0 : Int32)), .val (.int (0 : Int32)), .val (.int ((p0_4 &&& (7 : Int32)) - (2 : Int32))), .val (own_F9 b309 p0_3 y321 (p0_0 &&& (3 : Int32)) ([.null, .null, .null])), .val (own_F9 b309 ((p0_4 &&& (7 : Int32)) - (2 : Int32)) y321 (p0_0 &&& (3 : Int32)) ([.null, .null, .null]))] [.null, (.int (0 : Int32)), (.ref b175), (.int (0 : Int32)), (.int (0 : Int32)), (.int (p0_0 &&& (3 : Int32))), (.int p0_3), (own_F9 b309 p0_3 y321 (p0_0 &&& (3 : Int32)) ([.null, .null, .null]))])) (fun t k => ?_) ?_
      · show Steps p.tables e below (T378.setTop (mkF m 173 #[.val (.int p0_0), .val (.int p0_1), .val (.int p0_2), .val (.int p0_3), .val (.int p0_4), .val (.int (p0_0 &&& (3 : Int32))), .val (.ref b147), .val (.ref b160), .val (.ref b175), .val .null, .val (.ref b309), .val (.int (0 : Int32)), .val (.int (0 : Int32)), .val (.int (0 : Int32)), .val (.int ((p0_4 &&& (7 : Int32)) - (2 : Int32))), .val (own_F9 b309 p0_3 y321 (p0_0 &&& (3 : Int32)) ([.null, .null, .null])), .unset] [(own_F9 b309 ((p0_4 &&& (7 : Int32)) - (2 : Int32)) y321 (p0_0 &&& (3 : Int32)) ([.null, .null, .null]))])) t
        refine XS.astore X378.here hx rfl (hb hby at_173) rfl hr378 (l' := #[.val (.int p0_0), .val (.int p0_1), .val (.int p0_2), .val (.int p0_3), .val (.int p0_4), .val (.int (p0_0 &&& (3 : Int32))), .val (.ref b147), .val (.ref b160), .val (.ref b175), .val .null, .val (.ref b309), .val (.int (0 : Int32)), .val (.int (0 : Int32)), .val (.int (0 : Int32)), .val (.int ((p0_4 &&& (7 : Int32)) - (2 : Int32))), .val (own_F9 b309 p0_3 y321 (p0_0 &&& (3 : Int32)) ([.null, .null, .null])), .val (own_F9 b309 ((p0_4 &&& (7 : Int32)) - (2 : Int32)) y321 (p0_0 &&& (3 : Int32)) ([.null, .null, .null]))]) (XS.store1 (o := .unset) rfl (Or.inl rfl) (own_cat1 hr378)) ?_
        show Steps p.tables e below (T378.setTop (mkF m 175 #[.val (.int p0_0), .val (.int p0_1), .val (.int p0_2), .val (.int p0_3), .val (.int p0_4), .val (.int (p0_0 &&& (3 : Int32))), .val (.ref b147), .val (.ref b160), .val (.ref b175), .val .null, .val (.ref b309), .val (.int (0 : Int32)), .val (.int (0 : Int32)), .val (.int (0 : Int32)), .val (.int ((p0_4 &&& (7 : Int32)) - (2 : Int32))), .val (own_F9 b309 p0_3 y321 (p0_0 &&& (3 : Int32)) ([.null, .null, .null])), .val (own_F9 b309 ((p0_4 &&& (7 : Int32)) - (2 : Int32)) y321 (p0_0 &&& (3 : Int32)) ([.null, .null, .null]))] [])) t
        refine XS.aload X378.here hx rfl (hb hby at_175) rfl hr376 ?_
        show Steps p.tables e below (T378.setTop (mkF m 177 #[.val (.int p0_0), .val (.int p0_1), .val (.int p0_2), .val (.int p0_3), .val (.int p0_4), .val (.int (p0_0 &&& (3 : Int32))), .val (.ref b147), .val (.ref b160), .val (.ref b175), .val .null, .val (.ref b309), .val (.int (0 : Int32)), .val (.int (0 : Int32)), .val (.int (0 : Int32)), .val (.int ((p0_4 &&& (7 : Int32)) - (2 : Int32))), .val (own_F9 b309 p0_3 y321 (p0_0 &&& (3 : Int32)) ([.null, .null, .null])), .val (own_F9 b309 ((p0_4 &&& (7 : Int32)) - (2 : Int32)) y321 (p0_0 &&& (3 : Int32)) ([.null, .null, .null]))] [(own_F9 b309 p0_3 y321 (p0_0 &&& (3 : Int32)) ([.null, .null, .null]))])) t
        refine XS.iloadN X378.here hx rfl (hb hby at_177) rfl ?_
        show Steps p.tables e below (T378.setTop (mkF m 178 #[.val (.int p0_0), .val (.int p0_1), .val (.int p0_2), .val (.int p0_3), .val (.int p0_4), .val (.int (p0_0 &&& (3 : Int32))), .val (.ref b147), .val (.ref b160), .val (.ref b175), .val .null, .val (.ref b309), .val (.int (0 : Int32)), .val (.int (0 : Int32)), .val (.int (0 : Int32)), .val (.int ((p0_4 &&& (7 : Int32)) - (2 : Int32))), .val (own_F9 b309 p0_3 y321 (p0_0 &&& (3 : Int32)) ([.null, .null, .null])), .val (own_F9 b309 ((p0_4 &&& (7 : Int32)) - (2 : Int32)) y321 (p0_0 &&& (3 : Int32)) ([.null, .null, .null]))] [(.int p0_3), (own_F9 b309 p0_3 y321 (p0_0 &&& (3 : Int32)) ([.null, .null, .null]))])) t
        refine XS.iload X378.here hx rfl (hb hby at_178) rfl ?_
        show Steps p.tables e below (T378.setTop (mkF m 180 #[.val (.int p0_0), .val (.int p0_1), .val (.int p0_2), .val (.int p0_3), .val (.int p0_4), .val (.int (p0_0 &&& (3 : Int32))), .val (.ref b147), .val (.ref b160), .val (.ref b175), .val .null, .val (.ref b309), .val (.int (0 : Int32)), .val (.int (0 : Int32)), .val (.int (0 : Int32)), .val (.int ((p0_4 &&& (7 : Int32)) - (2 : Int32))), .val (own_F9 b309 p0_3 y321 (p0_0 &&& (3 : Int32)) ([.null, .null, .null])), .val (own_F9 b309 ((p0_4 &&& (7 : Int32)) - (2 : Int32)) y321 (p0_0 &&& (3 : Int32)) ([.null, .null, .null]))] [(.int (p0_0 &&& (3 : Int32))), (.int p0_3), (own_F9 b309 p0_3 y321 (p0_0 &&& (3 : Int32)) ([.null, .null, .null]))])) t
        refine XS.iload X378.here hx rfl (hb hby at_180) rfl ?_
        show Steps p.tables e below (T378.setTop (mkF m 182 #[.val (.int p0_0), .val (.int p0_1), .val (.int p0_2), .val (.int p0_3), .val (.int p0_4), .val (.int (p0_0 &&& (3 : Int32))), .val (.ref b147), .val (.ref b160), .val (.ref b175), .val .null, .val (.ref b309), .val (.int (0 : Int32)), .val (.int (0 : Int32)), .val (.int (0 : Int32)), .val (.int ((p0_4 &&& (7 : Int32)) - (2 : Int32))), .val (own_F9 b309 p0_3 y321 (p0_0 &&& (3 : Int32)) ([.null, .null, .null])), .val (own_F9 b309 ((p0_4 &&& (7 : Int32)) - (2 : Int32)) y321 (p0_0 &&& (3 : Int32)) ([.null, .null, .null]))] [(.int (0 : Int32)), (.int (p0_0 &&& (3 : Int32))), (.int p0_3), (own_F9 b309 p0_3 y321 (p0_0 &&& (3 : Int32)) ([.null, .null, .null]))])) t
        refine XS.iload X378.here hx rfl (hb hby at_182) rfl ?_
        show Steps p.tables e below (T378.setTop (mkF m 184 #[.val (.int p0_0), .val (.int p0_1), .val (.int p0_2), .val (.int p0_3), .val (.int p0_4), .val (.int (p0_0 &&& (3 : Int32))), .val (.ref b147), .val (.ref b160), .val (.ref b175), .val .null, .val (.ref b309), .val (.int (0 : Int32)), .val (.int (0 : Int32)), .val (.int (0 : Int32)), .val (.int ((p0_4 &&& (7 : Int32)) - (2 : Int32))), .val (own_F9 b309 p0_3 y321 (p0_0 &&& (3 : Int32)) ([.null, .null, .null])), .val (own_F9 b309 ((p0_4 &&& (7 : Int32)) - (2 : Int32)) y321 (p0_0 &&& (3 : Int32)) ([.null, .null, .null]))] [(.int (0 : Int32)), (.int (0 : Int32)), (.int (p0_0 &&& (3 : Int32))), (.int p0_3), (own_F9 b309 p0_3 y321 (p0_0 &&& (3 : Int32)) ([.null, .null, .null]))])) t
        refine XS.aload X378.here hx rfl (hb hby at_184) rfl rfl ?_
        show Steps p.tables e below (T378.setTop (mkF m 186 #[.val (.int p0_0), .val (.int p0_1), .val (.int p0_2), .val (.int p0_3), .val (.int p0_4), .val (.int (p0_0 &&& (3 : Int32))), .val (.ref b147), .val (.ref b160), .val (.ref b175), .val .null, .val (.ref b309), .val (.int (0 : Int32)), .val (.int (0 : Int32)), .val (.int (0 : Int32)), .val (.int ((p0_4 &&& (7 : Int32)) - (2 : Int32))), .val (own_F9 b309 p0_3 y321 (p0_0 &&& (3 : Int32)) ([.null, .null, .null])), .val (own_F9 b309 ((p0_4 &&& (7 : Int32)) - (2 : Int32)) y321 (p0_0 &&& (3 : Int32)) ([.null, .null, .null]))] [(.ref b175), (.int (0 : Int32)), (.int (0 : Int32)), (.int (p0_0 &&& (3 : Int32))), (.int p0_3), (own_F9 b309 p0_3 y321 (p0_0 &&& (3 : Int32)) ([.null, .null, .null]))])) t
        refine XS.iload X378.here hx rfl (hb hby at_186) rfl ?_
        show Steps p.tables e below (T378.setTop (mkF m 188 #[.val (.int p0_0), .val (.int p0_1), .val (.int p0_2), .val (.int p0_3), .val (.int p0_4), .val (.int (p0_0 &&& (3 : Int32))), .val (.ref b147), .val (.ref b160), .val (.ref b175), .val .null, .val (.ref b309), .val (.int (0 : Int32)), .val (.int (0 : Int32)), .val (.int (0 : Int32)), .val (.int ((p0_4 &&& (7 : Int32)) - (2 : Int32))), .val (own_F9 b309 p0_3 y321 (p0_0 &&& (3 : Int32)) ([.null, .null, .null])), .val (own_F9 b309 ((p0_4 &&& (7 : Int32)) - (2 : Int32)) y321 (p0_0 &&& (3 : Int32)) ([.null, .null, .null]))] [(.int (0 : Int32)), (.ref b175), (.int (0 : Int32)), (.int (0 : Int32)), (.int (p0_0 &&& (3 : Int32))), (.int p0_3), (own_F9 b309 p0_3 y321 (p0_0 &&& (3 : Int32)) ([.null, .null, .null]))])) t
        refine XS.aload X378.here hx rfl (hb hby at_188) rfl rfl ?_
        show Steps p.tables e below (T378.setTop (mkF m 190 #[.val (.int p0_0), .val (.int p0_1), .val (.int p0_2), .val (.int p0_3), .val (.int p0_4), .val (.int (p0_0 &&& (3 : Int32))), .val (.ref b147), .val (.ref b160), .val (.ref b175), .val .null, .val (.ref b309), .val (.int (0 : Int32)), .val (.int (0 : Int32)), .val (.int (0 : Int32)), .val (.int ((p0_4 &&& (7 : Int32)) - (2 : Int32))), .val (own_F9 b309 p0_3 y321 (p0_0 &&& (3 : Int32)) ([.null, .null, .null])), .val (own_F9 b309 ((p0_4 &&& (7 : Int32)) - (2 : Int32)) y321 (p0_0 &&& (3 : Int32)) ([.null, .null, .null]))] [.null, (.int (0 : Int32)), (.ref b175), (.int (0 : Int32)), (.int (0 : Int32)), (.int (p0_0 &&& (3 : Int32))), (.int p0_3), (own_F9 b309 p0_3 y321 (p0_0 &&& (3 : Int32)) ([.null, .null, .null]))])) t
        exact k
      obtain ⟨v380, _, ⟨T380, L380, k380, n380⟩, -, X380, ⟨Lc380, hQ380, l380, y380, z380⟩, st380⟩ := Jvm.LawKit.callS X378 hx (y := (⟨"com/example/yohokit/yohokit/PartsKeyAtPinLaw", "expected", "(IIZILjava/lang/String;ILjava/lang/String;)Ljava/lang/String;"⟩ : MethodName)) hown (mvT hZ (hw _ (List.mem_of_getElem? (i := 55) rfl))) (mvT hZ (hw _ (List.mem_of_getElem? (i := 56) rfl))) (mvT hZ (hw _ (List.mem_of_getElem? (i := 57) rfl))) (mvT hZ (hw _ (List.mem_of_getElem? (i := 58) rfl))) (by decide) (backOf (W := 1) (own_rm10 l Z a0 hw [] p0_3 (p0_0 &&& (3 : Int32)) (0 : Int32) (0 : Int32) b175 (0 : Int32) .null T321.heap n0 Z335 rfl) hZ (hw _ (List.mem_of_getElem? (i := 58) rfl)) (hw _ (List.mem_of_getElem? (i := 57) rfl)) (by decide) (by decide)) (g := (mkF m 190 #[.val (.int p0_0), .val (.int p0_1), .val (.int p0_2), .val (.int p0_3), .val (.int p0_4), .val (.int (p0_0 &&& (3 : Int32))), .val (.ref b147), .val (.ref b160), .val (.ref b175), .val .null, .val (.ref b309), .val (.int (0 : Int32)), .val (.int (0 : Int32)), .val (.int (0 : Int32)), .val (.int ((p0_4 &&& (7 : Int32)) - (2 : Int32))), .val (own_F9 b309 p0_3 y321 (p0_0 &&& (3 : Int32)) ([.null, .null, .null])), .val (own_F9 b309 ((p0_4 &&& (7 : Int32)) - (2 : Int32)) y321 (p0_0 &&& (3 : Int32)) ([.null, .null, .null]))] [.null, (.int (0 : Int32)), (.ref b175), (.int (0 : Int32)), (.int (0 : Int32)), (.int (p0_0 &&& (3 : Int32))), (.int p0_3), (own_F9 b309 p0_3 y321 (p0_0 &&& (3 : Int32)) ([.null, .null, .null]))])) rfl (by rw [hml]; rfl) (argsL := [(.int p0_3), (.int (p0_0 &&& (3 : Int32))), (.int (0 : Int32)), (.int (0 : Int32)), (.ref b175), (.int (0 : Int32)), .null]) (rest := [(own_F9 b309 p0_3 y321 (p0_0 &&& (3 : Int32)) ([.null, .null, .null]))]) (lenOf pd__IIZILjava_lang_String_ILjava_lang_String__Ljava_lang_String_ rfl) rfl (by show 2 * 0 + _ ≤ _; (simp only [List.map_cons, List.map_nil, List.sum_cons, List.sum_nil, own_cat1 hr376]) <;> exact Nat.le_of_eq rfl) (hb hby at_190) (fun _ _ => ⟨rfl, e378, (by decide : 7 + 0 ≤ _), (by decide : 16 + 0 ≤ _)⟩)
      dsimp only [Pt.U, Pt.locs, Pt.cells, Pt.slots] at X380 l380 y380 z380 st380 hQ380
      subst y380 z380
      obtain ⟨rfl, M380, e380, hr380⟩ := hQ380
      have N381 : Fr n0 L380 := by rw [l380]; exact Fr.app N379 M380
      refine own_by (T' := T380) (g' := (mkF m 193 #[.val (.int p0_0), .val (.int p0_1), .val (.int p0_2), .val (.int p0_3), .val (.int p0_4), .val (.int (p0_0 &&& (3 : Int32))), .val (.ref b147), .val (.ref b160), .val (.ref b175), .val .null, .val (.ref b309), .val (.int (0 : Int32)), .val (.int (0 : Int32)), .val (.int (0 : Int32)), .val (.int ((p0_4 &&& (7 : Int32)) - (2 : Int32))), .val (own_F9 b309 p0_3 y321 (p0_0 &&& (3 : Int32)) ([.null, .null, .null])), .val (own_F9 b309 ((p0_4 &&& (7 : Int32)) - (2 : Int32)) y321 (p0_0 &&& (3 : Int32)) ([.null, .null, .null]))] [(own_F10 p0_3 (p0_0 &&& (3 : Int32)) (0 : Int32) (0 : Int32) b175 (0 : Int32) .null), (own_F9 b309 p0_3 y321 (p0_0 &&& (3 : Int32)) ([.null, .null, .null]))])) st380 ?_
      refine own_by (T' := T380) (g' := (mkF m 212 #[.val (.int p0_0), .val (.int p0_1), .val (.int p0_2), .val (.int p0_3), .val (.int p0_4), .val (.int (p0_0 &&& (3 : Int32))), .val (.ref b147), .val (.ref b160), .val (.ref b175), .val .null, .val (.ref b309), .val (.int (0 : Int32)), .val (.int (0 : Int32)), .val (.int (0 : Int32)), .val (.int ((p0_4 &&& (7 : Int32)) - (2 : Int32))), .val (own_F9 b309 p0_3 y321 (p0_0 &&& (3 : Int32)) ([.null, .null, .null])), .val (own_F9 b309 ((p0_4 &&& (7 : Int32)) - (2 : Int32)) y321 (p0_0 &&& (3 : Int32)) ([.null, .null, .null]))] [.null, (.int (0 : Int32)), (.ref b175), (.int (0 : Int32)), (.int (0 : Int32)), (.int (p0_0 &&& (3 : Int32))), (.int ((p0_4 &&& (7 : Int32)) - (2 : Int32))), (own_F9 b309 ((p0_4 &&& (7 : Int32)) - (2 : Int32)) y321 (p0_0 &&& (3 : Int32)) ([.null, .null, .null]))])) (fun t k => ?_) ?_
      · show Steps p.tables e below (T380.setTop (mkF m 193 #[.val (.int p0_0), .val (.int p0_1), .val (.int p0_2), .val (.int p0_3), .val (.int p0_4), .val (.int (p0_0 &&& (3 : Int32))), .val (.ref b147), .val (.ref b160), .val (.ref b175), .val .null, .val (.ref b309), .val (.int (0 : Int32)), .val (.int (0 : Int32)), .val (.int (0 : Int32)), .val (.int ((p0_4 &&& (7 : Int32)) - (2 : Int32))), .val (own_F9 b309 p0_3 y321 (p0_0 &&& (3 : Int32)) ([.null, .null, .null])), .val (own_F9 b309 ((p0_4 &&& (7 : Int32)) - (2 : Int32)) y321 (p0_0 &&& (3 : Int32)) ([.null, .null, .null]))] [(own_F10 p0_3 (p0_0 &&& (3 : Int32)) (0 : Int32) (0 : Int32) b175 (0 : Int32) .null), (own_F9 b309 p0_3 y321 (p0_0 &&& (3 : Int32)) ([.null, .null, .null]))])) t
        refine Jvm.RoadKit.acmp (g := (mkF m 193 #[.val (.int p0_0), .val (.int p0_1), .val (.int p0_2), .val (.int p0_3), .val (.int p0_4), .val (.int (p0_0 &&& (3 : Int32))), .val (.ref b147), .val (.ref b160), .val (.ref b175), .val .null, .val (.ref b309), .val (.int (0 : Int32)), .val (.int (0 : Int32)), .val (.int (0 : Int32)), .val (.int ((p0_4 &&& (7 : Int32)) - (2 : Int32))), .val (own_F9 b309 p0_3 y321 (p0_0 &&& (3 : Int32)) ([.null, .null, .null])), .val (own_F9 b309 ((p0_4 &&& (7 : Int32)) - (2 : Int32)) y321 (p0_0 &&& (3 : Int32)) ([.null, .null, .null]))] [(own_F10 p0_3 (p0_0 &&& (3 : Int32)) (0 : Int32) (0 : Int32) b175 (0 : Int32) .null), (own_F9 b309 p0_3 y321 (p0_0 &&& (3 : Int32)) ([.null, .null, .null]))])) X380 hx rfl hr376 hr380 (pc0 := 193) (pc' := 196) (same := true) rfl (hb hby at_193) rfl (decide_eq_true own_ag0) (by decide) (by decide) ?_
        show Steps p.tables e below (T380.setTop (mkF m 196 #[.val (.int p0_0), .val (.int p0_1), .val (.int p0_2), .val (.int p0_3), .val (.int p0_4), .val (.int (p0_0 &&& (3 : Int32))), .val (.ref b147), .val (.ref b160), .val (.ref b175), .val .null, .val (.ref b309), .val (.int (0 : Int32)), .val (.int (0 : Int32)), .val (.int (0 : Int32)), .val (.int ((p0_4 &&& (7 : Int32)) - (2 : Int32))), .val (own_F9 b309 p0_3 y321 (p0_0 &&& (3 : Int32)) ([.null, .null, .null])), .val (own_F9 b309 ((p0_4 &&& (7 : Int32)) - (2 : Int32)) y321 (p0_0 &&& (3 : Int32)) ([.null, .null, .null]))] [])) t
        refine XS.aload X380.here hx rfl (hb hby at_196) rfl hr378 ?_
        show Steps p.tables e below (T380.setTop (mkF m 198 #[.val (.int p0_0), .val (.int p0_1), .val (.int p0_2), .val (.int p0_3), .val (.int p0_4), .val (.int (p0_0 &&& (3 : Int32))), .val (.ref b147), .val (.ref b160), .val (.ref b175), .val .null, .val (.ref b309), .val (.int (0 : Int32)), .val (.int (0 : Int32)), .val (.int (0 : Int32)), .val (.int ((p0_4 &&& (7 : Int32)) - (2 : Int32))), .val (own_F9 b309 p0_3 y321 (p0_0 &&& (3 : Int32)) ([.null, .null, .null])), .val (own_F9 b309 ((p0_4 &&& (7 : Int32)) - (2 : Int32)) y321 (p0_0 &&& (3 : Int32)) ([.null, .null, .null]))] [(own_F9 b309 ((p0_4 &&& (7 : Int32)) - (2 : Int32)) y321 (p0_0 &&& (3 : Int32)) ([.null, .null, .null]))])) t
        refine XS.iload X380.here hx rfl (hb hby at_198) rfl ?_
        show Steps p.tables e below (T380.setTop (mkF m 200 #[.val (.int p0_0), .val (.int p0_1), .val (.int p0_2), .val (.int p0_3), .val (.int p0_4), .val (.int (p0_0 &&& (3 : Int32))), .val (.ref b147), .val (.ref b160), .val (.ref b175), .val .null, .val (.ref b309), .val (.int (0 : Int32)), .val (.int (0 : Int32)), .val (.int (0 : Int32)), .val (.int ((p0_4 &&& (7 : Int32)) - (2 : Int32))), .val (own_F9 b309 p0_3 y321 (p0_0 &&& (3 : Int32)) ([.null, .null, .null])), .val (own_F9 b309 ((p0_4 &&& (7 : Int32)) - (2 : Int32)) y321 (p0_0 &&& (3 : Int32)) ([.null, .null, .null]))] [(.int ((p0_4 &&& (7 : Int32)) - (2 : Int32))), (own_F9 b309 ((p0_4 &&& (7 : Int32)) - (2 : Int32)) y321 (p0_0 &&& (3 : Int32)) ([.null, .null, .null]))])) t
        refine XS.iload X380.here hx rfl (hb hby at_200) rfl ?_
        show Steps p.tables e below (T380.setTop (mkF m 202 #[.val (.int p0_0), .val (.int p0_1), .val (.int p0_2), .val (.int p0_3), .val (.int p0_4), .val (.int (p0_0 &&& (3 : Int32))), .val (.ref b147), .val (.ref b160), .val (.ref b175), .val .null, .val (.ref b309), .val (.int (0 : Int32)), .val (.int (0 : Int32)), .val (.int (0 : Int32)), .val (.int ((p0_4 &&& (7 : Int32)) - (2 : Int32))), .val (own_F9 b309 p0_3 y321 (p0_0 &&& (3 : Int32)) ([.null, .null, .null])), .val (own_F9 b309 ((p0_4 &&& (7 : Int32)) - (2 : Int32)) y321 (p0_0 &&& (3 : Int32)) ([.null, .null, .null]))] [(.int (p0_0 &&& (3 : Int32))), (.int ((p0_4 &&& (7 : Int32)) - (2 : Int32))), (own_F9 b309 ((p0_4 &&& (7 : Int32)) - (2 : Int32)) y321 (p0_0 &&& (3 : Int32)) ([.null, .null, .null]))])) t
        refine XS.iload X380.here hx rfl (hb hby at_202) rfl ?_
        show Steps p.tables e below (T380.setTop (mkF m 204 #[.val (.int p0_0), .val (.int p0_1), .val (.int p0_2), .val (.int p0_3), .val (.int p0_4), .val (.int (p0_0 &&& (3 : Int32))), .val (.ref b147), .val (.ref b160), .val (.ref b175), .val .null, .val (.ref b309), .val (.int (0 : Int32)), .val (.int (0 : Int32)), .val (.int (0 : Int32)), .val (.int ((p0_4 &&& (7 : Int32)) - (2 : Int32))), .val (own_F9 b309 p0_3 y321 (p0_0 &&& (3 : Int32)) ([.null, .null, .null])), .val (own_F9 b309 ((p0_4 &&& (7 : Int32)) - (2 : Int32)) y321 (p0_0 &&& (3 : Int32)) ([.null, .null, .null]))] [(.int (0 : Int32)), (.int (p0_0 &&& (3 : Int32))), (.int ((p0_4 &&& (7 : Int32)) - (2 : Int32))), (own_F9 b309 ((p0_4 &&& (7 : Int32)) - (2 : Int32)) y321 (p0_0 &&& (3 : Int32)) ([.null, .null, .null]))])) t
        refine XS.iload X380.here hx rfl (hb hby at_204) rfl ?_
        show Steps p.tables e below (T380.setTop (mkF m 206 #[.val (.int p0_0), .val (.int p0_1), .val (.int p0_2), .val (.int p0_3), .val (.int p0_4), .val (.int (p0_0 &&& (3 : Int32))), .val (.ref b147), .val (.ref b160), .val (.ref b175), .val .null, .val (.ref b309), .val (.int (0 : Int32)), .val (.int (0 : Int32)), .val (.int (0 : Int32)), .val (.int ((p0_4 &&& (7 : Int32)) - (2 : Int32))), .val (own_F9 b309 p0_3 y321 (p0_0 &&& (3 : Int32)) ([.null, .null, .null])), .val (own_F9 b309 ((p0_4 &&& (7 : Int32)) - (2 : Int32)) y321 (p0_0 &&& (3 : Int32)) ([.null, .null, .null]))] [(.int (0 : Int32)), (.int (0 : Int32)), (.int (p0_0 &&& (3 : Int32))), (.int ((p0_4 &&& (7 : Int32)) - (2 : Int32))), (own_F9 b309 ((p0_4 &&& (7 : Int32)) - (2 : Int32)) y321 (p0_0 &&& (3 : Int32)) ([.null, .null, .null]))])) t
        refine XS.aload X380.here hx rfl (hb hby at_206) rfl rfl ?_
        show Steps p.tables e below (T380.setTop (mkF m 208 #[.val (.int p0_0), .val (.int p0_1), .val (.int p0_2), .val (.int p0_3), .val (.int p0_4), .val (.int (p0_0 &&& (3 : Int32))), .val (.ref b147), .val (.ref b160), .val (.ref b175), .val .null, .val (.ref b309), .val (.int (0 : Int32)), .val (.int (0 : Int32)), .val (.int (0 : Int32)), .val (.int ((p0_4 &&& (7 : Int32)) - (2 : Int32))), .val (own_F9 b309 p0_3 y321 (p0_0 &&& (3 : Int32)) ([.null, .null, .null])), .val (own_F9 b309 ((p0_4 &&& (7 : Int32)) - (2 : Int32)) y321 (p0_0 &&& (3 : Int32)) ([.null, .null, .null]))] [(.ref b175), (.int (0 : Int32)), (.int (0 : Int32)), (.int (p0_0 &&& (3 : Int32))), (.int ((p0_4 &&& (7 : Int32)) - (2 : Int32))), (own_F9 b309 ((p0_4 &&& (7 : Int32)) - (2 : Int32)) y321 (p0_0 &&& (3 : Int32)) ([.null, .null, .null]))])) t
        refine XS.iload X380.here hx rfl (hb hby at_208) rfl ?_
        show Steps p.tables e below (T380.setTop (mkF m 210 #[.val (.int p0_0), .val (.int p0_1), .val (.int p0_2), .val (.int p0_3), .val (.int p0_4), .val (.int (p0_0 &&& (3 : Int32))), .val (.ref b147), .val (.ref b160), .val (.ref b175), .val .null, .val (.ref b309), .val (.int (0 : Int32)), .val (.int (0 : Int32)), .val (.int (0 : Int32)), .val (.int ((p0_4 &&& (7 : Int32)) - (2 : Int32))), .val (own_F9 b309 p0_3 y321 (p0_0 &&& (3 : Int32)) ([.null, .null, .null])), .val (own_F9 b309 ((p0_4 &&& (7 : Int32)) - (2 : Int32)) y321 (p0_0 &&& (3 : Int32)) ([.null, .null, .null]))] [(.int (0 : Int32)), (.ref b175), (.int (0 : Int32)), (.int (0 : Int32)), (.int (p0_0 &&& (3 : Int32))), (.int ((p0_4 &&& (7 : Int32)) - (2 : Int32))), (own_F9 b309 ((p0_4 &&& (7 : Int32)) - (2 : Int32)) y321 (p0_0 &&& (3 : Int32)) ([.null, .null, .null]))])) t
        refine XS.aload X380.here hx rfl (hb hby at_210) rfl rfl ?_
        show Steps p.tables e below (T380.setTop (mkF m 212 #[.val (.int p0_0), .val (.int p0_1), .val (.int p0_2), .val (.int p0_3), .val (.int p0_4), .val (.int (p0_0 &&& (3 : Int32))), .val (.ref b147), .val (.ref b160), .val (.ref b175), .val .null, .val (.ref b309), .val (.int (0 : Int32)), .val (.int (0 : Int32)), .val (.int (0 : Int32)), .val (.int ((p0_4 &&& (7 : Int32)) - (2 : Int32))), .val (own_F9 b309 p0_3 y321 (p0_0 &&& (3 : Int32)) ([.null, .null, .null])), .val (own_F9 b309 ((p0_4 &&& (7 : Int32)) - (2 : Int32)) y321 (p0_0 &&& (3 : Int32)) ([.null, .null, .null]))] [.null, (.int (0 : Int32)), (.ref b175), (.int (0 : Int32)), (.int (0 : Int32)), (.int (p0_0 &&& (3 : Int32))), (.int ((p0_4 &&& (7 : Int32)) - (2 : Int32))), (own_F9 b309 ((p0_4 &&& (7 : Int32)) - (2 : Int32)) y321 (p0_0 &&& (3 : Int32)) ([.null, .null, .null]))])) t
        exact k
      obtain ⟨v382, _, ⟨T382, L382, k382, n382⟩, -, X382, ⟨Lc382, hQ382, l382, y382, z382⟩, st382⟩ := Jvm.LawKit.callS X380 hx (y := (⟨"com/example/yohokit/yohokit/PartsKeyAtPinLaw", "expected", "(IIZILjava/lang/String;ILjava/lang/String;)Ljava/lang/String;"⟩ : MethodName)) hown (mvT hZ (hw _ (List.mem_of_getElem? (i := 55) rfl))) (mvT hZ (hw _ (List.mem_of_getElem? (i := 56) rfl))) (mvT hZ (hw _ (List.mem_of_getElem? (i := 57) rfl))) (mvT hZ (hw _ (List.mem_of_getElem? (i := 58) rfl))) (by decide) (backOf (W := 1) (own_rm10 l Z a0 hw [] ((p0_4 &&& (7 : Int32)) - (2 : Int32)) (p0_0 &&& (3 : Int32)) (0 : Int32) (0 : Int32) b175 (0 : Int32) .null T321.heap n0 Z335 rfl) hZ (hw _ (List.mem_of_getElem? (i := 58) rfl)) (hw _ (List.mem_of_getElem? (i := 57) rfl)) (by decide) (by decide)) (g := (mkF m 212 #[.val (.int p0_0), .val (.int p0_1), .val (.int p0_2), .val (.int p0_3), .val (.int p0_4), .val (.int (p0_0 &&& (3 : Int32))), .val (.ref b147), .val (.ref b160), .val (.ref b175), .val .null, .val (.ref b309), .val (.int (0 : Int32)), .val (.int (0 : Int32)), .val (.int (0 : Int32)), .val (.int ((p0_4 &&& (7 : Int32)) - (2 : Int32))), .val (own_F9 b309 p0_3 y321 (p0_0 &&& (3 : Int32)) ([.null, .null, .null])), .val (own_F9 b309 ((p0_4 &&& (7 : Int32)) - (2 : Int32)) y321 (p0_0 &&& (3 : Int32)) ([.null, .null, .null]))] [.null, (.int (0 : Int32)), (.ref b175), (.int (0 : Int32)), (.int (0 : Int32)), (.int (p0_0 &&& (3 : Int32))), (.int ((p0_4 &&& (7 : Int32)) - (2 : Int32))), (own_F9 b309 ((p0_4 &&& (7 : Int32)) - (2 : Int32)) y321 (p0_0 &&& (3 : Int32)) ([.null, .null, .null]))])) rfl (by rw [hml]; rfl) (argsL := [(.int ((p0_4 &&& (7 : Int32)) - (2 : Int32))), (.int (p0_0 &&& (3 : Int32))), (.int (0 : Int32)), (.int (0 : Int32)), (.ref b175), (.int (0 : Int32)), .null]) (rest := [(own_F9 b309 ((p0_4 &&& (7 : Int32)) - (2 : Int32)) y321 (p0_0 &&& (3 : Int32)) ([.null, .null, .null]))]) (lenOf pd__IIZILjava_lang_String_ILjava_lang_String__Ljava_lang_String_ rfl) rfl (by show 2 * 0 + _ ≤ _; (simp only [List.map_cons, List.map_nil, List.sum_cons, List.sum_nil, own_cat1 hr378]) <;> exact Nat.le_of_eq rfl) (hb hby at_212) (fun _ _ => ⟨rfl, e380, (by decide : 7 + 0 ≤ _), (by decide : 16 + 0 ≤ _)⟩)
      dsimp only [Pt.U, Pt.locs, Pt.cells, Pt.slots] at X382 l382 y382 z382 st382 hQ382
      subst y382 z382
      obtain ⟨rfl, M382, e382, hr382⟩ := hQ382
      have N383 : Fr n0 L382 := by rw [l382]; exact Fr.app N381 M382
      refine own_by (T' := T382) (g' := (mkF m 215 #[.val (.int p0_0), .val (.int p0_1), .val (.int p0_2), .val (.int p0_3), .val (.int p0_4), .val (.int (p0_0 &&& (3 : Int32))), .val (.ref b147), .val (.ref b160), .val (.ref b175), .val .null, .val (.ref b309), .val (.int (0 : Int32)), .val (.int (0 : Int32)), .val (.int (0 : Int32)), .val (.int ((p0_4 &&& (7 : Int32)) - (2 : Int32))), .val (own_F9 b309 p0_3 y321 (p0_0 &&& (3 : Int32)) ([.null, .null, .null])), .val (own_F9 b309 ((p0_4 &&& (7 : Int32)) - (2 : Int32)) y321 (p0_0 &&& (3 : Int32)) ([.null, .null, .null]))] [(own_F10 ((p0_4 &&& (7 : Int32)) - (2 : Int32)) (p0_0 &&& (3 : Int32)) (0 : Int32) (0 : Int32) b175 (0 : Int32) .null), (own_F9 b309 ((p0_4 &&& (7 : Int32)) - (2 : Int32)) y321 (p0_0 &&& (3 : Int32)) ([.null, .null, .null]))])) st382 ?_
      refine own_by (T' := T382) (g' := (mkF m 223 #[.val (.int p0_0), .val (.int p0_1), .val (.int p0_2), .val (.int p0_3), .val (.int p0_4), .val (.int (p0_0 &&& (3 : Int32))), .val (.ref b147), .val (.ref b160), .val (.ref b175), .val .null, .val (.ref b309), .val (.int (0 : Int32)), .val (.int (0 : Int32)), .val (.int (0 : Int32)), .val (.int ((p0_4 &&& (7 : Int32)) - (2 : Int32))), .val (own_F9 b309 p0_3 y321 (p0_0 &&& (3 : Int32)) ([.null, .null, .null])), .val (own_F9 b309 ((p0_4 &&& (7 : Int32)) - (2 : Int32)) y321 (p0_0 &&& (3 : Int32)) ([.null, .null, .null]))] [(.int (1 : Int32))])) (fun t k => ?_) ?_
      · show Steps p.tables e below (T382.setTop (mkF m 215 #[.val (.int p0_0), .val (.int p0_1), .val (.int p0_2), .val (.int p0_3), .val (.int p0_4), .val (.int (p0_0 &&& (3 : Int32))), .val (.ref b147), .val (.ref b160), .val (.ref b175), .val .null, .val (.ref b309), .val (.int (0 : Int32)), .val (.int (0 : Int32)), .val (.int (0 : Int32)), .val (.int ((p0_4 &&& (7 : Int32)) - (2 : Int32))), .val (own_F9 b309 p0_3 y321 (p0_0 &&& (3 : Int32)) ([.null, .null, .null])), .val (own_F9 b309 ((p0_4 &&& (7 : Int32)) - (2 : Int32)) y321 (p0_0 &&& (3 : Int32)) ([.null, .null, .null]))] [(own_F10 ((p0_4 &&& (7 : Int32)) - (2 : Int32)) (p0_0 &&& (3 : Int32)) (0 : Int32) (0 : Int32) b175 (0 : Int32) .null), (own_F9 b309 ((p0_4 &&& (7 : Int32)) - (2 : Int32)) y321 (p0_0 &&& (3 : Int32)) ([.null, .null, .null]))])) t
        refine Jvm.RoadKit.acmp (g := (mkF m 215 #[.val (.int p0_0), .val (.int p0_1), .val (.int p0_2), .val (.int p0_3), .val (.int p0_4), .val (.int (p0_0 &&& (3 : Int32))), .val (.ref b147), .val (.ref b160), .val (.ref b175), .val .null, .val (.ref b309), .val (.int (0 : Int32)), .val (.int (0 : Int32)), .val (.int (0 : Int32)), .val (.int ((p0_4 &&& (7 : Int32)) - (2 : Int32))), .val (own_F9 b309 p0_3 y321 (p0_0 &&& (3 : Int32)) ([.null, .null, .null])), .val (own_F9 b309 ((p0_4 &&& (7 : Int32)) - (2 : Int32)) y321 (p0_0 &&& (3 : Int32)) ([.null, .null, .null]))] [(own_F10 ((p0_4 &&& (7 : Int32)) - (2 : Int32)) (p0_0 &&& (3 : Int32)) (0 : Int32) (0 : Int32) b175 (0 : Int32) .null), (own_F9 b309 ((p0_4 &&& (7 : Int32)) - (2 : Int32)) y321 (p0_0 &&& (3 : Int32)) ([.null, .null, .null]))])) X382 hx rfl hr378 hr382 (pc0 := 215) (pc' := 218) (same := true) rfl (hb hby at_215) rfl (decide_eq_true own_ag0) (by decide) (by decide) ?_
        show Steps p.tables e below (T382.setTop (mkF m 218 #[.val (.int p0_0), .val (.int p0_1), .val (.int p0_2), .val (.int p0_3), .val (.int p0_4), .val (.int (p0_0 &&& (3 : Int32))), .val (.ref b147), .val (.ref b160), .val (.ref b175), .val .null, .val (.ref b309), .val (.int (0 : Int32)), .val (.int (0 : Int32)), .val (.int (0 : Int32)), .val (.int ((p0_4 &&& (7 : Int32)) - (2 : Int32))), .val (own_F9 b309 p0_3 y321 (p0_0 &&& (3 : Int32)) ([.null, .null, .null])), .val (own_F9 b309 ((p0_4 &&& (7 : Int32)) - (2 : Int32)) y321 (p0_0 &&& (3 : Int32)) ([.null, .null, .null]))] [])) t
        refine XS.iconst X382.here hx rfl (hb hby at_218) ?_
        show Steps p.tables e below (T382.setTop (mkF m 219 #[.val (.int p0_0), .val (.int p0_1), .val (.int p0_2), .val (.int p0_3), .val (.int p0_4), .val (.int (p0_0 &&& (3 : Int32))), .val (.ref b147), .val (.ref b160), .val (.ref b175), .val .null, .val (.ref b309), .val (.int (0 : Int32)), .val (.int (0 : Int32)), .val (.int (0 : Int32)), .val (.int ((p0_4 &&& (7 : Int32)) - (2 : Int32))), .val (own_F9 b309 p0_3 y321 (p0_0 &&& (3 : Int32)) ([.null, .null, .null])), .val (own_F9 b309 ((p0_4 &&& (7 : Int32)) - (2 : Int32)) y321 (p0_0 &&& (3 : Int32)) ([.null, .null, .null]))] [(.int (1 : Int32))])) t
        refine XS.goto X382.here hx rfl (pc0 := 219) (pc' := 223) rfl (hb hby at_219) (by decide) (by decide) ?_
        show Steps p.tables e below (T382.setTop (mkF m 223 #[.val (.int p0_0), .val (.int p0_1), .val (.int p0_2), .val (.int p0_3), .val (.int p0_4), .val (.int (p0_0 &&& (3 : Int32))), .val (.ref b147), .val (.ref b160), .val (.ref b175), .val .null, .val (.ref b309), .val (.int (0 : Int32)), .val (.int (0 : Int32)), .val (.int (0 : Int32)), .val (.int ((p0_4 &&& (7 : Int32)) - (2 : Int32))), .val (own_F9 b309 p0_3 y321 (p0_0 &&& (3 : Int32)) ([.null, .null, .null])), .val (own_F9 b309 ((p0_4 &&& (7 : Int32)) - (2 : Int32)) y321 (p0_0 &&& (3 : Int32)) ([.null, .null, .null]))] [(.int (1 : Int32))])) t
        exact k
      exact own_retN X382 hx (t := .boolean) Bd.returns (by simp) (hb hby at_223) hlk (by decide) (by decide) ⟨rfl, N383⟩
set_option maxRecDepth 65536 in
set_option maxHeartbeats 40000000 in
theorem own_comes {Post : Tables → Env → Array Value → State → Outcome → State → Prop} (hpost : ∀ tb e args s v u, (limb_1_1.after args s (.returned v) u = true ∧ limb_1_2.after args s (.returned v) u = true ∧ True) → FrameEnd s (.returned v) u (Jvm.fieldLocs frame_1_writes args s ++ Jvm.arrayLocs frame_1_arrays args s ++ Jvm.staticLocs frame_1_statics s) 32 128 → Post tb e args s (.returned v) u) :
    ArmFor flags0 classFile x code maxLocals ret World_1 tables_1 room_1 Calls_1 rest_1 Pre_1 Post := by
  intro l hfl _ _ p e ha hc hk s m args below hf hA hF happ hP
  obtain ⟨hcalls, hrest, hpre⟩ := hP
  obtain ⟨-, -, -, hnamed, -, -, -, hat⟩ := (Spec.applies_iff hf).mp happ
  obtain ⟨hg, hn⟩ := and_e (Cond.before_iff.mp (show (Jvm.Cond.and given_1 narrow_1).before args s = true from hpre))
  obtain ⟨hg1, hg2⟩ := and_e hg
  obtain ⟨hg3, hg4⟩ := and_e hg2
  obtain ⟨hg5, hg6⟩ := and_e hg4
  obtain ⟨hg7, hg8⟩ := and_e hg6
  obtain ⟨hg9, hg10⟩ := and_e hg8
  obtain ⟨w0, w1, w2, w3, w4, rfl⟩ : ∃ w0 w1 w2 w3 w4 : Value, args = #[w0, w1, w2, w3, w4] := by
    have hs : args.size = 5 := by simpa [Cond.value, given_1] using hg1
    obtain ⟨L⟩ := args
    match L, hs with
    | [w0, w1, w2, w3, w4], _ => exact ⟨w0, w1, w2, w3, w4, rfl⟩
  have hw := fun d (hd : d ∈ tables_1) => atoms_spec (ws := Jvm.Cond.code x code maxLocals ret :: tables_1) hat d (List.mem_cons_of_mem _ hd)
  have hfit : Fit s := fun {y c} hc i hi => by
    obtain ⟨ha, rfl⟩ := Array.getElem?_eq_some_iff.mp hc
    have q := List.all_eq_true.mp ((Array.all_eq_true_iff_forall_mem.mp hF) _ (Array.getElem_mem ha)) i (List.mem_range.mpr hi)
    simpa [Array.getElem?_eq_getElem hi] using q
  obtain ⟨hsets, hown0⟩ := atoms_of _ (rest_1_c_eq ▸ (show rest_1_c.before _ s = true from hrest))
  have hr0 := Cond.before_iff.mp hown0
  obtain ⟨i0, ei0⟩ := is_v hg3
  obtain rfl : w0 = (.int i0) := Option.some.inj ei0
  obtain ⟨i1, ei1⟩ := is_v hg5
  obtain rfl : w1 = (.int i1) := Option.some.inj ei1
  obtain ⟨i2, ei2⟩ := is_v hg7
  obtain rfl : w2 = (.int i2) := Option.some.inj ei2
  obtain ⟨i3, ei3⟩ := is_v hg9
  obtain rfl : w3 = (.int i3) := Option.some.inj ei3
  obtain ⟨i4, ei4⟩ := is_v hg10
  obtain rfl : w4 = (.int i4) := Option.some.inj ei4
  obtain ⟨cs, ecs⟩ := is_v (Cond.before_iff.mp (hsets _ (List.mem_of_getElem? (i := 1) rfl)))
  have SC : Sta s s.heap "java/lang/String" "COMPACT_STRINGS" "Z" (.int cs) := Sta.start ecs (Or.inl (hsets _ (List.mem_of_getElem? (i := 0) rfl)))
  have HCS : ¬ (cs = (0 : Int32)) := gotF (Cond.eq_ints ecs (Term.int_eval (0))) (not_v (Cond.before_iff.mp (hsets _ (List.mem_of_getElem? (i := 2) rfl))))
  obtain ⟨n, o, h1, h2, h3, _, L, rfl, ⟨rfl, N⟩, hq⟩ := own_rm0 l s _ hw tables_1 i0 i1 i2 i3 i4 cs s.heap s.heap.size (Nat.le_refl _) (Old.start s) SC HCS p e ha hc hk s m _ below hf ((Spec.applies_iff_loose hf).mp happ).1 ⟨rfl, State.Warmed39.refl s, rfl⟩ trivial
  refine ⟨n, _, h1, h2, h3, hpost _ _ _ _ _ _ ⟨Cond.after_iff.mpr rfl, Cond.after_iff.mpr (eq_i res_at (Term.int_eval (1)) (congrArg Value.int (rfl))), trivial⟩ ⟨hq.1, hq.2.1, (hq.2.2.sift fun y hy => Or.inr (N y hy)).mono (by decide) (by decide)⟩⟩
theorem main_1_1 : Claimed_1_1 := own_comes fun _ _ _ _ _ _ h hF => ⟨h.1, hF⟩
theorem main_1_2 : Claimed_1_2 := own_comes fun _ _ _ _ _ _ h hF => ⟨h.2.1, hF⟩
end Jvm.Pilot.@@N@@
namespace Jvm.Pilot.@@N@@
open Jvm Jvm.ClassFile Sem Op Lib Jvm.Free Jvm.Stand Jvm.Pilot.@@N@@.Jvm.D
/-! MADE BY PROGRAM (witnessworld.py) out of the Statement's table words and the real class files: 22 classes; the members and pool entries that the words name. The judged class is class 1, her method 2. -/
namespace start1
open Jvm.ClassFile
def u (s : String) : CpInfo := .utf8 (stringToUtf16 s)
/-- a pool by its gaps: so many unusable entries, then the entry; so many at the end -/
def gap : Nat → List CpInfo → List CpInfo
  | 0, r => r
  | n + 1, r => .unusable :: gap n r
def poolList (es : List (Nat × CpInfo)) (last : Nat) : List CpInfo := es.foldr (fun e r => gap e.1 (e.2 :: r)) (gap last [])
def pool (es : List (Nat × CpInfo)) (last : Nat) : Array CpInfo := ⟨poolList es last⟩
def fileOf (pool : Array CpInfo) (this : Nat) (attrs : Array Attribute := #[]) (ms : Array MethodInfo := #[]) (fl : Nat := 33) (sup : Nat := 0) (ifs : Array Nat := #[]) (fds : Array FieldInfo := #[]) : ClassFile where
  minorVersion := 0
  majorVersion := 65
  constantPool := pool
  accessFlags := fl
  thisClass := this
  superClass := sup
  interfaces := ifs
  fields := fds
  methods := ms
  attributes := attrs
def plain (name : String) (sup : Option ClassId) : Class where
  name := name
  kind := .ordinary
  loader := none
  accessFlags := 33
  super := sup
  interfaces := #[]
  cf := none
  fields := #[]
  methods := #[]
  instanceTypes := #[]
  staticTypes := #[]
  resolved := #[]
  callSites := []
  init := .initialized
  statics := none
  mirror := none

def pool0 : Array CpInfo := pool [(5, u "<init>"), (0, u "()V"), (1, .class_ 10), (1, u "java/lang/Object")] 113

def k0c0 : Code := { maxStack := 0, maxLocals := 1, code := object_method_1_code, exceptionTable := #[], attributes := #[] }
def k0m0 : Method := { name := "<init>", desc := "()V", sig := { parameters := [], returnType := none }, accessFlags := 1, code := some k0c0 }
/-- java/lang/Object -/
def k0 : Class := { plain "java/lang/Object" none with
  accessFlags := 33
  interfaces := #[]
  cf := some (fileOf pool0 8 #[] #[{ accessFlags := 1, nameIndex := 5, descriptorIndex := 6, attributes := #[] }] 33 0 #[] #[])
  fields := #[]
  methods := #[k0m0]
  instanceTypes := #[]
  staticTypes := #[]
  resolved := Array.replicate 124 none
  statics := none }

def pool1 : Array CpInfo := pool [(2, .class_ 4), (1, u "java/lang/Object"), (0, u "<init>"), (0, u "()V"), (0, .class_ 8), (0, u "java/lang/String"), (0, .methodref 7 10), (0, .nameAndType 5 11), (0, u "([C)V"), (0, .class_ 13), (0, u "com/example/yohokit/yohokit/Parts"), (0, .methodref 12 15), (0, .nameAndType 5 16), (0, u "(Ljava/util/Map;I)V"), (0, .integer 65535), (0, .methodref 12 19), (0, .nameAndType 20 21), (0, u "write"), (0, u "(Ljava/lang/String;II)V"), (0, .methodref 12 23), (0, .nameAndType 24 25), (0, u "keyAt"), (0, u "(I)Ljava/lang/String;"), (0, .methodref 27 28), (0, .class_ 29), (0, .nameAndType 30 31), (0, u "com/example/yohokit/yohokit/PartsKeyAtPinLaw"), (0, u "expected"), (0, u "(IIZILjava/lang/String;ILjava/lang/String;)Ljava/lang/String;"), (3, u "law"), (0, u "(IIIII)Z")] 4

def k1m0 : Method := { name := "<init>", desc := "()V", sig := { parameters := [], returnType := none }, accessFlags := 2, code := none }
def k1c1 : Code := { maxStack := 2, maxLocals := 8, code := method_2_code, exceptionTable := #[], attributes := #[] }
def k1m1 : Method := { name := "expected", desc := "(IIZILjava/lang/String;ILjava/lang/String;)Ljava/lang/String;", sig := { parameters := [.int, .int, .boolean, .int, (.object "java/lang/String"), .int, (.object "java/lang/String")], returnType := some (.object "java/lang/String") }, accessFlags := 10, code := some k1c1 }
def k1c2 : Code := { maxStack := 8, maxLocals := 17, code := code, exceptionTable := #[], attributes := #[] }
def k1m2 : Method := { name := "law", desc := "(IIIII)Z", sig := { parameters := [.int, .int, .int, .int, .int], returnType := some .boolean }, accessFlags := 9, code := some k1c2 }
/-- com/example/yohokit/yohokit/PartsKeyAtPinLaw -/
def k1 : Class := { plain "com/example/yohokit/yohokit/PartsKeyAtPinLaw" (some 0) with
  accessFlags := 49
  interfaces := #[]
  cf := some (fileOf pool1 27 #[] #[{ accessFlags := 2, nameIndex := 5, descriptorIndex := 6, attributes := #[] }, { accessFlags := 10, nameIndex := 30, descriptorIndex := 31, attributes := #[] }, { accessFlags := 9, nameIndex := 35, descriptorIndex := 36, attributes := #[] }] 49 2 #[] #[])
  fields := #[]
  methods := #[k1m0, k1m1, k1m2]
  instanceTypes := #[]
  staticTypes := #[]
  resolved := Array.replicate 41 none
  statics := none }

def pool2 : Array CpInfo := pool [(1, .class_ 2), (0, u "java/io/Serializable"), (0, .class_ 4), (0, u "java/lang/Object")] 2

/-- java/io/Serializable -/
def k2 : Class := { plain "java/io/Serializable" (some 0) with
  accessFlags := 1537
  interfaces := #[]
  cf := some (fileOf pool2 1 #[] #[] 1537 3 #[] #[])
  fields := #[]
  methods := #[]
  instanceTypes := #[]
  staticTypes := #[]
  resolved := Array.replicate 7 none
  statics := none }

def pool3 : Array CpInfo := pool [(1, .class_ 2), (0, u "java/lang/Comparable"), (0, .class_ 4), (0, u "java/lang/Object")] 7

/-- java/lang/Comparable -/
def k3 : Class := { plain "java/lang/Comparable" (some 0) with
  accessFlags := 1537
  interfaces := #[]
  cf := some (fileOf pool3 1 #[] #[] 1537 3 #[] #[])
  fields := #[]
  methods := #[]
  instanceTypes := #[]
  staticTypes := #[]
  resolved := Array.replicate 12 none
  statics := none }

def pool4 : Array CpInfo := pool [(2, .class_ 4), (1, u "java/lang/CharSequence"), (42, .class_ 48), (0, u "java/lang/CharSequence$1CodePointIterator"), (10, .class_ 60), (0, u "java/lang/CharSequence$1CharIterator"), (5, .class_ 67), (0, u "java/lang/Object")] 63

/-- java/lang/CharSequence -/
def k4 : Class := { plain "java/lang/CharSequence" (some 0) with
  accessFlags := 1537
  interfaces := #[]
  cf := some (fileOf pool4 2 #[.nestMembers #[47, 59]] #[] 1537 66 #[] #[])
  fields := #[]
  methods := #[]
  instanceTypes := #[]
  staticTypes := #[]
  resolved := Array.replicate 131 none
  statics := none }

def pool5 : Array CpInfo := pool [(1, .class_ 2), (0, u "java/lang/constant/Constable"), (0, .class_ 4), (0, u "java/lang/Object")] 6

/-- java/lang/constant/Constable -/
def k5 : Class := { plain "java/lang/constant/Constable" (some 0) with
  accessFlags := 1537
  interfaces := #[]
  cf := some (fileOf pool5 1 #[] #[] 1537 3 #[] #[])
  fields := #[]
  methods := #[]
  instanceTypes := #[]
  staticTypes := #[]
  resolved := Array.replicate 11 none
  statics := none }

def pool6 : Array CpInfo := pool [(1, .class_ 2), (0, u "java/lang/constant/ConstantDesc"), (0, .class_ 4), (0, u "java/lang/Object")] 32

/-- java/lang/constant/ConstantDesc -/
def k6 : Class := { plain "java/lang/constant/ConstantDesc" (some 0) with
  accessFlags := 1537
  interfaces := #[]
  cf := some (fileOf pool6 1 #[] #[] 1537 3 #[] #[])
  fields := #[]
  methods := #[]
  instanceTypes := #[]
  staticTypes := #[]
  resolved := Array.replicate 37 none
  statics := none }

def pool7 : Array CpInfo := pool [(1, .methodref 2 3), (0, .class_ 4), (0, .nameAndType 5 6), (0, u "java/lang/Object"), (0, u "<init>"), (0, u "()V"), (2, .fieldref 10 11), (0, .class_ 12), (0, .nameAndType 13 14), (0, u "java/lang/String"), (0, u "value"), (0, u "[B"), (0, .fieldref 10 16), (0, .nameAndType 17 18), (0, u "coder"), (0, u "B"), (2, u "hash"), (0, u "I"), (2, u "hashIsZero"), (0, u "Z"), (0, .methodref 10 28), (0, .nameAndType 5 29), (0, u "([CIILjava/lang/Void;)V"), (8, .fieldref 10 39), (0, .nameAndType 40 26), (0, u "COMPACT_STRINGS"), (1, .class_ 44), (1, u "java/lang/StringUTF16"), (0, u "compress"), (1, .methodref 42 48), (0, .nameAndType 49 50), (0, u "coderFromArrayLen"), (0, u "([BI)B"), (126, .methodref 42 178), (0, .nameAndType 45 179), (0, u "([CII)[B"), (395, .class_ 576), (0, u "java/lang/CharSequence"), (22, u "CASE_INSENSITIVE_ORDER"), (0, u "Ljava/util/Comparator;"), (409, u "([C)V"), (90, u "serialPersistentFields"), (0, u "[Ljava/io/ObjectStreamField;"), (0, .class_ 1104), (0, u "java/lang/String$CaseInsensitiveComparator"), (1, .class_ 1107), (0, u "java/io/Serializable"), (0, .class_ 1109), (0, u "java/lang/Comparable"), (0, .class_ 1111), (0, u "java/lang/constant/Constable"), (0, .class_ 1113), (0, u "java/lang/constant/ConstantDesc"), (2, u "serialVersionUID"), (0, u "J"), (3, u "REPL"), (0, u "C"), (2, u "LATIN1"), (1, u "UTF16")] 323

def k7m0 : Method := { name := "<init>", desc := "()V", sig := { parameters := [], returnType := none }, accessFlags := 1, code := none }
def k7c1 : Code := { maxStack := 5, maxLocals := 2, code := jdk_42_method_3_code, exceptionTable := #[], attributes := #[] }
def k7m1 : Method := { name := "<init>", desc := "([C)V", sig := { parameters := [(.array .char)], returnType := none }, accessFlags := 1, code := some k7c1 }
def k7c2 : Code := { maxStack := 4, maxLocals := 6, code := jdk_42_method_149_code, exceptionTable := #[], attributes := #[] }
def k7m2 : Method := { name := "<init>", desc := "([CIILjava/lang/Void;)V", sig := { parameters := [(.array .char), .int, .int, (.object "java/lang/Void")], returnType := none }, accessFlags := 2, code := some k7c2 }
/-- java/lang/String -/
def k7 : Class := { plain "java/lang/String" (some 0) with
  accessFlags := 49
  interfaces := #[2, 3, 4, 5, 6]
  cf := some (fileOf pool7 10 #[.nestMembers #[1103]] #[{ accessFlags := 1, nameIndex := 5, descriptorIndex := 6, attributes := #[] }, { accessFlags := 1, nameIndex := 5, descriptorIndex := 1010, attributes := #[] }, { accessFlags := 2, nameIndex := 5, descriptorIndex := 29, attributes := #[] }] 49 2 #[1106, 1108, 575, 1110, 1112] #[{ accessFlags := 18, nameIndex := 13, descriptorIndex := 14, attributes := #[] }, { accessFlags := 18, nameIndex := 17, descriptorIndex := 18, attributes := #[] }, { accessFlags := 2, nameIndex := 21, descriptorIndex := 22, attributes := #[] }, { accessFlags := 2, nameIndex := 25, descriptorIndex := 26, attributes := #[] }, { accessFlags := 26, nameIndex := 1116, descriptorIndex := 1117, attributes := #[] }, { accessFlags := 24, nameIndex := 40, descriptorIndex := 26, attributes := #[] }, { accessFlags := 26, nameIndex := 1101, descriptorIndex := 1102, attributes := #[] }, { accessFlags := 26, nameIndex := 1121, descriptorIndex := 1122, attributes := #[] }, { accessFlags := 25, nameIndex := 599, descriptorIndex := 600, attributes := #[] }, { accessFlags := 24, nameIndex := 1125, descriptorIndex := 18, attributes := #[] }, { accessFlags := 24, nameIndex := 1127, descriptorIndex := 18, attributes := #[] }])
  fields := #[{ name := "value", type := (.array .byte), accessFlags := 18, slot := 0, constantValue := 0 }, { name := "coder", type := .byte, accessFlags := 18, slot := 1, constantValue := 0 }, { name := "hash", type := .int, accessFlags := 2, slot := 2, constantValue := 0 }, { name := "hashIsZero", type := .boolean, accessFlags := 2, slot := 3, constantValue := 0 }, { name := "serialVersionUID", type := .long, accessFlags := 26, slot := 0, constantValue := 0 }, { name := "COMPACT_STRINGS", type := .boolean, accessFlags := 24, slot := 1, constantValue := 0 }, { name := "serialPersistentFields", type := (.array (.object "java/io/ObjectStreamField")), accessFlags := 26, slot := 2, constantValue := 0 }, { name := "REPL", type := .char, accessFlags := 26, slot := 3, constantValue := 0 }, { name := "CASE_INSENSITIVE_ORDER", type := (.object "java/util/Comparator"), accessFlags := 25, slot := 4, constantValue := 0 }, { name := "LATIN1", type := .byte, accessFlags := 24, slot := 5, constantValue := 0 }, { name := "UTF16", type := .byte, accessFlags := 24, slot := 6, constantValue := 0 }]
  methods := #[k7m0, k7m1, k7m2]
  instanceTypes := #[(.array .byte), .byte, .int, .boolean]
  staticTypes := #[.long, .boolean, (.array (.object "java/io/ObjectStreamField")), .char, (.object "java/util/Comparator"), .byte, .byte]
  resolved := Array.replicate 1451 none
  statics := some 0 }

def pool8 : Array CpInfo := pool [(6, .class_ 8), (1, u "java/lang/Object"), (0, u "<init>"), (0, u "()V"), (1, .class_ 14), (1, u "java/lang/StringUTF16"), (31, u "$assertionsDisabled"), (0, u "Z"), (13, u "HI_BYTE_SHIFT"), (0, u "I"), (2, u "LO_BYTE_SHIFT"), (49, .methodref 12 116), (0, .nameAndType 117 118), (0, u "compress"), (0, u "([CI[BII)I"), (3, u "([CII)[B"), (138, u "coderFromArrayLen"), (0, u "([BI)B"), (106, .class_ 371), (1, u "java/lang/StringUTF16$LinesSpliterator"), (58, u "MAX_LENGTH"), (196, .class_ 628), (0, u "java/lang/StringUTF16$CodePointsSpliterator"), (0, .class_ 630), (0, u "java/lang/StringUTF16$CharsSpliterator")] 4

def k8m0 : Method := { name := "<init>", desc := "()V", sig := { parameters := [], returnType := none }, accessFlags := 0, code := none }
def k8c1 : Code := { maxStack := 2, maxLocals := 2, code := jdk_52_method_15_code, exceptionTable := #[], attributes := #[] }
def k8m1 : Method := { name := "coderFromArrayLen", desc := "([BI)B", sig := { parameters := [(.array .byte), .int], returnType := some .byte }, accessFlags := 8, code := some k8c1 }
def k8c2 : Code := { maxStack := 5, maxLocals := 6, code := jdk_52_method_16_code, exceptionTable := #[], attributes := #[] }
def k8m2 : Method := { name := "compress", desc := "([CII)[B", sig := { parameters := [(.array .char), .int, .int], returnType := some (.array .byte) }, accessFlags := 9, code := some k8c2 }
def k8c3 : Code := { maxStack := 3, maxLocals := 7, code := jdk_52_method_21_code, exceptionTable := #[], attributes := #[] }
def k8m3 : Method := { name := "compress", desc := "([CI[BII)I", sig := { parameters := [(.array .char), .int, (.array .byte), .int, .int], returnType := some .int }, accessFlags := 9, code := some k8c3 }
/-- java/lang/StringUTF16 -/
def k8 : Class := { plain "java/lang/StringUTF16" (some 0) with
  accessFlags := 48
  interfaces := #[]
  cf := some (fileOf pool8 12 #[.nestMembers #[627, 629, 369]] #[{ accessFlags := 0, nameIndex := 9, descriptorIndex := 10, attributes := #[] }, { accessFlags := 8, nameIndex := 261, descriptorIndex := 262, attributes := #[] }, { accessFlags := 9, nameIndex := 117, descriptorIndex := 122, attributes := #[] }, { accessFlags := 9, nameIndex := 117, descriptorIndex := 118, attributes := #[] }] 48 6 #[] #[{ accessFlags := 26, nameIndex := 61, descriptorIndex := 62, attributes := #[] }, { accessFlags := 26, nameIndex := 65, descriptorIndex := 62, attributes := #[] }, { accessFlags := 24, nameIndex := 430, descriptorIndex := 62, attributes := #[] }, { accessFlags := 4120, nameIndex := 46, descriptorIndex := 47, attributes := #[] }])
  fields := #[{ name := "HI_BYTE_SHIFT", type := .int, accessFlags := 26, slot := 0, constantValue := 0 }, { name := "LO_BYTE_SHIFT", type := .int, accessFlags := 26, slot := 1, constantValue := 0 }, { name := "MAX_LENGTH", type := .int, accessFlags := 24, slot := 2, constantValue := 0 }, { name := "$assertionsDisabled", type := .boolean, accessFlags := 4120, slot := 3, constantValue := 0 }]
  methods := #[k8m0, k8m1, k8m2, k8m3]
  instanceTypes := #[]
  staticTypes := #[.int, .int, .int, .boolean]
  resolved := Array.replicate 635 none
  statics := none }

def pool9 : Array CpInfo := pool [(1, .methodref 2 3), (0, .class_ 4), (0, .nameAndType 5 6), (0, u "java/lang/Object"), (0, u "<init>"), (0, u "()V"), (0, .fieldref 8 9), (0, .class_ 10), (0, .nameAndType 11 12), (0, u "com/example/yohokit/yohokit/Parts"), (0, u "lines"), (0, u "Ljava/util/Map;"), (0, .fieldref 8 14), (0, .nameAndType 15 16), (0, u "characters"), (0, u "[I"), (0, .methodref 18 19), (0, .class_ 20), (0, .nameAndType 21 22), (0, u "java/util/Arrays"), (0, u "fill"), (0, u "([II)V"), (0, .class_ 24), (0, u "java/lang/String"), (0, .fieldref 8 26), (0, .nameAndType 27 28), (0, u "keys"), (0, u "[Ljava/lang/String;"), (44, u "write"), (0, u "(Ljava/lang/String;II)V"), (16, u "(I)Ljava/lang/String;"), (59, u "BEYOND_EVERY_TABLE"), (0, u "C"), (3, u "(Ljava/util/Map;I)V"), (16, u "keyAt")] 24

def k9c0 : Code := { maxStack := 2, maxLocals := 3, code := prog_45_method_1_code, exceptionTable := #[], attributes := #[] }
def k9m0 : Method := { name := "<init>", desc := "(Ljava/util/Map;I)V", sig := { parameters := [(.object "java/util/Map"), .int], returnType := none }, accessFlags := 0, code := some k9c0 }
def k9c1 : Code := { maxStack := 3, maxLocals := 4, code := prog_45_method_6_code, exceptionTable := #[], attributes := #[] }
def k9m1 : Method := { name := "write", desc := "(Ljava/lang/String;II)V", sig := { parameters := [(.object "java/lang/String"), .int, .int], returnType := none }, accessFlags := 0, code := some k9c1 }
def k9c2 : Code := { maxStack := 3, maxLocals := 2, code := prog_45_method_12_code, exceptionTable := #[], attributes := #[] }
def k9m2 : Method := { name := "keyAt", desc := "(I)Ljava/lang/String;", sig := { parameters := [.int], returnType := some (.object "java/lang/String") }, accessFlags := 0, code := some k9c2 }
/-- com/example/yohokit/yohokit/Parts -/
def k9 : Class := { plain "com/example/yohokit/yohokit/Parts" (some 0) with
  accessFlags := 48
  interfaces := #[]
  cf := some (fileOf pool9 8 #[] #[{ accessFlags := 0, nameIndex := 5, descriptorIndex := 156, attributes := #[] }, { accessFlags := 0, nameIndex := 73, descriptorIndex := 74, attributes := #[] }, { accessFlags := 0, nameIndex := 173, descriptorIndex := 91, attributes := #[] }] 48 2 #[] #[{ accessFlags := 26, nameIndex := 151, descriptorIndex := 152, attributes := #[] }, { accessFlags := 18, nameIndex := 11, descriptorIndex := 12, attributes := #[] }, { accessFlags := 18, nameIndex := 15, descriptorIndex := 16, attributes := #[] }, { accessFlags := 18, nameIndex := 27, descriptorIndex := 28, attributes := #[] }])
  fields := #[{ name := "BEYOND_EVERY_TABLE", type := .char, accessFlags := 26, slot := 0, constantValue := 0 }, { name := "lines", type := (.object "java/util/Map"), accessFlags := 18, slot := 0, constantValue := 0 }, { name := "characters", type := (.array .int), accessFlags := 18, slot := 1, constantValue := 0 }, { name := "keys", type := (.array (.object "java/lang/String")), accessFlags := 18, slot := 2, constantValue := 0 }]
  methods := #[k9m0, k9m1, k9m2]
  instanceTypes := #[(.object "java/util/Map"), (.array .int), (.array (.object "java/lang/String"))]
  staticTypes := #[.char]
  resolved := Array.replicate 198 none
  statics := none }

def pool10 : Array CpInfo := pool [(2, .class_ 4), (1, u "java/lang/Object"), (0, u "<init>"), (0, u "()V"), (7, .class_ 16), (1, u "java/util/Arrays"), (57, .class_ 76), (1, u "java/util/Arrays$NaturalOrder"), (36, .class_ 115), (1, u "java/util/Arrays$LegacyMergeSort"), (1, u "Z"), (257, .class_ 376), (0, u "java/util/Arrays$ArrayList"), (68, u "$assertionsDisabled"), (269, u "MIN_ARRAY_SORT_GRAN"), (0, u "I"), (2, u "INSERTIONSORT_THRESHOLD"), (120, u "fill"), (4, u "([II)V"), (129, .class_ 976), (0, u "java/util/Arrays$ArrayItr")] 52

def k10m0 : Method := { name := "<init>", desc := "()V", sig := { parameters := [], returnType := none }, accessFlags := 2, code := none }
def k10c1 : Code := { maxStack := 3, maxLocals := 4, code := jdk_65_method_103_code, exceptionTable := #[], attributes := #[] }
def k10m1 : Method := { name := "fill", desc := "([II)V", sig := { parameters := [(.array .int), .int], returnType := none }, accessFlags := 9, code := some k10c1 }
/-- java/util/Arrays -/
def k10 : Class := { plain "java/util/Arrays" (some 0) with
  accessFlags := 49
  interfaces := #[]
  cf := some (fileOf pool10 14 #[.nestMembers #[975, 375, 113, 74]] #[{ accessFlags := 2, nameIndex := 5, descriptorIndex := 6, attributes := #[] }, { accessFlags := 9, nameIndex := 840, descriptorIndex := 845, attributes := #[] }] 49 2 #[] #[{ accessFlags := 26, nameIndex := 715, descriptorIndex := 716, attributes := #[] }, { accessFlags := 26, nameIndex := 719, descriptorIndex := 716, attributes := #[] }, { accessFlags := 4120, nameIndex := 445, descriptorIndex := 117, attributes := #[] }])
  fields := #[{ name := "MIN_ARRAY_SORT_GRAN", type := .int, accessFlags := 26, slot := 0, constantValue := 0 }, { name := "INSERTIONSORT_THRESHOLD", type := .int, accessFlags := 26, slot := 1, constantValue := 0 }, { name := "$assertionsDisabled", type := .boolean, accessFlags := 4120, slot := 2, constantValue := 0 }]
  methods := #[k10m0, k10m1]
  instanceTypes := #[]
  staticTypes := #[.int, .int, .boolean]
  resolved := Array.replicate 1029 none
  statics := none }

def pool11 : Array CpInfo := pool [(4, .class_ 6), (1, u "java/lang/Object"), (0, u "<init>"), (0, u "()V"), (5, .class_ 16), (1, u "java/lang/StringLatin1"), (104, u "$assertionsDisabled"), (0, u "Z"), (98, .class_ 223), (1, u "java/lang/StringLatin1$LinesSpliterator"), (166, .class_ 391), (0, u "java/lang/StringLatin1$CharsSpliterator")] 3

def k11m0 : Method := { name := "<init>", desc := "()V", sig := { parameters := [], returnType := none }, accessFlags := 0, code := none }
/-- java/lang/StringLatin1 -/
def k11 : Class := { plain "java/lang/StringLatin1" (some 0) with
  accessFlags := 48
  interfaces := #[]
  cf := some (fileOf pool11 14 #[.nestMembers #[390, 221]] #[{ accessFlags := 0, nameIndex := 7, descriptorIndex := 8, attributes := #[] }] 48 4 #[] #[{ accessFlags := 4120, nameIndex := 121, descriptorIndex := 122, attributes := #[] }])
  fields := #[{ name := "$assertionsDisabled", type := .boolean, accessFlags := 4120, slot := 0, constantValue := 0 }]
  methods := #[k11m0]
  instanceTypes := #[]
  staticTypes := #[.boolean]
  resolved := Array.replicate 395 none
  statics := none }

def pool12 : Array CpInfo := pool [(2, .class_ 4), (1, u "java/lang/Object"), (0, u "<init>"), (0, u "()V"), (17, .class_ 26), (1, u "jdk/internal/util/Preconditions"), (28, .class_ 56), (0, u "jdk/internal/util/Preconditions$4"), (57, .class_ 115), (0, u "jdk/internal/util/Preconditions$1"), (7, u "SIOOBE_FORMATTER"), (0, u "Ljava/util/function/BiFunction;"), (0, .class_ 126), (0, u "jdk/internal/util/Preconditions$2"), (3, u "AIOOBE_FORMATTER"), (0, .class_ 132), (0, u "jdk/internal/util/Preconditions$3"), (3, u "IOOBE_FORMATTER")] 57

def k12m0 : Method := { name := "<init>", desc := "()V", sig := { parameters := [], returnType := none }, accessFlags := 1, code := none }
/-- jdk/internal/util/Preconditions -/
def k12 : Class := { plain "jdk/internal/util/Preconditions" (some 0) with
  accessFlags := 33
  interfaces := #[]
  cf := some (fileOf pool12 24 #[.nestMembers #[55, 131, 125, 114]] #[{ accessFlags := 1, nameIndex := 5, descriptorIndex := 6, attributes := #[] }] 33 2 #[] #[{ accessFlags := 25, nameIndex := 123, descriptorIndex := 124, attributes := #[] }, { accessFlags := 25, nameIndex := 130, descriptorIndex := 124, attributes := #[] }, { accessFlags := 25, nameIndex := 136, descriptorIndex := 124, attributes := #[] }])
  fields := #[{ name := "SIOOBE_FORMATTER", type := (.object "java/util/function/BiFunction"), accessFlags := 25, slot := 0, constantValue := 0 }, { name := "AIOOBE_FORMATTER", type := (.object "java/util/function/BiFunction"), accessFlags := 25, slot := 1, constantValue := 0 }, { name := "IOOBE_FORMATTER", type := (.object "java/util/function/BiFunction"), accessFlags := 25, slot := 2, constantValue := 0 }]
  methods := #[k12m0]
  instanceTypes := #[]
  staticTypes := #[(.object "java/util/function/BiFunction"), (.object "java/util/function/BiFunction"), (.object "java/util/function/BiFunction")]
  resolved := Array.replicate 194 none
  statics := some 1 }

def pool13 : Array CpInfo := pool [(9, u "<init>"), (6, .class_ 18), (1, u "java/lang/Object"), (0, u "()V"), (1, .class_ 23), (1, u "jdk/internal/util/ArraysSupport"), (0, u "LOG2_ARRAY_LONG_INDEX_SCALE"), (0, u "I"), (2, u "U"), (0, u "Ljdk/internal/misc/Unsafe;"), (8, u "BIG_ENDIAN"), (0, u "Z"), (8, u "LOG2_BYTE_BIT_SIZE"), (4, u "LOG2_ARRAY_INT_INDEX_SCALE"), (54, u "JLA"), (0, u "Ljdk/internal/access/JavaLangAccess;"), (11, u "LOG2_ARRAY_BOOLEAN_INDEX_SCALE"), (9, u "LOG2_ARRAY_BYTE_INDEX_SCALE"), (5, u "LOG2_ARRAY_CHAR_INDEX_SCALE"), (5, u "LOG2_ARRAY_SHORT_INDEX_SCALE"), (18, u "LOG2_ARRAY_FLOAT_INDEX_SCALE"), (24, u "LOG2_ARRAY_DOUBLE_INDEX_SCALE"), (89, u "T_BOOLEAN"), (2, u "T_CHAR"), (1, u "T_FLOAT"), (1, u "T_DOUBLE"), (1, u "T_BYTE"), (1, u "T_SHORT"), (1, u "T_INT"), (1, u "T_LONG"), (1, u "SOFT_MAX_ARRAY_LENGTH")] 83

def k13m0 : Method := { name := "<init>", desc := "()V", sig := { parameters := [], returnType := none }, accessFlags := 2, code := none }
/-- jdk/internal/util/ArraysSupport -/
def k13 : Class := { plain "jdk/internal/util/ArraysSupport" (some 0) with
  accessFlags := 33
  interfaces := #[]
  cf := some (fileOf pool13 21 #[] #[{ accessFlags := 2, nameIndex := 9, descriptorIndex := 19, attributes := #[] }] 33 16 #[] #[{ accessFlags := 24, nameIndex := 28, descriptorIndex := 29, attributes := #[] }, { accessFlags := 26, nameIndex := 38, descriptorIndex := 39, attributes := #[] }, { accessFlags := 25, nameIndex := 121, descriptorIndex := 25, attributes := #[] }, { accessFlags := 25, nameIndex := 131, descriptorIndex := 25, attributes := #[] }, { accessFlags := 25, nameIndex := 137, descriptorIndex := 25, attributes := #[] }, { accessFlags := 25, nameIndex := 143, descriptorIndex := 25, attributes := #[] }, { accessFlags := 25, nameIndex := 53, descriptorIndex := 25, attributes := #[] }, { accessFlags := 25, nameIndex := 24, descriptorIndex := 25, attributes := #[] }, { accessFlags := 25, nameIndex := 162, descriptorIndex := 25, attributes := #[] }, { accessFlags := 25, nameIndex := 187, descriptorIndex := 25, attributes := #[] }, { accessFlags := 26, nameIndex := 48, descriptorIndex := 25, attributes := #[] }, { accessFlags := 25, nameIndex := 277, descriptorIndex := 25, attributes := #[] }, { accessFlags := 25, nameIndex := 280, descriptorIndex := 25, attributes := #[] }, { accessFlags := 25, nameIndex := 282, descriptorIndex := 25, attributes := #[] }, { accessFlags := 25, nameIndex := 284, descriptorIndex := 25, attributes := #[] }, { accessFlags := 25, nameIndex := 286, descriptorIndex := 25, attributes := #[] }, { accessFlags := 25, nameIndex := 288, descriptorIndex := 25, attributes := #[] }, { accessFlags := 25, nameIndex := 290, descriptorIndex := 25, attributes := #[] }, { accessFlags := 25, nameIndex := 292, descriptorIndex := 25, attributes := #[] }, { accessFlags := 26, nameIndex := 108, descriptorIndex := 109, attributes := #[] }, { accessFlags := 25, nameIndex := 294, descriptorIndex := 25, attributes := #[] }])
  fields := #[{ name := "U", type := (.object "jdk/internal/misc/Unsafe"), accessFlags := 24, slot := 0, constantValue := 0 }, { name := "BIG_ENDIAN", type := .boolean, accessFlags := 26, slot := 1, constantValue := 0 }, { name := "LOG2_ARRAY_BOOLEAN_INDEX_SCALE", type := .int, accessFlags := 25, slot := 2, constantValue := 0 }, { name := "LOG2_ARRAY_BYTE_INDEX_SCALE", type := .int, accessFlags := 25, slot := 3, constantValue := 0 }, { name := "LOG2_ARRAY_CHAR_INDEX_SCALE", type := .int, accessFlags := 25, slot := 4, constantValue := 0 }, { name := "LOG2_ARRAY_SHORT_INDEX_SCALE", type := .int, accessFlags := 25, slot := 5, constantValue := 0 }, { name := "LOG2_ARRAY_INT_INDEX_SCALE", type := .int, accessFlags := 25, slot := 6, constantValue := 0 }, { name := "LOG2_ARRAY_LONG_INDEX_SCALE", type := .int, accessFlags := 25, slot := 7, constantValue := 0 }, { name := "LOG2_ARRAY_FLOAT_INDEX_SCALE", type := .int, accessFlags := 25, slot := 8, constantValue := 0 }, { name := "LOG2_ARRAY_DOUBLE_INDEX_SCALE", type := .int, accessFlags := 25, slot := 9, constantValue := 0 }, { name := "LOG2_BYTE_BIT_SIZE", type := .int, accessFlags := 26, slot := 10, constantValue := 0 }, { name := "T_BOOLEAN", type := .int, accessFlags := 25, slot := 11, constantValue := 0 }, { name := "T_CHAR", type := .int, accessFlags := 25, slot := 12, constantValue := 0 }, { name := "T_FLOAT", type := .int, accessFlags := 25, slot := 13, constantValue := 0 }, { name := "T_DOUBLE", type := .int, accessFlags := 25, slot := 14, constantValue := 0 }, { name := "T_BYTE", type := .int, accessFlags := 25, slot := 15, constantValue := 0 }, { name := "T_SHORT", type := .int, accessFlags := 25, slot := 16, constantValue := 0 }, { name := "T_INT", type := .int, accessFlags := 25, slot := 17, constantValue := 0 }, { name := "T_LONG", type := .int, accessFlags := 25, slot := 18, constantValue := 0 }, { name := "JLA", type := (.object "jdk/internal/access/JavaLangAccess"), accessFlags := 26, slot := 19, constantValue := 0 }, { name := "SOFT_MAX_ARRAY_LENGTH", type := .int, accessFlags := 25, slot := 20, constantValue := 0 }]
  methods := #[k13m0]
  instanceTypes := #[]
  staticTypes := #[(.object "jdk/internal/misc/Unsafe"), .boolean, .int, .int, .int, .int, .int, .int, .int, .int, .int, .int, .int, .int, .int, .int, .int, .int, .int, (.object "jdk/internal/access/JavaLangAccess"), .int]
  resolved := Array.replicate 378 none
  statics := none }

def pool14 : Array CpInfo := pool [(1, u "java/lang/Cloneable"), (0, .class_ 1), (0, u "java/lang/Object"), (0, .class_ 3)] 3

/-- java/lang/Cloneable -/
def k14 : Class := { plain "java/lang/Cloneable" (some 0) with
  accessFlags := 1537
  interfaces := #[]
  cf := some (fileOf pool14 2 #[] #[] 1537 4 #[] #[])
  fields := #[]
  methods := #[]
  instanceTypes := #[]
  staticTypes := #[]
  resolved := Array.replicate 8 none
  statics := none }

/-- the primitive byte -/
def k15 : Class := { plain "byte" none with kind := .primitive 'B', accessFlags := 0x411 }
/-- [B -/
def k16 : Class := { plain "[B" (some 0) with kind := .array 15 .byte, interfaces := #[14, 2], accessFlags := 1041 }

/-- the primitive char -/
def k17 : Class := { plain "char" none with kind := .primitive 'C', accessFlags := 0x411 }
/-- [C -/
def k18 : Class := { plain "[C" (some 0) with kind := .array 17 .char, interfaces := #[14, 2], accessFlags := 1041 }

/-- the primitive int -/
def k19 : Class := { plain "int" none with kind := .primitive 'I', accessFlags := 0x411 }
/-- [I -/
def k20 : Class := { plain "[I" (some 0) with kind := .array 19 .int, interfaces := #[14, 2], accessFlags := 1041 }

/-- [Ljava/lang/String; -/
def k21 : Class := { plain "[Ljava/lang/String;" (some 0) with kind := .array 7 (.object "java/lang/String"), interfaces := #[14, 2], accessFlags := 1041 }

def heap : Heap := #[{ cls := 7, slots := #[.long 0, .int 1, .null, .int 0, .null, .int 0, .int 0], vm := .statics 7 },
  { cls := 12, slots := #[.null, .null, .null], vm := .statics 12 }]
def classes : Array Class := #[k0, k1, k2, k3, k4, k5, k6, k7, k8, k9, k10, k11, k12, k13, k14, k15, k16, k17, k18, k19, k20, k21]
def interned : List (Array UInt16 × Addr) := []
def slotsUsed : Nat := 10
def theMethod : MethodId := ⟨1, 2⟩
def args0 : Array Value := #[.int 2, .int 6, .int 7, .int 1, .int 2]
def aboutOver (below : List Frame) : State where
  vm := { classes := classes, interned := interned.toArray }
  heap := heap
  slotsUsed := slotsUsed
  threads := #[{ frames := .invoking theMethod args0 :: below }]
def below0 : List Frame := [.native { method := ⟨0, 0⟩, args := #[] }]
def about1 : State := aboutOver below0
def p0 : Program := .bare "" "" ""
def e0 : Env := launch0.env 0 0 0
theorem w_frames : about1.frames = Frame.invoking theMethod args0 :: below0 := rfl
set_option maxRecDepth 65536 in
theorem w_args : argsFit about1.vm theMethod args0 = true := by decide +kernel
set_option maxRecDepth 65536 in
theorem w_heap : heapFits about1 = true := by decide +kernel
set_option maxRecDepth 65536 in
theorem w_runnable : about1.curStatus? = some .runnable := by decide +kernel
set_option maxRecDepth 65536 in
theorem w_alone : about1.alone = true := by decide +kernel
set_option maxRecDepth 65536 in
theorem w_named : about1.methodNamed? x = some theMethod := by decide +kernel
set_option maxRecDepth 65536 in
theorem w_hears : about1.hears theMethod below0 = true := by decide +kernel
set_option maxRecDepth 65536 in
theorem w_ripe : about1.ripe theMethod args0 below0 = true := by decide +kernel
theorem w_running : about1.status = .running := rfl
set_option maxRecDepth 65536 in
theorem w_room : about1.hasRoom e0.platform room_1 = true :=
  launch0.hasRoom_least _ room_1 (by decide +kernel) (by decide +kernel) (by decide +kernel) (by decide +kernel) (by decide +kernel) (by decide +kernel)
theorem allAtoms_all (ts : List Jvm.Cond) (a : Array Jvm.Value) (st : Jvm.State) : (allAtoms ts).before a st = ts.all (fun c => c.before a st) := by
  induction ts with
  | nil => rfl
  | cons c t ih =>
    show (Jvm.Cond.and c (allAtoms t)).before a st = _
    rw [Jvm.Cond.before_and, ih, List.all_cons]
def words1 : List Jvm.Cond := Jvm.Cond.code x code maxLocals ret :: tables_1
/-- a 'code' word, met by the world's own term for the bytes: nothing is compared byte by byte -/
theorem code_word {y : MethodName} {bytes : ByteArray} {mx : Nat} {rt : Option FieldType} {a : Array Value} {s : State} {m : MethodId} {meth : Method} {c : Code} (h1 : s.methodNamed? y = some m) (h2 : s.vm.method? m = some meth) (h3 : meth.code = some c) (h4 : c.code = bytes)
    (h5 : (c.maxLocals == mx && c.exceptionTable.isEmpty && decide (c.maxStack ≤ mostOperands) && decide (meth.sig.returnType = rt) && !meth.locks && decide (parseMethodDescriptor y.desc = some meth.sig)) = true) : (Jvm.Cond.code y bytes mx rt).before a s = true := by
  simp only [Bool.and_eq_true, beq_iff_eq, Bool.not_eq_true', decide_eq_true_eq] at h5
  obtain ⟨⟨⟨⟨⟨g1, g2⟩, g3⟩, g4⟩, g5⟩, g6⟩ := h5
  simp [Cond.before, Cond.holds, Cond.value, h1, h2, h3, h4, g1, g2, g3, g4, g5, g6]
def isCode : Jvm.Cond → Bool
  | .code _ _ _ _ => true
  | _ => false
theorem all_split {L : List Jvm.Cond} {P : Jvm.Cond → Bool} (h1 : L.all (fun c => isCode c || P c) = true) (h2 : ∀ c ∈ L.filter isCode, P c = true) : L.all P = true := by
  refine List.all_eq_true.mpr fun c hc => ?_
  have h := List.all_eq_true.mp h1 c hc
  rcases Bool.eq_false_or_eq_true (isCode c) with hi | hi
  · exact h2 c (List.mem_filter.mpr ⟨hc, hi⟩)
  · simpa [hi] using h
set_option maxRecDepth 65536 in
theorem w_c0 : (Jvm.Cond.code x code maxLocals ret).before args0 about1 = true := code_word (m := ⟨1, 2⟩) (meth := k1m2) (c := k1c2) (by decide +kernel) rfl rfl rfl (by decide +kernel)
set_option maxRecDepth 65536 in
theorem w_c1 : (Jvm.Cond.code ({ cls := "java/lang/String", name := "<init>", desc := "([C)V" } : Jvm.MethodName) jdk_42_method_3_code (2 : Nat) (Option.none : Option Jvm.ClassFile.FieldType)).before args0 about1 = true := code_word (m := ⟨7, 1⟩) (meth := k7m1) (c := k7c1) (by decide +kernel) rfl rfl rfl (by decide +kernel)
set_option maxRecDepth 65536 in
theorem w_c2 : (Jvm.Cond.code ({ cls := "java/lang/String", name := "<init>", desc := "([CIILjava/lang/Void;)V" } : Jvm.MethodName) jdk_42_method_149_code (6 : Nat) (Option.none : Option Jvm.ClassFile.FieldType)).before args0 about1 = true := code_word (m := ⟨7, 2⟩) (meth := k7m2) (c := k7c2) (by decide +kernel) rfl rfl rfl (by decide +kernel)
set_option maxRecDepth 65536 in
theorem w_c3 : (Jvm.Cond.code ({ cls := "java/lang/Object", name := "<init>", desc := "()V" } : Jvm.MethodName) object_method_1_code (1 : Nat) (Option.none : Option Jvm.ClassFile.FieldType)).before args0 about1 = true := code_word (m := ⟨0, 0⟩) (meth := k0m0) (c := k0c0) (by decide +kernel) rfl rfl rfl (by decide +kernel)
set_option maxRecDepth 65536 in
theorem w_c4 : (Jvm.Cond.code ({ cls := "java/lang/StringUTF16", name := "compress", desc := "([CII)[B" } : Jvm.MethodName) jdk_52_method_16_code (6 : Nat) (Option.some (Jvm.ClassFile.FieldType.array Jvm.ClassFile.FieldType.byte))).before args0 about1 = true := code_word (m := ⟨8, 2⟩) (meth := k8m2) (c := k8c2) (by decide +kernel) rfl rfl rfl (by decide +kernel)
set_option maxRecDepth 65536 in
theorem w_c5 : (Jvm.Cond.code ({ cls := "java/lang/StringUTF16", name := "compress", desc := "([CI[BII)I" } : Jvm.MethodName) jdk_52_method_21_code (7 : Nat) (Option.some Jvm.ClassFile.FieldType.int)).before args0 about1 = true := code_word (m := ⟨8, 3⟩) (meth := k8m3) (c := k8c3) (by decide +kernel) rfl rfl rfl (by decide +kernel)
set_option maxRecDepth 65536 in
theorem w_c6 : (Jvm.Cond.code ({ cls := "java/lang/StringUTF16", name := "coderFromArrayLen", desc := "([BI)B" } : Jvm.MethodName) jdk_52_method_15_code (2 : Nat) (Option.some Jvm.ClassFile.FieldType.byte)).before args0 about1 = true := code_word (m := ⟨8, 1⟩) (meth := k8m1) (c := k8c1) (by decide +kernel) rfl rfl rfl (by decide +kernel)
set_option maxRecDepth 65536 in
theorem w_c7 : (Jvm.Cond.code ({ cls := "com/example/yohokit/yohokit/Parts", name := "<init>", desc := "(Ljava/util/Map;I)V" } : Jvm.MethodName) prog_45_method_1_code (3 : Nat) (Option.none : Option Jvm.ClassFile.FieldType)).before args0 about1 = true := code_word (m := ⟨9, 0⟩) (meth := k9m0) (c := k9c0) (by decide +kernel) rfl rfl rfl (by decide +kernel)
set_option maxRecDepth 65536 in
theorem w_c8 : (Jvm.Cond.code ({ cls := "java/util/Arrays", name := "fill", desc := "([II)V" } : Jvm.MethodName) jdk_65_method_103_code (4 : Nat) (Option.none : Option Jvm.ClassFile.FieldType)).before args0 about1 = true := code_word (m := ⟨10, 1⟩) (meth := k10m1) (c := k10c1) (by decide +kernel) rfl rfl rfl (by decide +kernel)
set_option maxRecDepth 65536 in
theorem w_c9 : (Jvm.Cond.code ({ cls := "com/example/yohokit/yohokit/Parts", name := "keyAt", desc := "(I)Ljava/lang/String;" } : Jvm.MethodName) prog_45_method_12_code (2 : Nat) (Option.some (Jvm.ClassFile.FieldType.object "java/lang/String"))).before args0 about1 = true := code_word (m := ⟨9, 2⟩) (meth := k9m2) (c := k9c2) (by decide +kernel) rfl rfl rfl (by decide +kernel)
set_option maxRecDepth 65536 in
theorem w_c10 : (Jvm.Cond.code ({ cls := "com/example/yohokit/yohokit/PartsKeyAtPinLaw", name := "expected", desc := "(IIZILjava/lang/String;ILjava/lang/String;)Ljava/lang/String;" } : Jvm.MethodName) method_2_code (8 : Nat) (Option.some (Jvm.ClassFile.FieldType.object "java/lang/String"))).before args0 about1 = true := code_word (m := ⟨1, 1⟩) (meth := k1m1) (c := k1c1) (by decide +kernel) rfl rfl rfl (by decide +kernel)
set_option maxRecDepth 65536 in
theorem w_c11 : (Jvm.Cond.code ({ cls := "com/example/yohokit/yohokit/Parts", name := "write", desc := "(Ljava/lang/String;II)V" } : Jvm.MethodName) prog_45_method_6_code (4 : Nat) (Option.none : Option Jvm.ClassFile.FieldType)).before args0 about1 = true := code_word (m := ⟨9, 1⟩) (meth := k9m1) (c := k9c1) (by decide +kernel) rfl rfl rfl (by decide +kernel)
def codes1 : List Jvm.Cond := [Jvm.Cond.code x code maxLocals ret, Jvm.Cond.code ({ cls := "java/lang/String", name := "<init>", desc := "([C)V" } : Jvm.MethodName) jdk_42_method_3_code (2 : Nat) (Option.none : Option Jvm.ClassFile.FieldType), Jvm.Cond.code ({ cls := "java/lang/String", name := "<init>", desc := "([CIILjava/lang/Void;)V" } : Jvm.MethodName) jdk_42_method_149_code (6 : Nat) (Option.none : Option Jvm.ClassFile.FieldType), Jvm.Cond.code ({ cls := "java/lang/Object", name := "<init>", desc := "()V" } : Jvm.MethodName) object_method_1_code (1 : Nat) (Option.none : Option Jvm.ClassFile.FieldType), Jvm.Cond.code ({ cls := "java/lang/StringUTF16", name := "compress", desc := "([CII)[B" } : Jvm.MethodName) jdk_52_method_16_code (6 : Nat) (Option.some (Jvm.ClassFile.FieldType.array Jvm.ClassFile.FieldType.byte)), Jvm.Cond.code ({ cls := "java/lang/StringUTF16", name := "compress", desc := "([CI[BII)I" } : Jvm.MethodName) jdk_52_method_21_code (7 : Nat) (Option.some Jvm.ClassFile.FieldType.int), Jvm.Cond.code ({ cls := "java/lang/StringUTF16", name := "coderFromArrayLen", desc := "([BI)B" } : Jvm.MethodName) jdk_52_method_15_code (2 : Nat) (Option.some Jvm.ClassFile.FieldType.byte), Jvm.Cond.code ({ cls := "com/example/yohokit/yohokit/Parts", name := "<init>", desc := "(Ljava/util/Map;I)V" } : Jvm.MethodName) prog_45_method_1_code (3 : Nat) (Option.none : Option Jvm.ClassFile.FieldType), Jvm.Cond.code ({ cls := "java/util/Arrays", name := "fill", desc := "([II)V" } : Jvm.MethodName) jdk_65_method_103_code (4 : Nat) (Option.none : Option Jvm.ClassFile.FieldType), Jvm.Cond.code ({ cls := "com/example/yohokit/yohokit/Parts", name := "keyAt", desc := "(I)Ljava/lang/String;" } : Jvm.MethodName) prog_45_method_12_code (2 : Nat) (Option.some (Jvm.ClassFile.FieldType.object "java/lang/String")), Jvm.Cond.code ({ cls := "com/example/yohokit/yohokit/PartsKeyAtPinLaw", name := "expected", desc := "(IIZILjava/lang/String;ILjava/lang/String;)Ljava/lang/String;" } : Jvm.MethodName) method_2_code (8 : Nat) (Option.some (Jvm.ClassFile.FieldType.object "java/lang/String")), Jvm.Cond.code ({ cls := "com/example/yohokit/yohokit/Parts", name := "write", desc := "(Ljava/lang/String;II)V" } : Jvm.MethodName) prog_45_method_6_code (4 : Nat) (Option.none : Option Jvm.ClassFile.FieldType)]
set_option maxRecDepth 65536 in
theorem codes_eq : words1.filter isCode = codes1 := rfl
theorem w_codes : ∀ c ∈ words1.filter isCode, c.before args0 about1 = true := by
  rw [codes_eq]
  intro c hc
  simp only [codes1, List.mem_cons, List.not_mem_nil, or_false] at hc
  rcases hc with rfl | rfl | rfl | rfl | rfl | rfl | rfl | rfl | rfl | rfl | rfl | rfl
  · exact w_c0
  · exact w_c1
  · exact w_c2
  · exact w_c3
  · exact w_c4
  · exact w_c5
  · exact w_c6
  · exact w_c7
  · exact w_c8
  · exact w_c9
  · exact w_c10
  · exact w_c11
set_option maxRecDepth 65536 in
theorem w_t1 : (words1.take 24).all (fun c => isCode c || c.before args0 about1) = true := by decide +kernel
set_option maxRecDepth 65536 in
theorem w_t2 : ((words1.drop 24).take 24).all (fun c => isCode c || c.before args0 about1) = true := by decide +kernel
set_option maxRecDepth 65536 in
theorem w_t3 : ((words1.drop 24).drop 24).all (fun c => isCode c || c.before args0 about1) = true := by decide +kernel
theorem w_tables : (allAtoms (Jvm.Cond.code x code maxLocals ret :: tables_1)).before args0 about1 = true := by
  rw [allAtoms_all]
  show words1.all (fun c => c.before args0 about1) = true
  refine all_split ?_ w_codes
  rw [← List.take_append_drop 24 words1, List.all_append, w_t1, ← List.take_append_drop 24 (words1.drop 24), List.all_append, w_t2, w_t3]
  rfl
set_option maxRecDepth 65536 in
theorem w_rest : rest_1_c.before args0 about1 = true := by decide +kernel
set_option maxRecDepth 65536 in
theorem w_case : (Jvm.Cond.and given_1 narrow_1).before args0 about1 = true := by decide +kernel
theorem w_applies : (headSpec (Jvm.Cond.code x code maxLocals ret :: tables_1) room_1).applies x e0.platform about1 = true :=
  (Spec.applies_iff w_frames).mpr ⟨w_running, w_runnable, w_alone, w_named, w_hears, w_ripe, w_room, w_tables⟩
theorem atStart : AtStart classFile x code maxLocals ret World_1 tables_1 room_1 Calls_1 rest_1 Pre_1 launch0 p0 e0 about1 theMethod args0 below0 :=
  ⟨lists_1, trivial, launch0.admits_env _ _ _, launch0.least_env, fairChoices_fair.cas, fairChoices_fair.clock, w_frames, w_args, w_heap, w_applies, trivial, w_rest, w_case⟩
end start1
theorem witness_1 : WitnessClaimed_1 := ⟨start1.p0, start1.e0, start1.about1, start1.theMethod, start1.args0, start1.below0, start1.atStart⟩
end Jvm.Pilot.@@N@@
