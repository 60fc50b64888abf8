import JvmDerived
import JvmDerived.Pilot.@@N@@Statement
import JvmDerived.Pilot.@@N@@Code
set_option linter.unusedVariables false
set_option linter.unusedSimpArgs false
namespace Jvm.Pilot.@@N@@
namespace StrChars
open Jvm Sem ClassFile Op Lib Jvm.Stand Jvm.Free.XT Jvm.Free.ALB Jvm.Free.JM Jvm.Free
open Jvm.Lib.Cold (StaticIs)
/-- a char array whose places are chars -/
def Ch (a : Addr) (A : Cell) (U : State) : Prop := Arr .char a A U ∧ Typed .char A
theorem Ch.mv {a : Addr} {A : Cell} {U U' : State} (h : Ch a A U) (hal : U.vm.Alike U'.vm) (hh : U'.heap = U.heap) : Ch a A U' := ⟨h.1.mv hal hh, h.2⟩
theorem Ch.keep {a : Addr} {A : Cell} {U U' : State} (h : Ch a A U) (hal : U.vm.Alike U'.vm) (hk : U'.heap[a]? = some A) : Ch a A U' := ⟨h.1.keep hal hk, h.2⟩
/-- what place i of a char[]'s cell holds -/
def cv (A : Cell) (i : Nat) : Int32 := match A.slots[i]? with | some (.int x) => x | _ => 0
theorem Ch.get {a : Addr} {A : Cell} {U : State} (h : Ch a A U) {i : Nat} (hi : i < A.slots.size) : A.slots[i]? = some (.int (cv A i)) := by
  have e := Array.getElem?_eq_getElem hi
  have f := h.2 i _ e
  unfold cv; rw [e]
  generalize A.slots[i] = v at f
  cases v <;> simp [fits] at f ⊢
/-- the byte that i2b leaves of a char -/
def lo8 (x : Int32) : Int32 := x.toInt8.toInt32
theorem fits_lo8 (y : Int32) : fits .byte (.int (lo8 y)) = true := by
  have h1 := y.toInt8.le_toInt
  have h2 := y.toInt8.toInt_lt
  simp only [lo8, fits, Bool.and_eq_true, decide_eq_true_eq, Int32.le_iff_toInt_le, Int8.toInt_toInt32, show (-128 : Int32).toInt = -128 from by decide, show (127 : Int32).toInt = 127 from by decide]
  omega
/-- A' is A but that each place j of lo .. hi - 1 holds f j -/
def Laid (A A' : Cell) (lo hi : Nat) (f : Nat → Value) : Prop := A'.cls = A.cls ∧ A'.vm = A.vm ∧ A'.slots.size = A.slots.size ∧ ∀ i, A'.slots[i]? = if lo ≤ i ∧ i < hi then some (f i) else A.slots[i]?
theorem Laid.zero (A : Cell) (lo : Nat) (f : Nat → Value) : Laid A A lo (lo + 0) f := ⟨rfl, rfl, rfl, fun i => by rw [if_neg (by omega)]⟩
theorem Laid.step {A Ak : Cell} {lo k : Nat} {f : Nat → Value} {v : Value} (h : Laid A Ak lo k f) (hlo : lo ≤ k) (hk : k < Ak.slots.size) (hv : v = f k) : Laid A (Ak.setSlot k v) lo (k + 1) f := by
  refine ⟨h.1, h.2.1, by simpa [Cell.setSlot] using h.2.2.1, fun i => ?_⟩
  by_cases e : k = i
  · subst e; rw [Cell.slots_setSlot_self v hk, if_pos (by omega), hv]
  · rw [Cell.slots_setSlot_ne v e, h.2.2.2 i]
    by_cases q : lo ≤ i ∧ i < k
    · rw [if_pos q, if_pos (by omega)]
    · rw [if_neg q, if_neg (by omega)]
def U16 : String := "java/lang/StringUTF16"
namespace Cmp5
def yN : MethodName := ⟨"java/lang/StringUTF16", "compress", "([CI[BII)I"⟩
abbrev yB : ByteArray := jdk_52_method_21_code
theorem d0 : decode yB 0 = .ok (.iconst 0, 1) := by decide +kernel
theorem d1 : decode yB 1 = .ok (.istore 5, 2) := by decide +kernel
theorem d3 : decode yB 3 = .ok (.iload 5, 2) := by decide +kernel
theorem d5 : decode yB 5 = .ok (.iload 4, 2) := by decide +kernel
theorem d7 : decode yB 7 = .ok (.if_icmp (.ge) 37, 3) := by decide +kernel
theorem d10 : decode yB 10 = .ok (.aload_n 0, 1) := by decide +kernel
theorem d11 : decode yB 11 = .ok (.iload_n 1, 1) := by decide +kernel
theorem d12 : decode yB 12 = .ok (.caload, 1) := by decide +kernel
theorem d13 : decode yB 13 = .ok (.istore 6, 2) := by decide +kernel
theorem d15 : decode yB 15 = .ok (.iload 6, 2) := by decide +kernel
theorem d17 : decode yB 17 = .ok (.sipush 255, 3) := by decide +kernel
theorem d20 : decode yB 20 = .ok (.if_icmp (.le) 6, 3) := by decide +kernel
theorem d26 : decode yB 26 = .ok (.aload_n 2, 1) := by decide +kernel
theorem d27 : decode yB 27 = .ok (.iload_n 3, 1) := by decide +kernel
theorem d28 : decode yB 28 = .ok (.iload 6, 2) := by decide +kernel
theorem d30 : decode yB 30 = .ok (.i2b, 1) := by decide +kernel
theorem d31 : decode yB 31 = .ok (.bastore, 1) := by decide +kernel
theorem d32 : decode yB 32 = .ok (.iinc 1 1, 3) := by decide +kernel
theorem d35 : decode yB 35 = .ok (.iinc 3 1, 3) := by decide +kernel
theorem d38 : decode yB 38 = .ok (.iinc 5 1, 3) := by decide +kernel
theorem d41 : decode yB 41 = .ok (.goto (-38), 3) := by decide +kernel
theorem d44 : decode yB 44 = .ok (.iload 4, 2) := by decide +kernel
theorem d46 : decode yB 46 = .ok (.ireturn, 1) := by decide +kernel
def site : List Cond := []
def tab : Cond := tabOf yN yB 7 (some .int) site
def P (b : Addr) (A : Cell) (d : Addr) (B : Cell) (o q len : Nat) (args : Array Value) (s : State) : Prop := args = #[.ref b, .int (Int32.ofNat o), .ref d, .int (Int32.ofNat q), .int (Int32.ofNat len)] ∧ Ch b A s ∧ Arr .byte d B s ∧ b ≠ d ∧ o + len ≤ A.slots.size ∧ q + len ≤ B.slots.size ∧ ∀ i, i < len → ¬ 255 < cv A (o + i)
def E (b : Addr) (A : Cell) (d : Addr) (B : Cell) (o q len : Nat) (r : Option Value) (s u : State) : Prop := r = some (.int (Int32.ofNat len)) ∧ ∃ B', Put d B' s u ∧ Laid B B' q (q + len) (fun j => Value.int (lo8 (cv A (o + (j - q)))))
/-- no char of the range above 255: len; the places written hold each char's low byte -/
theorem law (l : Launch) (b : Addr) (A : Cell) (d : Addr) (B : Cell) (o q len : Nat) : Law l yN 5 5 0 0 yB 7 (some .int) site (P b A d B o q len) (E b A d B o q len) (copyLocs d q len) 0 0 := by
  refine Law.of_walk (plainFor_of_name (by decide +kernel)) (by decide +kernel) (by decide +kernel) (by decide) (fun _ _ h => by rw [h.1]; rfl) (fun _ U U' hal hh h => ⟨h.1, h.2.1.mv hal hh, h.2.2.1.mv hal hh, h.2.2.2⟩) (fun r U U' V V' h1 hal h2 h => ⟨h.1, h.2.elim fun B' q => ⟨B', q.1.mv h1 h2, q.2⟩⟩) ?_
  intro p e s m args below meth c s₁ X0 hexec hbytes hml hret hlk hnm hown hh0 W hP
  obtain ⟨rfl, hA, hB, hne, l1, l2, hp⟩ := hP
  have c1 : Steps p.tables e below (s₁.setTop (entryFrame m #[.ref b, .int (Int32.ofNat o), .ref d, .int (Int32.ofNat q), .int (Int32.ofNat len)] 7)) (s₁.setTop (mkF m 0 #[.val (.ref b), .val (.int (Int32.ofNat o)), .val (.ref d), .val (.int (Int32.ofNat q)), .val (.int (Int32.ofNat len)), .unset, .unset] [])) := entry rfl
  have hA0 := hA.1.mv X0.warmed.alike hh0
  have hB0 := hB.mv X0.warmed.alike hh0
  have a31 := hA.1.2.2.2
  have c2 : Steps p.tables e below (s₁.setTop (entryFrame m #[.ref b, .int (Int32.ofNat o), .ref d, .int (Int32.ofNat q), .int (Int32.ofNat len)] 7)) (s₁.setTop (mkF m 3 #[.val (.ref b), .val (.int (Int32.ofNat o)), .val (.ref d), .val (.int (Int32.ofNat q)), .val (.int (Int32.ofNat len)), .val (.int 0), .unset] [])) := c1.trans (by
    refine iconstV X0.here hexec rfl 0 (hb hbytes d0) (by decide) ?_
    refine XS.istore X0.here hexec rfl (hb hbytes d1) rfl rfl ?_
    exact Steps.refl _)
  have loop : ∀ (r i : Nat), i + r = len → ∀ (z : Slot), (z = .unset ∨ ∃ w, z = .val w ∧ w.category = 1) → ∀ (Tl : State) (Bk : Cell), Stand p l e { frames := 0, locals := 0, cells := 0, slots := 0 } s m #[.ref b, .int (Int32.ofNat o), .ref d, .int (Int32.ofNat q), .int (Int32.ofNat len)] below meth c Tl ([] ++ copyLocs d q i) 0 0 → Put d Bk s₁ Tl → Laid B Bk q (q + i) (fun j => Value.int (lo8 (cv A (o + (j - q))))) →
      Steps p.tables e below (s₁.setTop (entryFrame m #[.ref b, .int (Int32.ofNat o), .ref d, .int (Int32.ofNat q), .int (Int32.ofNat len)] 7)) (Tl.setTop (mkF m 3 #[.val (.ref b), .val (.int (Int32.ofNat (o + i))), .val (.ref d), .val (.int (Int32.ofNat (q + i))), .val (.int (Int32.ofNat len)), .val (.int (Int32.ofNat i)), z] [])) → ∃ (T' : State) (B' : Cell) (z' : Slot), Stand p l e { frames := 0, locals := 0, cells := 0, slots := 0 } s m #[.ref b, .int (Int32.ofNat o), .ref d, .int (Int32.ofNat q), .int (Int32.ofNat len)] below meth c T' ([] ++ copyLocs d q len) 0 0 ∧ Put d B' s₁ T' ∧ Laid B B' q (q + len) (fun j => Value.int (lo8 (cv A (o + (j - q))))) ∧
      Steps p.tables e below (s₁.setTop (entryFrame m #[.ref b, .int (Int32.ofNat o), .ref d, .int (Int32.ofNat q), .int (Int32.ofNat len)] 7)) (T'.setTop (mkF m 3 #[.val (.ref b), .val (.int (Int32.ofNat (o + len))), .val (.ref d), .val (.int (Int32.ofNat (q + len))), .val (.int (Int32.ofNat len)), .val (.int (Int32.ofNat len)), z'] [])) := by
    intro r
    induction r with
    | zero =>
      intro i hi z hz Tl Bk Xl pl fl cl
      have hil : i = len := by omega
      rw [hil] at Xl fl cl
      exact ⟨Tl, Bk, z, Xl, pl, fl, cl⟩
    | succ r ih =>
      intro i hi z hz Tl Bk Xl pl fl cl
      have all := X0.warmed.alike.symm.trans Xl.warmed.alike
      have hAl := hA0.keep all (pl.other hne hA0.1)
      have hBk := hB0.like all pl.1 fl.1 fl.2.1 fl.2.2.1
      have hlt : q + i < Bk.slots.size := by rw [fl.2.2.1]; omega
      have c3 : Steps p.tables e below (s₁.setTop (entryFrame m #[.ref b, .int (Int32.ofNat o), .ref d, .int (Int32.ofNat q), .int (Int32.ofNat len)] 7)) (Tl.setTop (mkF m 12 #[.val (.ref b), .val (.int (Int32.ofNat (o + i))), .val (.ref d), .val (.int (Int32.ofNat (q + i))), .val (.int (Int32.ofNat len)), .val (.int (Int32.ofNat i)), z] [.int (Int32.ofNat (o + i)), .ref b])) := cl.trans (by
        refine XS.iload Xl.here hexec rfl (hb hbytes d3) rfl ?_
        refine XS.iload Xl.here hexec rfl (hb hbytes d5) rfl ?_
        refine XS.icmpNo Xl.here hexec rfl (hb hbytes d7) rfl (ii_ge_f (lt32 (by omega) (by omega))) ?_
        refine XS.aloadN Xl.here hexec rfl (hb hbytes d10) rfl rfl ?_
        refine XS.iloadN Xl.here hexec rfl (hb hbytes d11) rfl ?_
        exact Steps.refl _)
      have c4 : Steps p.tables e below (s₁.setTop (entryFrame m #[.ref b, .int (Int32.ofNat o), .ref d, .int (Int32.ofNat q), .int (Int32.ofNat len)] 7)) (Tl.setTop (mkF m 13 #[.val (.ref b), .val (.int (Int32.ofNat (o + i))), .val (.ref d), .val (.int (Int32.ofNat (q + i))), .val (.int (Int32.ofNat len)), .val (.int (Int32.ofNat i)), z] [.int (cv A (o + i))])) := c3.trans (by
        refine Xl.aget hexec hAl rfl (hA.get (i := o + i) (by omega)) rfl rfl (hb hbytes d12) ?_
        exact Steps.refl _)
      have c5 : Steps p.tables e below (s₁.setTop (entryFrame m #[.ref b, .int (Int32.ofNat o), .ref d, .int (Int32.ofNat q), .int (Int32.ofNat len)] 7)) (Tl.setTop (mkF m 15 #[.val (.ref b), .val (.int (Int32.ofNat (o + i))), .val (.ref d), .val (.int (Int32.ofNat (q + i))), .val (.int (Int32.ofNat len)), .val (.int (Int32.ofNat i)), .val (.int (cv A (o + i)))] [])) := c4.trans (by
        refine XS.istoreS Xl.here hexec rfl (hb hbytes d13) rfl rfl hz ?_
        exact Steps.refl _)
      have c6 : Steps p.tables e below (s₁.setTop (entryFrame m #[.ref b, .int (Int32.ofNat o), .ref d, .int (Int32.ofNat q), .int (Int32.ofNat len)] 7)) (Tl.setTop (mkF m 31 #[.val (.ref b), .val (.int (Int32.ofNat (o + i))), .val (.ref d), .val (.int (Int32.ofNat (q + i))), .val (.int (Int32.ofNat len)), .val (.int (Int32.ofNat i)), .val (.int (cv A (o + i)))] [.int (lo8 (cv A (o + i))), .int (Int32.ofNat (q + i)), .ref d])) := c5.trans (by
        refine XS.iload Xl.here hexec rfl (hb hbytes d15) rfl ?_
        refine sipushV Xl.here hexec rfl 255 (hb hbytes d17) (by decide) ?_
        refine XS.icmpYes Xl.here hexec rfl (pc0 := 20) rfl (hb hbytes d20) rfl (ii_le_t (hp i (by omega))) (by decide) rfl ?_
        refine XS.aloadN Xl.here hexec rfl (hb hbytes d26) rfl rfl ?_
        refine XS.iloadN Xl.here hexec rfl (hb hbytes d27) rfl ?_
        refine XS.iload Xl.here hexec rfl (hb hbytes d28) rfl ?_
        refine i2b Xl.here hexec rfl (hb hbytes d30) rfl ?_
        exact Steps.refl _)
      obtain ⟨T7, X7, p7, st7⟩ := Xl.aput hexec hBk rfl hlt rfl (fits_lo8 (cv A (o + i))) (g := (mkF m 31 #[.val (.ref b), .val (.int (Int32.ofNat (o + i))), .val (.ref d), .val (.int (Int32.ofNat (q + i))), .val (.int (Int32.ofNat len)), .val (.int (Int32.ofNat i)), .val (.int (cv A (o + i)))] [.int (lo8 (cv A (o + i))), .int (Int32.ofNat (q + i)), .ref d])) rfl (rest := []) rfl (hb hbytes d31)
      have c8 : Steps p.tables e below (s₁.setTop (entryFrame m #[.ref b, .int (Int32.ofNat o), .ref d, .int (Int32.ofNat q), .int (Int32.ofNat len)] 7)) (T7.setTop (mkF m 32 #[.val (.ref b), .val (.int (Int32.ofNat (o + i))), .val (.ref d), .val (.int (Int32.ofNat (q + i))), .val (.int (Int32.ofNat len)), .val (.int (Int32.ofNat i)), .val (.int (cv A (o + i)))] [])) := c6.trans (st7 _ (Steps.refl _))
      have c9 : Steps p.tables e below (s₁.setTop (entryFrame m #[.ref b, .int (Int32.ofNat o), .ref d, .int (Int32.ofNat q), .int (Int32.ofNat len)] 7)) (T7.setTop (mkF m 3 #[.val (.ref b), .val (.int (Int32.ofNat (o + i) + 1)), .val (.ref d), .val (.int (Int32.ofNat (q + i) + 1)), .val (.int (Int32.ofNat len)), .val (.int (Int32.ofNat i + 1)), .val (.int (cv A (o + i)))] [])) := c8.trans (by
        refine iincV X7.here hexec rfl 1 (hb hbytes d32) (by decide) rfl rfl ?_
        refine iincV X7.here hexec rfl 1 (hb hbytes d35) (by decide) rfl rfl ?_
        refine iincV X7.here hexec rfl 1 (hb hbytes d38) (by decide) rfl rfl ?_
        refine XS.goto X7.here hexec rfl (pc0 := 41) rfl (hb hbytes d41) (by decide) rfl ?_
        exact Steps.refl _)
      have c10 : Steps p.tables e below (s₁.setTop (entryFrame m #[.ref b, .int (Int32.ofNat o), .ref d, .int (Int32.ofNat q), .int (Int32.ofNat len)] 7)) (T7.setTop (mkF m 3 #[.val (.ref b), .val (.int (Int32.ofNat (o + (i + 1)))), .val (.ref d), .val (.int (Int32.ofNat (q + (i + 1)))), .val (.int (Int32.ofNat len)), .val (.int (Int32.ofNat (i + 1))), .val (.int (cv A (o + i)))] [])) := by
        have := c9
        rw [succ32, succ32, succ32] at this
        exact this
      exact ih (i + 1) (by omega) _ (Or.inr ⟨_, rfl, rfl⟩) T7 _ (by rw [copyLocs_step, ← List.append_assoc]; exact X7) (pl.trans p7) (fl.step (by omega) hlt (by simp)) c10
  obtain ⟨T9, B9, z9, X9, p9, f9, g9⟩ := loop len 0 (by omega) .unset (Or.inl rfl) s₁ B (by simpa [copyLocs] using X0) ⟨hB0.1, fun _ _ => rfl, rfl⟩ (Laid.zero _ _ _) c2
  have c11 : Steps p.tables e below (s₁.setTop (entryFrame m #[.ref b, .int (Int32.ofNat o), .ref d, .int (Int32.ofNat q), .int (Int32.ofNat len)] 7)) (T9.setTop (mkF m 46 #[.val (.ref b), .val (.int (Int32.ofNat (o + len))), .val (.ref d), .val (.int (Int32.ofNat (q + len))), .val (.int (Int32.ofNat len)), .val (.int (Int32.ofNat len)), z9] [.int (Int32.ofNat len)])) := g9.trans (by
    refine XS.iload X9.here hexec rfl (hb hbytes d3) rfl ?_
    refine XS.iload X9.here hexec rfl (hb hbytes d5) rfl ?_
    refine XS.icmpYes X9.here hexec rfl (pc0 := 7) rfl (hb hbytes d7) rfl (ii_ge_t (nlt32 (by omega) (Nat.le_refl _))) (by decide) rfl ?_
    refine XS.iload X9.here hexec rfl (hb hbytes d44) rfl ?_
    exact Steps.refl _)
  exact ⟨T9, some (.int (Int32.ofNat len)), _, _, _, X9, by simp, rfl, rfl, (fun h => by cases h), ⟨rfl, B9, p9.from hh0, f9⟩, fun fs hl => c11.trans (X9.ireturnOut hexec hret rfl (Or.inl rfl) (hb hbytes d46) hl)⟩
end Cmp5
namespace Cmp3
def yN : MethodName := ⟨"java/lang/StringUTF16", "compress", "([CII)[B"⟩
abbrev yB : ByteArray := jdk_52_method_16_code
theorem d0 : decode yB 0 = .ok (.iload_n 2, 1) := by decide +kernel
theorem d1 : decode yB 1 = .ok (.newarray .byte, 2) := by decide +kernel
theorem d3 : decode yB 3 = .ok (.astore_n 3, 1) := by decide +kernel
theorem d4 : decode yB 4 = .ok (.aload_n 0, 1) := by decide +kernel
theorem d5 : decode yB 5 = .ok (.iload_n 1, 1) := by decide +kernel
theorem d6 : decode yB 6 = .ok (.aload_n 3, 1) := by decide +kernel
theorem d7 : decode yB 7 = .ok (.iconst 0, 1) := by decide +kernel
theorem d8 : decode yB 8 = .ok (.iload_n 2, 1) := by decide +kernel
theorem d9 : decode yB 9 = .ok (.invokestatic 115, 3) := by decide +kernel
theorem d12 : decode yB 12 = .ok (.istore 4, 2) := by decide +kernel
theorem d14 : decode yB 14 = .ok (.iload 4, 2) := by decide +kernel
theorem d16 : decode yB 16 = .ok (.iload_n 2, 1) := by decide +kernel
theorem d17 : decode yB 17 = .ok (.if_icmp (.eq) 40, 3) := by decide +kernel
theorem d57 : decode yB 57 = .ok (.aload_n 3, 1) := by decide +kernel
theorem d58 : decode yB 58 = .ok (.areturn, 1) := by decide +kernel
def site : List Cond := [.arrayClass .byte, Cmp5.tab] ++ staticW U16 115 Cmp5.yN
def tab : Cond := tabOf yN yB 6 (some (.array .byte)) site
def P (b : Addr) (A : Cell) (o len : Nat) (args : Array Value) (s : State) : Prop := args = #[.ref b, .int (Int32.ofNat o), .int (Int32.ofNat len)] ∧ Ch b A s ∧ o + len ≤ A.slots.size ∧ len ≤ 536870912 ∧ ∀ i, i < len → ¬ 255 < cv A (o + i)
def E (b : Addr) (A : Cell) (o len : Nat) (r : Option Value) (s u : State) : Prop := NewArr .byte "[B" len (fun j => .int (lo8 (cv A (o + j)))) r s u ∧ u.heap.size = s.heap.size + 1
/-- no char of the range above 255: a new byte[] of their low bytes -/
theorem law (l : Launch) (b : Addr) (A : Cell) (o len : Nat) : Law l yN 3 3 1 18 yB 6 (some (.array .byte)) site (P b A o len) (E b A o len) [] 1 len := by
  refine Law.of_walk (plainFor_of_name (by decide +kernel)) (by decide +kernel) (by decide +kernel) (by decide) (fun _ _ h => by rw [h.1]; rfl) (fun _ U U' hal hh h => ⟨h.1, h.2.1.mv hal hh, h.2.2⟩) (fun r U U' V V' h1 hal h2 h => ⟨NewArr.mv r U U' V V' h1 hal h2 h.1, by rw [h1, h2]; exact h.2⟩) ?_
  intro p e s m args below meth c s₁ X0 hexec hbytes hml hret hlk hnm hown hh0 W hP
  obtain ⟨rfl, hA, l1, l2, hp⟩ := hP
  have a31 := hA.1.2.2.2
  have c1 : Steps p.tables e below (s₁.setTop (entryFrame m #[.ref b, .int (Int32.ofNat o), .int (Int32.ofNat len)] 6)) (s₁.setTop (mkF m 0 #[.val (.ref b), .val (.int (Int32.ofNat o)), .val (.int (Int32.ofNat len)), .unset, .unset, .unset] [])) := entry rfl
  have c2 : Steps p.tables e below (s₁.setTop (entryFrame m #[.ref b, .int (Int32.ofNat o), .int (Int32.ofNat len)] 6)) (s₁.setTop (mkF m 1 #[.val (.ref b), .val (.int (Int32.ofNat o)), .val (.int (Int32.ofNat len)), .unset, .unset, .unset] [.int (Int32.ofNat len)])) := c1.trans (by
    refine XS.iloadN X0.here hexec rfl (hb hbytes d0) rfl ?_
    exact Steps.refl _)
  obtain ⟨T3, B3, X3, ba3, bs3, bv3, bh3, bf3, st3⟩ := X0.anew hexec (atype := .byte) (wk W (.arrayClass .byte)) rfl (by show len * 1 ≤ _; omega) (by omega) (g := (mkF m 1 #[.val (.ref b), .val (.int (Int32.ofNat o)), .val (.int (Int32.ofNat len)), .unset, .unset, .unset] [.int (Int32.ofNat len)])) rfl (hb hbytes d1) (rest := []) rfl (Nat.le_refl _) (by show 0 + len ≤ len; omega)
  rw [hh0] at ba3 st3
  have kp3 : XT.Kept s T3 := (XT.Kept.of_eq hh0).push bh3
  have hA3 := hA.keep X3.warmed.alike (kp3 _ _ hA.1.1)
  have hne : b ≠ s.heap.size := hA.1.ne
  have c4 : Steps p.tables e below (s₁.setTop (entryFrame m #[.ref b, .int (Int32.ofNat o), .int (Int32.ofNat len)] 6)) (T3.setTop (mkF m 3 #[.val (.ref b), .val (.int (Int32.ofNat o)), .val (.int (Int32.ofNat len)), .unset, .unset, .unset] [.ref s.heap.size])) := c2.trans (st3 _ (Steps.refl _))
  have c5 : Steps p.tables e below (s₁.setTop (entryFrame m #[.ref b, .int (Int32.ofNat o), .int (Int32.ofNat len)] 6)) (T3.setTop (mkF m 9 #[.val (.ref b), .val (.int (Int32.ofNat o)), .val (.int (Int32.ofNat len)), .val (.ref s.heap.size), .unset, .unset] [.int (Int32.ofNat len), .int 0, .ref s.heap.size, .int (Int32.ofNat o), .ref b])) := c4.trans (by
    refine XS.astoreN X3.here hexec rfl (hb hbytes d3) rfl rfl rfl ?_
    refine XS.aloadN X3.here hexec rfl (hb hbytes d4) rfl rfl ?_
    refine XS.iloadN X3.here hexec rfl (hb hbytes d5) rfl ?_
    refine XS.aloadN X3.here hexec rfl (hb hbytes d6) rfl rfl ?_
    refine iconstV X3.here hexec rfl 0 (hb hbytes d7) (by decide) ?_
    refine XS.iloadN X3.here hexec rfl (hb hbytes d8) rfl ?_
    exact Steps.refl _)
  obtain ⟨v6, T6, X6, E6, g6⟩ := X3.callS hexec (Cmp5.law l b A s.heap.size B3 o 0 len) hown (wks W (staticW U16 115 Cmp5.yN)) (wk W Cmp5.tab) (W := 0) (Nat.le_of_ble_eq_true rfl) (Nat.le_of_ble_eq_true rfl) (Nat.le_refl _) (by show 0 + len + 0 ≤ len; omega) (g := (mkF m 9 #[.val (.ref b), .val (.int (Int32.ofNat o)), .val (.int (Int32.ofNat len)), .val (.ref s.heap.size), .unset, .unset] [.int (Int32.ofNat len), .int (Int32.ofNat 0), .ref s.heap.size, .int (Int32.ofNat o), .ref b])) rfl (by rw [hml]; rfl) c5 (argsL := [.ref b, .int (Int32.ofNat o), .ref s.heap.size, .int (Int32.ofNat 0), .int (Int32.ofNat len)]) (rest := []) rfl rfl (by show 2 * 0 + 0 ≤ _; decide) (hb hbytes d9) (⟨rfl, hA3, ba3, hne, l1, by rw [bs3]; simp, hp⟩)
  obtain ⟨rfl, B6, p6, f6⟩ := E6
  have c7 : Steps p.tables e below (s₁.setTop (entryFrame m #[.ref b, .int (Int32.ofNat o), .int (Int32.ofNat len)] 6)) (T6.setTop (mkF m 12 #[.val (.ref b), .val (.int (Int32.ofNat o)), .val (.int (Int32.ofNat len)), .val (.ref s.heap.size), .unset, .unset] [.int (Int32.ofNat len)])) := g6
  have c8 : Steps p.tables e below (s₁.setTop (entryFrame m #[.ref b, .int (Int32.ofNat o), .int (Int32.ofNat len)] 6)) (T6.setTop (mkF m 58 #[.val (.ref b), .val (.int (Int32.ofNat o)), .val (.int (Int32.ofNat len)), .val (.ref s.heap.size), .val (.int (Int32.ofNat len)), .unset] [.ref s.heap.size])) := c7.trans (by
    refine XS.istore X6.here hexec rfl (hb hbytes d12) rfl rfl ?_
    refine XS.iload X6.here hexec rfl (hb hbytes d14) rfl ?_
    refine XS.iloadN X6.here hexec rfl (hb hbytes d16) rfl ?_
    refine XS.icmpYes X6.here hexec rfl (pc0 := 17) rfl (hb hbytes d17) rfl (ii_eq_t rfl) (by decide) rfl ?_
    refine XS.aloadN X6.here hexec rfl (hb hbytes d57) rfl rfl ?_
    exact Steps.refl _)
  have X8 := X6.wide (L' := []) (cells' := 1) (slots' := len) (fun x hx hlt => by
    simp only [List.nil_append, copyLocs, List.mem_map, List.mem_range] at hx
    obtain ⟨i, -, rfl⟩ := hx
    exact absurd hlt (Nat.lt_irrefl _)) (Nat.le_refl _) (by omega)
  exact ⟨T6, some (.ref s.heap.size), _, _, _, X8, rfl, rfl, rfl, (fun h => by cases h), ⟨⟨rfl, B6, ba3.like (X3.warmed.alike.symm.trans X6.warmed.alike) p6.1 f6.1 f6.2.1 f6.2.2.1, f6.2.1.trans bv3, by rw [X6.warmed.alike.findClass, f6.1]; exact bf3, by rw [f6.2.2.1, bs3]; simp, fun j hj => by rw [f6.2.2.2 j, if_pos (by omega)]; rfl, kp3.put p6 (Nat.le_refl _)⟩, by rw [p6.2.2, bh3, hh0]; simp⟩, fun fs hl => c8.trans (X8.areturnOut hexec rfl hret rfl (hb hbytes d58) hl)⟩
end Cmp3
namespace CodL
def yN : MethodName := ⟨"java/lang/StringUTF16", "coderFromArrayLen", "([BI)B"⟩
abbrev yB : ByteArray := jdk_52_method_15_code
theorem d0 : decode yB 0 = .ok (.iload_n 1, 1) := by decide +kernel
theorem d1 : decode yB 1 = .ok (.aload_n 0, 1) := by decide +kernel
theorem d2 : decode yB 2 = .ok (.arraylength, 1) := by decide +kernel
theorem d3 : decode yB 3 = .ok (.isub, 1) := by decide +kernel
theorem d4 : decode yB 4 = .ok (.bipush 31, 2) := by decide +kernel
theorem d6 : decode yB 6 = .ok (.iushr, 1) := by decide +kernel
theorem d7 : decode yB 7 = .ok (.i2b, 1) := by decide +kernel
theorem d8 : decode yB 8 = .ok (.ireturn, 1) := by decide +kernel
def site : List Cond := []
def tab : Cond := tabOf yN yB 2 (some .byte) site
def P (d : Addr) (B : Cell) (args : Array Value) (s : State) : Prop := args = #[.ref d, .int (Int32.ofNat B.slots.size)] ∧ Arr .byte d B s
def E (r : Option Value) (s u : State) : Prop := XT.PureE (some (.int 0)) r s u
/-- an array as long as the number of chars: LATIN1 -/
theorem law (l : Launch) (d : Addr) (B : Cell) : Law l yN 2 2 0 0 yB 2 (some .byte) site (P d B) E [] 0 0 := by
  refine Law.of_walk (plainFor_of_name (by decide +kernel)) (by decide +kernel) (by decide +kernel) (by decide) (fun _ _ h => by rw [h.1]; rfl) (fun _ U U' hal hh h => ⟨h.1, h.2.mv hal hh⟩) (fun r U U' V V' h1 hal h2 h => XT.PureE.mv r U U' V V' h1 hal h2 h) ?_
  intro p e s m args below meth c s₁ X0 hexec hbytes hml hret hlk hnm hown hh0 W hP
  obtain ⟨rfl, hB⟩ := hP
  have hB0 := hB.mv X0.warmed.alike hh0
  have c1 : Steps p.tables e below (s₁.setTop (entryFrame m #[.ref d, .int (Int32.ofNat B.slots.size)] 2)) (s₁.setTop (mkF m 0 #[.val (.ref d), .val (.int (Int32.ofNat B.slots.size))] [])) := entry rfl
  have c2 : Steps p.tables e below (s₁.setTop (entryFrame m #[.ref d, .int (Int32.ofNat B.slots.size)] 2)) (s₁.setTop (mkF m 2 #[.val (.ref d), .val (.int (Int32.ofNat B.slots.size))] [.ref d, .int (Int32.ofNat B.slots.size)])) := c1.trans (by
    refine XS.iloadN X0.here hexec rfl (hb hbytes d0) rfl ?_
    refine XS.aloadN X0.here hexec rfl (hb hbytes d1) rfl rfl ?_
    exact Steps.refl _)
  have c3 : Steps p.tables e below (s₁.setTop (entryFrame m #[.ref d, .int (Int32.ofNat B.slots.size)] 2)) (s₁.setTop (mkF m 8 #[.val (.ref d), .val (.int (Int32.ofNat B.slots.size))] [.int (lo8 (ushr (Int32.ofNat B.slots.size - Int32.ofNat B.slots.size) 31))])) := c2.trans (by
    refine X0.alen hexec hB0 rfl rfl (hb hbytes d2) ?_
    refine XS.isub X0.here hexec rfl (hb hbytes d3) rfl ?_
    refine bipushV X0.here hexec rfl 31 (hb hbytes d4) (by decide) ?_
    refine iushr X0.here hexec rfl (hb hbytes d6) rfl ?_
    refine i2b X0.here hexec rfl (hb hbytes d7) rfl ?_
    exact Steps.refl _)
  have e0 : lo8 (ushr (Int32.ofNat B.slots.size - Int32.ofNat B.slots.size) 31) = 0 := by rw [Int32.sub_self]; decide
  rw [e0] at c3
  exact ⟨s₁, some (.int 0), _, _, _, X0, rfl, rfl, rfl, (fun h => by cases h), ⟨rfl, hh0⟩, fun fs hl => c3.trans (X0.ireturnOut hexec hret rfl (Or.inr (Or.inr (Or.inl rfl))) (hb hbytes d8) hl)⟩
end CodL
/-- the String at a is Latin-1 over a new byte[] (the heap's one new cell): the low bytes of the len chars of A from o on; every cell but a is kept -/
def Got (a : Addr) (D : Cell) (fV fC : Field) (A : Cell) (o len : Nat) (r : Option Value) (s u : State) : Prop := r = none ∧ ∃ D' V : Cell, Blank "java/lang/String" a D' u ∧ Same D D' [fV.slot, fC.slot] ∧ D'.slots[fV.slot]? = some (.ref s.heap.size) ∧ D'.slots[fC.slot]? = some (.int 0) ∧ Arr .byte s.heap.size V u ∧ V.vm = .none ∧ u.vm.findClass "[B" = some V.cls ∧ V.slots.size = len ∧ (∀ j, j < len → V.slots[j]? = some (.int (lo8 (cv A (o + j))))) ∧ (∀ (y : Addr) (c : Cell), y ≠ a → s.heap[y]? = some c → u.heap[y]? = some c) ∧ u.heap.size = s.heap.size + 1
theorem Got.mv {a : Addr} {D A : Cell} {fV fC : Field} {o len : Nat} : ∀ r (U U' V V' : State), U'.heap = U.heap → V.vm.Alike V'.vm → V'.heap = V.heap → Got a D fV fC A o len r U V → Got a D fV fC A o len r U' V' :=
  fun r U U' V V' h1 hal h2 ⟨e0, D', X, a1, a2, a3, a4, a5, a6, a7, a8, a9, a10, a11⟩ => ⟨e0, D', X, a1.mv hal h2, a2, by rw [h1]; exact a3, a4, by rw [h1]; exact a5.mv hal h2, a6, by rw [hal.findClass]; exact a7, a8, a9, by rw [h1, h2]; exact a10, by rw [h1, h2]; exact a11⟩
namespace New4
def yN : MethodName := ⟨"java/lang/String", "<init>", "([CIILjava/lang/Void;)V"⟩
abbrev yB : ByteArray := jdk_42_method_149_code
theorem d0 : decode yB 0 = .ok (.aload_n 0, 1) := by decide +kernel
theorem d1 : decode yB 1 = .ok (.invokespecial 1, 3) := by decide +kernel
theorem d4 : decode yB 4 = .ok (.iload_n 3, 1) := by decide +kernel
theorem d5 : decode yB 5 = .ok (.ifCond (.ne) 22, 3) := by decide +kernel
theorem d27 : decode yB 27 = .ok (.getstatic 38, 3) := by decide +kernel
theorem d30 : decode yB 30 = .ok (.ifCond (.eq) 28, 3) := by decide +kernel
theorem d33 : decode yB 33 = .ok (.aload_n 1, 1) := by decide +kernel
theorem d34 : decode yB 34 = .ok (.iload_n 2, 1) := by decide +kernel
theorem d35 : decode yB 35 = .ok (.iload_n 3, 1) := by decide +kernel
theorem d36 : decode yB 36 = .ok (.invokestatic 177, 3) := by decide +kernel
theorem d39 : decode yB 39 = .ok (.astore 5, 2) := by decide +kernel
theorem d41 : decode yB 41 = .ok (.aload_n 0, 1) := by decide +kernel
theorem d42 : decode yB 42 = .ok (.aload 5, 2) := by decide +kernel
theorem d44 : decode yB 44 = .ok (.iload_n 3, 1) := by decide +kernel
theorem d45 : decode yB 45 = .ok (.invokestatic 47, 3) := by decide +kernel
theorem d48 : decode yB 48 = .ok (.putfield 15, 3) := by decide +kernel
theorem d51 : decode yB 51 = .ok (.aload_n 0, 1) := by decide +kernel
theorem d52 : decode yB 52 = .ok (.aload 5, 2) := by decide +kernel
theorem d54 : decode yB 54 = .ok (.putfield 9, 3) := by decide +kernel
theorem d57 : decode yB 57 = .ok (.return_, 1) := by decide +kernel
def site : List Cond := [.fieldLink "java/lang/String" 38 "java/lang/String" "COMPACT_STRINGS" "Z", Cmp3.tab, CodL.tab, .laysFinal "java/lang/String" "java/lang/String" "value" "[B", .fieldLink "java/lang/String" 9 "java/lang/String" "value" "[B", .laysFinal "java/lang/String" "java/lang/String" "coder" "B", .fieldLink "java/lang/String" 15 "java/lang/String" "coder" "B"] ++ objW "java/lang/String" 1 ++ staticW "java/lang/String" 177 Cmp3.yN ++ staticW "java/lang/String" 47 CodL.yN
def tab : Cond := tabOf yN yB 6 none site
def P (a : Addr) (D : Cell) (fV fC : Field) (b : Addr) (A : Cell) (z : Int32) (o len : Nat) (args : Array Value) (s : State) : Prop := args = #[.ref a, .ref b, .int (Int32.ofNat o), .int (Int32.ofNat len), .null] ∧ Blank "java/lang/String" a D s ∧ Found "java/lang/String" "value" "[B" fV s ∧ Found "java/lang/String" "coder" "B" fC s ∧ Ch b A s ∧ StaticIs s "java/lang/String" "COMPACT_STRINGS" "Z" (.int z) ∧ ¬ z = 0 ∧ 0 < len ∧ o + len ≤ A.slots.size ∧ len ≤ 536870912 ∧ ∀ i, i < len → ¬ 255 < cv A (o + i)
def E (a : Addr) (D : Cell) (fV fC : Field) (A : Cell) (o len : Nat) (r : Option Value) (s u : State) : Prop := Got a D fV fC A o len r s u
/-- len > 0, no char of the range above 255: a Latin-1 String of their low bytes -/
theorem law (l : Launch) (a : Addr) (D : Cell) (fV fC : Field) (b : Addr) (A : Cell) (z : Int32) (o len : Nat) : Law l yN 5 4 2 35 yB 6 none site (P a D fV fC b A z o len) (E a D fV fC A o len) [⟨a, fC.slot⟩, ⟨a, fV.slot⟩] 1 len := by
  refine Law.of_walk (plainFor_of_name (by decide +kernel)) (by decide +kernel) (by decide +kernel) (by decide) (fun _ _ h => by rw [h.1]; rfl) (fun _ U U' hal hh h => ⟨h.1, h.2.1.mv hal hh, h.2.2.1.al hal, h.2.2.2.1.al hal, h.2.2.2.2.1.mv hal hh, h.2.2.2.2.2.1.there hal hh, h.2.2.2.2.2.2⟩) (fun r U U' V V' h1 hal h2 h => Got.mv r U U' V V' h1 hal h2 h) ?_
  intro p e s m args below meth c s₁ X0 hexec hbytes hml hret hlk hnm hown hh0 W hP
  obtain ⟨rfl, hB, f1, f2, hA, s1, hz, l0, l1, l2, hp⟩ := hP
  have a31 := hA.1.2.2.2
  have c1 : Steps p.tables e below (s₁.setTop (entryFrame m #[.ref a, .ref b, .int (Int32.ofNat o), .int (Int32.ofNat len), .null] 6)) (s₁.setTop (mkF m 0 #[.val (.ref a), .val (.ref b), .val (.int (Int32.ofNat o)), .val (.int (Int32.ofNat len)), .val .null, .unset] [])) := entry rfl
  have c2 : Steps p.tables e below (s₁.setTop (entryFrame m #[.ref a, .ref b, .int (Int32.ofNat o), .int (Int32.ofNat len), .null] 6)) (s₁.setTop (mkF m 1 #[.val (.ref a), .val (.ref b), .val (.int (Int32.ofNat o)), .val (.int (Int32.ofNat len)), .val .null, .unset] [.ref a])) := c1.trans (by
    refine XS.aloadN X0.here hexec rfl (hb hbytes d0) rfl rfl ?_
    exact Steps.refl _)
  obtain ⟨T3, X3, q3, st3⟩ := X0.oinit hexec hown (wks W (objW "java/lang/String" 1)) (g := (mkF m 1 #[.val (.ref a), .val (.ref b), .val (.int (Int32.ofNat o)), .val (.int (Int32.ofNat len)), .val .null, .unset] [.ref a])) rfl (by rw [hml]; rfl) (rest := []) rfl (hb hbytes d1) (W := 0) (by show 2 * 0 + 0 ≤ _; decide) (Nat.le_of_ble_eq_true rfl) (Nat.le_of_ble_eq_true rfl)
  have hh3 := q3.trans hh0
  have c4 : Steps p.tables e below (s₁.setTop (entryFrame m #[.ref a, .ref b, .int (Int32.ofNat o), .int (Int32.ofNat len), .null] 6)) (T3.setTop (mkF m 27 #[.val (.ref a), .val (.ref b), .val (.int (Int32.ofNat o)), .val (.int (Int32.ofNat len)), .val .null, .unset] [])) := (c2.trans (st3 _ (Steps.refl _))).trans (by
    refine XS.iloadN X3.here hexec rfl (hb hbytes d4) rfl ?_
    refine XS.ifYes X3.here hexec rfl (pc0 := 5) rfl (hb hbytes d5) rfl (i0_ne_t (nz32 (by omega) l0)) (by decide) rfl ?_
    exact Steps.refl _)
  obtain ⟨T5, X5, q5, st5⟩ := X3.sget hexec hown (wk W (.fieldLink "java/lang/String" 38 "java/lang/String" "COMPACT_STRINGS" "Z")) s1 (fun _ _ h => by rw [hh3]; exact h) (g := (mkF m 27 #[.val (.ref a), .val (.ref b), .val (.int (Int32.ofNat o)), .val (.int (Int32.ofNat len)), .val .null, .unset] [])) rfl (hb hbytes d27)
  have hh5 := q5.trans hh3
  have c6 : Steps p.tables e below (s₁.setTop (entryFrame m #[.ref a, .ref b, .int (Int32.ofNat o), .int (Int32.ofNat len), .null] 6)) (T5.setTop (mkF m 30 #[.val (.ref a), .val (.ref b), .val (.int (Int32.ofNat o)), .val (.int (Int32.ofNat len)), .val .null, .unset] [.int z])) := c4.trans (st5 _ (Steps.refl _))
  have c7 : Steps p.tables e below (s₁.setTop (entryFrame m #[.ref a, .ref b, .int (Int32.ofNat o), .int (Int32.ofNat len), .null] 6)) (T5.setTop (mkF m 36 #[.val (.ref a), .val (.ref b), .val (.int (Int32.ofNat o)), .val (.int (Int32.ofNat len)), .val .null, .unset] [.int (Int32.ofNat len), .int (Int32.ofNat o), .ref b])) := c6.trans (by
    refine XS.ifNo X5.here hexec rfl (hb hbytes d30) rfl (i0_eq_f hz) ?_
    refine XS.aloadN X5.here hexec rfl (hb hbytes d33) rfl rfl ?_
    refine XS.iloadN X5.here hexec rfl (hb hbytes d34) rfl ?_
    refine XS.iloadN X5.here hexec rfl (hb hbytes d35) rfl ?_
    exact Steps.refl _)
  obtain ⟨v8, T8, X8, E8, g8⟩ := X5.callS hexec (Cmp3.law l b A o len) hown (wks W (staticW "java/lang/String" 177 Cmp3.yN)) (wk W Cmp3.tab) (W := 0) (Nat.le_of_ble_eq_true rfl) (Nat.le_of_ble_eq_true rfl) (Nat.le_refl _) (by show 0 + len ≤ len; omega) (g := (mkF m 36 #[.val (.ref a), .val (.ref b), .val (.int (Int32.ofNat o)), .val (.int (Int32.ofNat len)), .val .null, .unset] [.int (Int32.ofNat len), .int (Int32.ofNat o), .ref b])) rfl (by rw [hml]; rfl) c7 (argsL := [.ref b, .int (Int32.ofNat o), .int (Int32.ofNat len)]) (rest := []) rfl rfl (by show 2 * 0 + 0 ≤ _; decide) (hb hbytes d36) (⟨rfl, hA.mv X5.warmed.alike hh5, l1, l2, hp⟩)
  obtain ⟨e8, z8⟩ := E8
  obtain ⟨rfl, N, n1, n2, n3, n4, n5, n6⟩ := NewArr.mv _ T5 s _ _ hh5.symm (Vm.Alike.refl _) rfl e8
  rw [hh5] at z8
  have hB1 := hB.keep X8.warmed.alike (n6 _ _ hB.1)
  have hne : s.heap.size ≠ a := (Nat.ne_of_lt (Array.getElem?_eq_some_iff.mp hB.1).1).symm
  have c9 : Steps p.tables e below (s₁.setTop (entryFrame m #[.ref a, .ref b, .int (Int32.ofNat o), .int (Int32.ofNat len), .null] 6)) (T8.setTop (mkF m 39 #[.val (.ref a), .val (.ref b), .val (.int (Int32.ofNat o)), .val (.int (Int32.ofNat len)), .val .null, .unset] [.ref s.heap.size])) := g8
  have c10 : Steps p.tables e below (s₁.setTop (entryFrame m #[.ref a, .ref b, .int (Int32.ofNat o), .int (Int32.ofNat len), .null] 6)) (T8.setTop (mkF m 45 #[.val (.ref a), .val (.ref b), .val (.int (Int32.ofNat o)), .val (.int (Int32.ofNat len)), .val .null, .val (.ref s.heap.size)] [.int (Int32.ofNat N.slots.size), .ref s.heap.size, .ref a])) := by
    have hc : Steps p.tables e below (s₁.setTop (entryFrame m #[.ref a, .ref b, .int (Int32.ofNat o), .int (Int32.ofNat len), .null] 6)) (T8.setTop (mkF m 45 #[.val (.ref a), .val (.ref b), .val (.int (Int32.ofNat o)), .val (.int (Int32.ofNat len)), .val .null, .val (.ref s.heap.size)] [.int (Int32.ofNat len), .ref s.heap.size, .ref a])) := c9.trans (by
      refine XS.astore X8.here hexec rfl (hb hbytes d39) rfl rfl rfl ?_
      refine XS.aloadN X8.here hexec rfl (hb hbytes d41) rfl rfl ?_
      refine XS.aload X8.here hexec rfl (hb hbytes d42) rfl rfl ?_
      refine XS.iloadN X8.here hexec rfl (hb hbytes d44) rfl ?_
      exact Steps.refl _)
    rw [n4]; exact hc
  obtain ⟨v11, T11, X11, E11, g11⟩ := X8.callS hexec (CodL.law l s.heap.size N) hown (wks W (staticW "java/lang/String" 47 CodL.yN)) (wk W CodL.tab) (W := 1) (Nat.le_of_ble_eq_true rfl) (Nat.le_of_ble_eq_true rfl) (Nat.le_refl _) (by show 0 + len + 0 ≤ len; omega) (g := (mkF m 45 #[.val (.ref a), .val (.ref b), .val (.int (Int32.ofNat o)), .val (.int (Int32.ofNat len)), .val .null, .val (.ref s.heap.size)] [.int (Int32.ofNat N.slots.size), .ref s.heap.size, .ref a])) rfl (by rw [hml]; rfl) c10 (argsL := [.ref s.heap.size, .int (Int32.ofNat N.slots.size)]) (rest := [.ref a]) rfl rfl (by show 2 * 0 + (1 + 0) ≤ _; decide) (hb hbytes d45) (⟨rfl, n1⟩)
  obtain ⟨rfl, q11⟩ := E11
  have hB11 := hB1.mv (X8.warmed.alike.symm.trans X11.warmed.alike) q11
  have c12 : Steps p.tables e below (s₁.setTop (entryFrame m #[.ref a, .ref b, .int (Int32.ofNat o), .int (Int32.ofNat len), .null] 6)) (T11.setTop (mkF m 48 #[.val (.ref a), .val (.ref b), .val (.int (Int32.ofNat o)), .val (.int (Int32.ofNat len)), .val .null, .val (.ref s.heap.size)] [.int 0, .ref a])) := g11
  obtain ⟨T13, X13, p13, bl13, sl13, st13⟩ := X11.finit hexec hown (wk W (.fieldLink "java/lang/String" 15 "java/lang/String" "coder" "B")) (Or.inr ⟨_, (wk W (.laysFinal "java/lang/String" "java/lang/String" "coder" "B"))⟩) (Or.inl ⟨rfl, hnm⟩) f2 (Or.inl rfl) hB11 (t := .byte) (by decide +kernel) rfl (g := (mkF m 48 #[.val (.ref a), .val (.ref b), .val (.int (Int32.ofNat o)), .val (.int (Int32.ofNat len)), .val .null, .val (.ref s.heap.size)] [.int 0, .ref a])) rfl (rest := []) rfl (hb hbytes d48)
  have c14 : Steps p.tables e below (s₁.setTop (entryFrame m #[.ref a, .ref b, .int (Int32.ofNat o), .int (Int32.ofNat len), .null] 6)) (T13.setTop (mkF m 54 #[.val (.ref a), .val (.ref b), .val (.int (Int32.ofNat o)), .val (.int (Int32.ofNat len)), .val .null, .val (.ref s.heap.size)] [.ref s.heap.size, .ref a])) := (c12.trans (st13 _ (Steps.refl _))).trans (by
    refine XS.aloadN X13.here hexec rfl (hb hbytes d51) rfl rfl ?_
    refine XS.aload X13.here hexec rfl (hb hbytes d52) rfl rfl ?_
    exact Steps.refl _)
  obtain ⟨T15, X15, p15, bl15, sl15, st15⟩ := X13.finit hexec hown (wk W (.fieldLink "java/lang/String" 9 "java/lang/String" "value" "[B")) (Or.inr ⟨_, (wk W (.laysFinal "java/lang/String" "java/lang/String" "value" "[B"))⟩) (Or.inl ⟨rfl, hnm⟩) f1 (Or.inl rfl) bl13 (t := (.array .byte)) (by decide +kernel) rfl (g := (mkF m 54 #[.val (.ref a), .val (.ref b), .val (.int (Int32.ofNat o)), .val (.int (Int32.ofNat len)), .val .null, .val (.ref s.heap.size)] [.ref s.heap.size, .ref a])) rfl (rest := []) rfl (hb hbytes d54)
  have c16 : Steps p.tables e below (s₁.setTop (entryFrame m #[.ref a, .ref b, .int (Int32.ofNat o), .int (Int32.ofNat len), .null] 6)) (T15.setTop (mkF m 57 #[.val (.ref a), .val (.ref b), .val (.int (Int32.ofNat o)), .val (.int (Int32.ofNat len)), .val .null, .val (.ref s.heap.size)] [])) := c14.trans (st15 _ (Steps.refl _))
  have ap := apart (Or.inr ⟨_, (wk W (.laysFinal "java/lang/String" "java/lang/String" "value" "[B"))⟩) (Or.inr ⟨_, (wk W (.laysFinal "java/lang/String" "java/lang/String" "coder" "B"))⟩) f1 f2 (t₁ := .array .byte) (t₂ := .byte) (by decide +kernel) (by decide +kernel) (by decide)
  have al := X8.warmed.alike.symm.trans X15.warmed.alike
  have n7 : T11.heap[s.heap.size]? = some N := by rw [q11]; exact n1.1
  exact ⟨T15, none, _, _, _, X15, by simp, rfl, by omega, (fun _ => rfl), ⟨rfl, _, N, bl15, ((Same.refl D _).set _ (by simp)).set _ (by simp), sl15, (Cell.slots_setSlot_ne _ ap).trans sl13, n1.keep al (p15.other hne (p13.other hne n7)), n2, by rw [al.findClass]; exact n3, n4, n5, fun y c h1 h2 => p15.other h1 (p13.other h1 (by rw [q11]; exact n6 y c h2)), by rw [p15.2.2, p13.2.2, q11]; exact z8⟩, fun fs hl => c16.trans (X15.returnOut hexec hret (hb hbytes d57) hl)⟩
end New4
namespace New1
def yN : MethodName := ⟨"java/lang/String", "<init>", "([C)V"⟩
abbrev yB : ByteArray := jdk_42_method_3_code
theorem d0 : decode yB 0 = .ok (.aload_n 0, 1) := by decide +kernel
theorem d1 : decode yB 1 = .ok (.aload_n 1, 1) := by decide +kernel
theorem d2 : decode yB 2 = .ok (.iconst 0, 1) := by decide +kernel
theorem d3 : decode yB 3 = .ok (.aload_n 1, 1) := by decide +kernel
theorem d4 : decode yB 4 = .ok (.arraylength, 1) := by decide +kernel
theorem d5 : decode yB 5 = .ok (.aconst_null, 1) := by decide +kernel
theorem d6 : decode yB 6 = .ok (.invokespecial 27, 3) := by decide +kernel
theorem d9 : decode yB 9 = .ok (.return_, 1) := by decide +kernel
def site : List Cond := [New4.tab] ++ initW "java/lang/String" 27 New4.yN
def tab : Cond := tabOf yN yB 2 none site
def P (a : Addr) (D : Cell) (fV fC : Field) (b : Addr) (A : Cell) (z : Int32) (args : Array Value) (s : State) : Prop := args = #[.ref a, .ref b] ∧ Blank "java/lang/String" a D s ∧ Found "java/lang/String" "value" "[B" fV s ∧ Found "java/lang/String" "coder" "B" fC s ∧ Ch b A s ∧ StaticIs s "java/lang/String" "COMPACT_STRINGS" "Z" (.int z) ∧ ¬ z = 0 ∧ 0 < A.slots.size ∧ A.slots.size ≤ 536870912 ∧ ∀ i, i < A.slots.size → ¬ 255 < cv A i
def E (a : Addr) (D : Cell) (fV fC : Field) (A : Cell) (r : Option Value) (s u : State) : Prop := Got a D fV fC A 0 A.slots.size r s u
/-- new String(chars), not empty, no char above 255: a Latin-1 String of their low bytes -/
theorem law (l : Launch) (a : Addr) (D : Cell) (fV fC : Field) (b : Addr) (A : Cell) (z : Int32) : Law l yN 2 1 3 52 yB 2 none site (P a D fV fC b A z) (E a D fV fC A) [⟨a, fC.slot⟩, ⟨a, fV.slot⟩] 1 A.slots.size := by
  refine Law.of_walk (plainFor_of_name (by decide +kernel)) (by decide +kernel) (by decide +kernel) (by decide) (fun _ _ h => by rw [h.1]; rfl) (fun _ U U' hal hh h => ⟨h.1, h.2.1.mv hal hh, h.2.2.1.al hal, h.2.2.2.1.al hal, h.2.2.2.2.1.mv hal hh, h.2.2.2.2.2.1.there hal hh, h.2.2.2.2.2.2⟩) (fun r U U' V V' h1 hal h2 h => Got.mv r U U' V V' h1 hal h2 h) ?_
  intro p e s m args below meth c s₁ X0 hexec hbytes hml hret hlk hnm hown hh0 W hP
  obtain ⟨rfl, hB, f1, f2, hA, s1, hz, l0, l2, hp⟩ := hP
  have c1 : Steps p.tables e below (s₁.setTop (entryFrame m #[.ref a, .ref b] 2)) (s₁.setTop (mkF m 0 #[.val (.ref a), .val (.ref b)] [])) := entry rfl
  have c2 : Steps p.tables e below (s₁.setTop (entryFrame m #[.ref a, .ref b] 2)) (s₁.setTop (mkF m 6 #[.val (.ref a), .val (.ref b)] [.null, .int (Int32.ofNat A.slots.size), .int 0, .ref b, .ref a])) := c1.trans (by
    refine XS.aloadN X0.here hexec rfl (hb hbytes d0) rfl rfl ?_
    refine XS.aloadN X0.here hexec rfl (hb hbytes d1) rfl rfl ?_
    refine iconstV X0.here hexec rfl 0 (hb hbytes d2) (by decide) ?_
    refine XS.aloadN X0.here hexec rfl (hb hbytes d3) rfl rfl ?_
    refine X0.alen hexec (hA.1.mv X0.warmed.alike hh0) rfl rfl (hb hbytes d4) ?_
    refine XS.aconstNull X0.here hexec rfl (hb hbytes d5) ?_
    exact Steps.refl _)
  obtain ⟨v3, T3, X3, E3, g3⟩ := X0.callN hexec (New4.law l a D fV fC b A z 0 A.slots.size) rfl hown (wks W (initW "java/lang/String" 27 New4.yN)) (W New4.tab (by simp only [site, List.mem_cons, List.mem_append, true_or, or_true])) (W := 0) (Nat.le_of_ble_eq_true rfl) (Nat.le_of_ble_eq_true rfl) (Nat.le_refl _) (by show 0 + A.slots.size ≤ A.slots.size; omega) (g := (mkF m 6 #[.val (.ref a), .val (.ref b)] [.null, .int (Int32.ofNat A.slots.size), .int (Int32.ofNat 0), .ref b, .ref a])) rfl (by rw [hml]; rfl) c2 (argsL := [.ref b, .int (Int32.ofNat 0), .int (Int32.ofNat A.slots.size), .null]) (rest := []) rfl rfl (by show 2 * 0 + 0 ≤ _; decide) (hb hbytes d6) (⟨rfl, hB.mv X0.warmed.alike hh0, f1.al X0.warmed.alike, f2.al X0.warmed.alike, hA.mv X0.warmed.alike hh0, s1.there X0.warmed.alike hh0, hz, l0, by omega, l2, fun i hi => by rw [Nat.zero_add]; exact hp i hi⟩)
  have e0 := Got.mv _ s₁ s _ _ hh0.symm (Vm.Alike.refl _) rfl E3
  obtain rfl := e0.1
  have c4 : Steps p.tables e below (s₁.setTop (entryFrame m #[.ref a, .ref b] 2)) (T3.setTop (mkF m 9 #[.val (.ref a), .val (.ref b)] [])) := g3
  exact ⟨T3, none, _, _, _, X3, by simp, rfl, by omega, (fun _ => rfl), e0, fun fs hl => c4.trans (X3.returnOut hexec hret (hb hbytes d9) hl)⟩
theorem pays {l : Launch} {R : Room} {p : Program} {e : Env} {below : List Frame} {s : State} {sargs : Array Value} {len W : Nat} (a : Addr) (D : Cell) (fV fC : Field) (b : Addr) (A : Cell) (z : Int32) (htab : tab.before sargs s = true) (hfr : 4 ≤ R.frames) (hlo : W + 65 ≤ R.locals) :
    Back l R p e below s sargs yN len W (fun A₁ a₁ => A₁.cells + 1 ≤ R.cells ∧ A₁.slots + A.slots.size ≤ R.slots ∧ P a D fV fC b A z a₁ A₁.U) (fun A₁ _ v₁ B₁ => E a D fV fC A v₁ A₁.U B₁.U ∧ B₁.locs = A₁.locs ++ [⟨a, fC.slot⟩, ⟨a, fV.slot⟩] ∧ B₁.cells = A₁.cells + 1 ∧ B₁.slots = A₁.slots + A.slots.size) :=
  (law l a D fV fC b A z).pays htab hfr (by omega)
end New1
/-- the byte, read back as charAt reads it, is the char -/
theorem lo8_mask {x : Int32} (h0 : ¬ x < 0) (h1 : ¬ 255 < x) : lo8 x &&& 255 = x := by
  have t : ∀ k : Fin 256, lo8 (Int32.ofNat k.val) &&& 255 = Int32.ofNat k.val := by decide +kernel
  rw [Int32.lt_iff_toInt_lt] at h0 h1
  have e0 : (0 : Int32).toInt = 0 := rfl
  have e1 : (255 : Int32).toInt = 255 := rfl
  obtain ⟨k, hk⟩ : ∃ k : Nat, x.toInt = k := ⟨x.toInt.toNat, by omega⟩
  have hx : x = Int32.ofNat k := Int32.toInt_inj.mp (by rw [hk, Int32.toInt_ofNat_small (by omega)])
  rw [hx]
  exact t ⟨k, by omega⟩
end StrChars
namespace StrChars.Road
open Jvm Sem ClassFile Op Lib Jvm.Stand Jvm.Free Jvm.Free.XT
open Jvm.Lib.Cold (StaticIs)
abbrev ST : String := "java/lang/String"
/-- every table word that New1's law asks, flat -/
abbrev words : List Jvm.Cond := [.code New1.yN New1.yB 2 none, .initialized ST, .methodLink ST 27 New4.yN, .instanceMethod New4.yN,
  .code New4.yN New4.yB 6 none, .fieldLink ST 38 ST "COMPACT_STRINGS" "Z", .laysFinal ST ST "value" "[B", .fieldLink ST 9 ST "value" "[B", .laysFinal ST ST "coder" "B", .fieldLink ST 15 ST "coder" "B",
  .methodLink ST 1 Lib.objectInit, .instanceMethod Lib.objectInit, .code Lib.objectInit ⟨#[0xb1]⟩ 1 none, .methodLink ST 177 Cmp3.yN, .static Cmp3.yN, .methodLink ST 47 CodL.yN, .static CodL.yN,
  .code Cmp3.yN Cmp3.yB 6 (some (.array .byte)), .initialized U16, .arrayClass .byte, .methodLink U16 115 Cmp5.yN, .static Cmp5.yN, .code Cmp5.yN Cmp5.yB 7 (some .int), .code CodL.yN CodL.yB 2 (some .byte)]
theorem tab_of {a : Array Value} {s : State} (h : ∀ w ∈ words, w.before a s = true) : New1.tab.before a s = true := by
  have h5 : Cmp5.tab.before a s = true := unparts (wk h (.code Cmp5.yN Cmp5.yB 7 (some .int))) (wks h (.initialized Cmp5.yN.cls :: Cmp5.site))
  have hc : CodL.tab.before a s = true := unparts (wk h (.code CodL.yN CodL.yB 2 (some .byte))) (wks h (.initialized CodL.yN.cls :: CodL.site))
  have q5 : ∀ w ∈ Cmp5.tab :: words, w.before a s = true := fun w hw => (List.mem_cons.mp hw).elim (fun e => e ▸ h5) (h w)
  have h3 : Cmp3.tab.before a s = true := unparts (wk q5 (.code Cmp3.yN Cmp3.yB 6 (some (.array .byte)))) (wks q5 (.initialized Cmp3.yN.cls :: Cmp3.site))
  have q3 : ∀ w ∈ Cmp3.tab :: CodL.tab :: words, w.before a s = true := fun w hw => (List.mem_cons.mp hw).elim (fun e => e ▸ h3) fun hw => (List.mem_cons.mp hw).elim (fun e => e ▸ hc) (h w)
  have h4 : New4.tab.before a s = true := unparts (wk q3 (.code New4.yN New4.yB 6 none)) (wks q3 (.initialized New4.yN.cls :: New4.site))
  have q4 : ∀ w ∈ New4.tab :: words, w.before a s = true := fun w hw => (List.mem_cons.mp hw).elim (fun e => e ▸ h4) (h w)
  exact unparts (wk q4 (.code New1.yN New1.yB 2 none)) (wks q4 (.initialized New1.yN.cls :: New1.site))
/-- the words ride from the start Z to the walk's own state -/
theorem moved {Z s : State} {a0 args : Array Value} (hZ : Z.Warmed39 s.vm) (hw : ∀ d ∈ words, d.before a0 Z = true) : ∀ d ∈ words, d.before args s = true := fun d hd => by
  have q := hw d hd
  have t : ∀ d ∈ words, d = .arrayClass .byte ∨ (d.onTables && d.keepsFace) = true := by decide +kernel
  rcases t d hd with rfl | t
  · exact RoadKit.mvA hZ q
  · exact RoadKit.mv hZ q t
/-- WHAT COMES BACK, over the tables of the start Z: h the heap at the call, h' behind it -/
def Q (Z : State) (x : Addr) (A : Cell) (h : Heap) (v : Option Value) (h' : Heap) (L : List Loc) : Prop := v = none ∧ (∀ y ∈ L, y.base = x) ∧ RoadKit.Keep h h' [x] ∧ h'.size = h.size + 1 ∧ RoadKit.Exa Z h' x ST ∧ RoadKit.Fld Z h' x ST "value" "[B" (.ref h.size) ∧ RoadKit.Fld Z h' x ST "coder" "B" (.int 0) ∧
  (∃ V : Cell, RoadKit.Arr Z h' h.size V .byte ∧ V.vm = .none ∧ Z.vm.findClass "[B" = some V.cls ∧ V.slots.size = A.slots.size ∧ ∀ j, j < A.slots.size → V.slots[j]? = some (.int (lo8 (cv A j)))) ∧
  ∀ (O n d : String) (w : Value), RoadKit.Fld Z h x O n d w → RoadKit.slotOf Z O n d ≠ RoadKit.slotOf Z ST "value" "[B" → RoadKit.slotOf Z O n d ≠ RoadKit.slotOf Z ST "coder" "B" → RoadKit.Fld Z h' x O n d w
/-- **new String(chars) AT A CALL, IN THE ROAD'S FORM**: for specialBack behind newO: x the fresh String, b the char[] with the cell A -/
theorem back {p : Program} {l : Launch} {e : Env} {R : Room} {s : State} {args : Array Value} {below : List Frame} {len W : Nat} {Z : State} {a0 : Array Value} {h : Heap} (hZ : Z.Warmed39 s.vm) (hw : ∀ d ∈ words, d.before a0 Z = true) {kI : Nat} (wi : (Jvm.Cond.instantiable ST kI).before a0 Z = true)
    {x b : Addr} {A : Cell} {z : Int32} {v0 c0 : Value} (E : RoadKit.Exa Z h x ST) (V : RoadKit.Fld Z h x ST "value" "[B" v0) (C : RoadKit.Fld Z h x ST "coder" "B" c0) (K : RoadKit.Arr Z h b A .char) (hty : Typed .char A) (S : RoadKit.Sta Z h ST "COMPACT_STRINGS" "Z" (.int z)) (hz : ¬ z = 0)
    (l0 : 0 < A.slots.size) (l2 : A.slots.size ≤ 536870912) (hp : ∀ i, i < A.slots.size → ¬ 255 < cv A i) (hfr : 4 ≤ R.frames) (hlo : W + 65 ≤ R.locals) :
    Back l R p e below s args New1.yN len W (fun P a => a = #[.ref x, .ref b] ∧ P.U.heap = h ∧ P.cells + 1 ≤ R.cells ∧ P.slots + A.slots.size ≤ R.slots)
      (fun P _ v B => ∃ L, Q Z x A h v B.U.heap L ∧ B.locs = P.locs ++ L ∧ B.cells = P.cells + 1 ∧ B.slots = P.slots + A.slots.size) := by
  intro m meth c P g ig mk a X hg hsize hdg hW hn hp'
  obtain ⟨rfl, rfl, r1, r2⟩ := hp'
  have al : Z.vm.Alike P.U.vm := hZ.alike.trans X.warmed.alike
  obtain ⟨D, cfV, kV, iV, fV, hD, gV, stV, knV, obV, asV, slV⟩ := id V
  obtain ⟨D', cfC, kC, iC, fC, hD', gC, stC, -, -, asC, slC⟩ := id C
  cases hD.symm.trans hD'
  obtain ⟨D2, kD, e1, e2, e3, e4, e5⟩ := id E
  cases hD.symm.trans e1
  obtain ⟨c2, k2, i1, i2, i3, -⟩ := Cond.instantiable_spec wi
  cases e2.symm.trans i1
  cases e3.symm.trans i2
  obtain ⟨kU, u1, u2⟩ := al.2.2 _ _ e3
  have hB : Blank ST x D P.U := ⟨hD, ⟨knV, fun q hq => by rw [hq] at obV; cases obV⟩, by rw [al.findClass]; exact e2, kU, u1, by rw [u2]; exact i3, by rw [u2]; exact e5 i3⟩
  have F1 : Found ST "value" "[B" fV P.U := ⟨SBG.found_only al ⟨cfV, kV, iV, gV⟩, stV⟩
  have F2 : Found ST "coder" "B" fC P.U := ⟨SBG.found_only al ⟨cfC, kC, iC, gC⟩, stC⟩
  have hA : Ch b A P.U := ⟨⟨K.1, State.isArrayOf_alike al K.2.1, K.2.2, by omega⟩, hty⟩
  have hS : StaticIs P.U ST "COMPACT_STRINGS" "Z" (.int z) := by
    obtain ⟨cfS, iS, kS, fS, st, cS, t1, t2, t3, t4, t5, t6, t7⟩ := S
    exact StaticIs.there (s := { Z with heap := P.U.heap }) ⟨cfS, iS, kS, fS, st, cS, t1, t2, t3, t4, t5, (fun q => by rw [q] at t6; cases t6), t7⟩ al rfl
  obtain ⟨v, B, X', ⟨⟨hv, E', V', q1, q2, q3, q4, q5, q6, q7, q8, q9, q10, q11⟩, hl, hc, hs⟩, st⟩ := New1.pays x D fV fC b A z (tab_of (moved hZ hw)) hfr hlo m meth c P g ig mk _ X hg hsize hdg hW hn ⟨r1, r2, rfl, hB, F1, F2, hA, hS, hz, l0, l2, hp⟩
  have al' : Z.vm.Alike B.U.vm := hZ.alike.trans X'.warmed.alike
  have hsz : E'.slots.size = D.slots.size := by
    obtain ⟨-, -, -, kB, w1, w2, w3⟩ := q1
    obtain ⟨kB', y1, y2⟩ := al'.2.2 _ _ e3
    rw [q2.2.1] at w1
    cases w1.symm.trans y1
    rw [w3, e5 i3, y2]
  refine ⟨v, B, X', ⟨_, ⟨hv, ?_, ⟨by omega, fun y cy hy hn' => q10 y cy (by simpa using hn') hy, fun y cy hy => ?_⟩, q11, ⟨E', _, q1.1, by rw [q2.2.1]; exact e2, by rw [q2.2.1]; exact e3, by rw [q2.1]; exact obV, fun _ => by rw [hsz]; exact e5 i3⟩,
    ⟨E', cfV, kV, iV, fV, q1.1, gV, stV, by rw [q2.1]; exact knV, by rw [q2.1]; exact obV, by rw [q2.2.1]; exact asV, q3⟩, ⟨E', cfC, kC, iC, fC, q1.1, gC, stC, by rw [q2.1]; exact knV, by rw [q2.1]; exact obV, by rw [q2.2.1]; exact asC, q4⟩,
    ⟨V', ⟨q5.1, State.isArrayOf_alike al'.symm q5.2.1, q5.2.2.1⟩, q6, by rw [← al'.findClass]; exact q7, q8, fun j hj => by have := q9 j hj; rwa [Nat.zero_add] at this⟩, fun O n d w F n1 n2 => ?_⟩, hl, hc, hs⟩, st⟩
  · intro y hy
    simp only [List.mem_cons, List.not_mem_nil, or_false] at hy
    rcases hy with rfl | rfl <;> rfl
  · by_cases q : y = x
    · subst q
      cases hD.symm.trans hy
      exact ⟨E', q1.1, q2.2.1, q2.1, hsz⟩
    · exact ⟨cy, q10 y cy q hy, rfl, rfl, rfl⟩
  · obtain ⟨D3, cf, k, i, f, g1, g2, g3, g4, g5, g6, g7⟩ := F
    cases hD.symm.trans g1
    simp only [RoadKit.slotOf, g2, gV, gC, Option.map_some, Option.getD_some] at n1 n2
    exact ⟨E', cf, k, i, f, q1.1, g2, g3, by rw [q2.1]; exact g4, by rw [q2.1]; exact g5, by rw [q2.2.1]; exact g6, by rw [q2.2.2 f.slot (by simp [n1, n2])]; exact g7⟩
end StrChars.Road
namespace StrChars.Road
open Jvm Sem ClassFile Op Lib Jvm.Stand Jvm.Free Jvm.Free.XT
/-- WHAT COMES BACK, the byte[] as a list of values -/
def QA (Z : State) (x : Addr) (zn : Int32) (cs : List Int32) (h : Heap) (v : Option Value) (h' : Heap) (L : List Loc) : Prop := v = none ∧ (∀ y ∈ L, y.base = x) ∧ RoadKit.Keep h h' [x] ∧ h'.size = h.size + 1 ∧ RoadKit.Exa Z h' x ST ∧ RoadKit.Fld Z h' x ST "value" "[B" (.ref h.size) ∧ RoadKit.Fld Z h' x ST "coder" "B" (.int 0) ∧
  (∃ kb, Z.vm.findClass "[B" = some kb ∧ RoadKit.Arv Z h' h.size kb .byte zn (cs.map fun c => .int (lo8 c)) (.int 0)) ∧
  ∀ (O n d : String) (w : Value), RoadKit.Fld Z h x O n d w → RoadKit.slotOf Z O n d ≠ RoadKit.slotOf Z ST "value" "[B" → RoadKit.slotOf Z O n d ≠ RoadKit.slotOf Z ST "coder" "B" → RoadKit.Fld Z h' x O n d w
/-- **new String(chars) AT A CALL, THE ARRAYS AS LISTS**: the char[] at b holds cs, not empty, no char above 255 -/
theorem backArv {p : Program} {l : Launch} {e : Env} {R : Room} {s : State} {args : Array Value} {below : List Frame} {len W : Nat} {Z : State} {a0 : Array Value} {h : Heap} (hZ : Z.Warmed39 s.vm) (hw : ∀ d ∈ words, d.before a0 Z = true) {kI : Nat} (wi : (Jvm.Cond.instantiable ST kI).before a0 Z = true)
    {x b : Addr} {k : ClassId} {zn z : Int32} {cs : List Int32} {dv v0 c0 : Value} (E : RoadKit.Exa Z h x ST) (V : RoadKit.Fld Z h x ST "value" "[B" v0) (C : RoadKit.Fld Z h x ST "coder" "B" c0) (K : RoadKit.Arv Z h b k .char zn (cs.map Value.int) dv) (S : RoadKit.Sta Z h ST "COMPACT_STRINGS" "Z" (.int z)) (hz : ¬ z = 0)
    (hlen : zn.toNatClampNeg = cs.length) (h0 : 0 < cs.length) (hbig : cs.length ≤ 536870912) (hall : ∀ c ∈ cs, ¬ 255 < c) (hfr : 4 ≤ R.frames) (hlo : W + 65 ≤ R.locals) :
    Back l R p e below s args New1.yN len W (fun P a => a = #[.ref x, .ref b] ∧ P.U.heap = h ∧ P.cells + 1 ≤ R.cells ∧ P.slots + cs.length ≤ R.slots)
      (fun P _ v B => ∃ L, QA Z x zn cs h v B.U.heap L ∧ B.locs = P.locs ++ L ∧ B.cells = P.cells + 1 ∧ B.slots = P.slots + cs.length) := by
  obtain ⟨A, K1, K2, K3, K4, K5, K6⟩ := K
  have e : A.slots.size = cs.length := K3.trans hlen
  have hat : ∀ (i : Nat) (hi : i < cs.length), A.slots[i]? = some (.int cs[i]) := fun i hi => by rw [K5 i (by omega)]; simp [List.getD_eq_getElem?_getD, hi]
  have hcv : ∀ (i : Nat) (hi : i < cs.length), cv A i = cs[i] := fun i hi => by unfold cv; rw [hat i hi]
  have hty : Typed .char A := fun i v hv => by
    have hi : i < A.slots.size := (Array.getElem?_eq_some_iff.mp hv).1
    have q := K5 i hi
    rw [hv] at q
    rw [Option.some.inj q]
    exact K6 i hi
  refine Back.mono (back hZ hw wi E V C K1 hty S hz (by omega) (by omega) (fun i hi => by rw [hcv i (by omega)]; exact hall _ (List.getElem_mem _)) hfr hlo) (fun P a hp => ⟨hp.1, hp.2.1, hp.2.2.1, by rw [e]; exact hp.2.2.2⟩) (fun P a v B hp hq => ?_)
  obtain ⟨L, ⟨q1, q2, q3, q4, q5, q6, q7, ⟨V', v1, v2, v3, v4, v5⟩, q9⟩, hl, hc, hs⟩ := hq
  refine ⟨L, ⟨q1, q2, q3, q4, q5, q6, q7, ⟨V'.cls, v3, V', v1, rfl, by rw [v4, e, hlen], K4, fun i hi => ?_, fun i hi => ?_⟩, q9⟩, hl, hc, by rw [hs, e]⟩
  · have hi' : i < cs.length := by omega
    rw [v5 i (by omega), hcv i hi']; simp [List.getD_eq_getElem?_getD, hi']
  · have hi' : i < cs.length := by omega
    simp only [List.getD_eq_getElem?_getD, List.getElem?_map, List.getElem?_eq_getElem hi', Option.map_some, Option.getD_some]
    exact fits_lo8 _
end StrChars.Road
namespace StrChars.Road
open Jvm Sem ClassFile Op Lib Jvm.Stand Jvm.Free Jvm.Free.XT
/-- WHAT COMES BACK, in the writer's own shape -/
def QV (Z : State) (x : Addr) (N : Int32) (bs : List Int32) (h : Heap) (n0 : Nat) (v : Option Value) (h' : Heap) (L : List Loc) : Prop := v = none ∧ RoadKit.Fr n0 L ∧ RoadKit.Keep h h' [x] ∧ RoadKit.Exa Z h' x ST ∧ RoadKit.Fld Z h' x ST "coder" "B" (.int 0) ∧
  ∃ (t : Addr) (kb : ClassId), n0 ≤ t ∧ h.size ≤ t ∧ ¬ t = x ∧ RoadKit.Fld Z h' x ST "value" "[B" (.ref t) ∧ RoadKit.Arv Z h' t kb .byte N (bs.map Value.int) (.int 0)
/-- **new String(chars) AT A CALL, FOR THE WRITER**: a char[] of n known ints, each 0 to 255 -/
theorem backV {p : Program} {l : Launch} {e : Env} {R : Room} {s : State} {args : Array Value} {below : List Frame} {len W : Nat} {Z : State} {a0 : Array Value} {h : Heap} (hZ : Z.Warmed39 s.vm) (hw : ∀ d ∈ words, d.before a0 Z = true) {kI : Nat} (wi : (Jvm.Cond.instantiable ST kI).before a0 Z = true)
    {x b : Addr} {kC : ClassId} {cs bs : List Int32} {d v0 c0 : Value} {z N : Int32} {n n0 : Nat} (hx0 : n0 ≤ x) (hh0 : n0 ≤ h.size) (E : RoadKit.Exa Z h x ST) (V : RoadKit.Fld Z h x ST "value" "[B" v0) (C : RoadKit.Fld Z h x ST "coder" "B" c0) (K : RoadKit.Arv Z h b kC .char N (cs.map Value.int) d) (S : RoadKit.Sta Z h ST "COMPACT_STRINGS" "Z" (.int z)) (hz : ¬ z = 0)
    (hn : cs.length = n) (hN : N = Int32.ofNat n) (l0 : 0 < n) (l2 : n ≤ 4000) (hp : ∀ c ∈ cs, ¬ c < 0 ∧ ¬ (255 : Int32) < c) (hb : bs = cs.map (fun c => c.toInt8.toInt32)) (hfr : 4 ≤ R.frames) (hlo : W + 65 ≤ R.locals) :
    Back l R p e below s args (⟨"java/lang/String", "<init>", "([C)V"⟩ : MethodName) len W (fun P a => a = #[.ref x, .ref b] ∧ P.U.heap = h ∧ P.cells + 1 ≤ R.cells ∧ P.slots + n ≤ R.slots)
      (fun P _ v B => ∃ L, QV Z x N bs h n0 v B.U.heap L ∧ B.locs = P.locs ++ L ∧ B.cells = P.cells + 1 ∧ B.slots = P.slots + n) := by
  subst hn hN hb
  refine Back.mono (backArv hZ hw wi E V C K S hz (n32 (by omega)) l0 (by omega) (fun c hc => (hp c hc).2) hfr hlo) (fun P a hp => hp) (fun P a v B hp hq => ?_)
  obtain ⟨L, ⟨q1, q2, q3, q4, q5, q6, q7, ⟨kb, v1, v2⟩, q9⟩, hl, hc, hs⟩ := hq
  exact ⟨L, ⟨q1, fun y hy => by rw [q2 y hy]; exact hx0, q3, q5, q7, h.size, kb, hh0, Nat.le_refl _, Nat.ne_of_gt E.lt, q6, by rw [List.map_map]; exact v2⟩, hl, hc, hs⟩
end StrChars.Road
namespace StrChars
open Jvm Sem ClassFile Op Lib Jvm.Stand Jvm.Free.XT Jvm.Free.ALB Jvm.Free.JM Jvm.Free
open Jvm.Lib.Cold (StaticIs)
def hi8 (x : Int32) : Int32 := lo8 (x >>> ((8 : Int32) &&& 31))
/-- what StringUTF16.getChar makes of two bytes -/
def pairCh (u v : Int32) : Int32 := (((u &&& 255) <<< ((0 : Int32) &&& 31)) ||| ((v &&& 255) <<< ((8 : Int32) &&& 31))).toUInt32.toUInt16.toUInt32.toInt32
theorem lo8_and (x : Int32) : (lo8 x &&& 255).toBitVec.toNat = x.toBitVec.toNat % 256 := by
  have h : (lo8 x).toBitVec = (x.toBitVec.signExtend 8).signExtend 32 := by rw [lo8, Int8.toBitVec_toInt32, Int32.toBitVec_toInt8]
  rw [Int32.toBitVec_and, BitVec.toNat_and, h]
  have e : ((x.toBitVec.signExtend 8).signExtend 32).toNat % 256 = x.toBitVec.toNat % 256 := by
    rw [BitVec.toNat_signExtend]
    have hlt := x.toBitVec.isLt
    simp only [BitVec.toNat_setWidth, BitVec.toNat_signExtend]
    split <;> split <;> omega
  rw [← e]
  exact Nat.and_two_pow_sub_one_eq_mod _ 8
theorem pair_says {c : Int32} (h0 : ¬ c < 0) (h1 : ¬ 65535 < c) : pairCh (lo8 c) (hi8 c) = c := by
  rw [Int32.lt_iff_toInt_lt] at h0 h1
  have e0 : (0 : Int32).toInt = 0 := rfl
  have e1 : (65535 : Int32).toInt = 65535 := rfl
  have hc : c.toInt = c.toBitVec.toNat := by
    have := c.toBitVec.isLt
    have e : c.toInt = c.toBitVec.toInt := rfl
    rw [e] at h0 h1
    rw [e]
    rw [BitVec.toInt_eq_toNat_cond] at h0 h1 ⊢
    split at h0 <;> split <;> omega
  have hn : c.toBitVec.toNat < 65536 := by omega
  have a1 := lo8_and c
  have a2 : (hi8 c &&& 255).toBitVec.toNat = c.toBitVec.toNat / 256 := by
    rw [hi8, lo8_and]
    have e : ((8 : Int32) &&& 31) = 8 := by decide
    rw [e, Int32.toBitVec_shiftRight]
    have e2 : ((8 : Int32).toBitVec.smod 32) = 8#32 := by decide
    rw [e2, BitVec.sshiftRight_eq', BitVec.toNat_sshiftRight_of_msb_false (by rw [BitVec.msb_eq_false_iff_two_mul_lt]; omega)]
    show c.toBitVec.toNat >>> 8 % 256 = _
    rw [Nat.shiftRight_eq_div_pow]
    omega
  unfold pairCh
  apply Int32.toBitVec_inj.mp
  apply BitVec.eq_of_toNat_eq
  have f0 : ((0 : Int32) &&& 31) = 0 := by decide
  have f8 : ((8 : Int32) &&& 31) = 8 := by decide
  rw [f0, f8]
  have g : (((lo8 c &&& 255) <<< (0 : Int32)) ||| ((hi8 c &&& 255) <<< (8 : Int32))).toBitVec.toNat = c.toBitVec.toNat := by
    rw [Int32.toBitVec_or, Int32.toBitVec_shiftLeft, Int32.toBitVec_shiftLeft]
    have s0 : ((0 : Int32).toBitVec.smod 32) = 0#32 := by decide
    have s8 : ((8 : Int32).toBitVec.smod 32) = 8#32 := by decide
    rw [s0, s8, BitVec.toNat_or]
    simp only [BitVec.shiftLeft_eq', BitVec.toNat_shiftLeft, a1, a2]
    show (c.toBitVec.toNat % 256) <<< 0 % 2 ^ 32 ||| (c.toBitVec.toNat / 256) <<< 8 % 2 ^ 32 = _
    rw [Nat.shiftLeft_zero, Nat.mod_eq_of_lt (show c.toBitVec.toNat % 256 < 2 ^ 32 by omega), Nat.mod_eq_of_lt (show (c.toBitVec.toNat / 256) <<< 8 < 2 ^ 32 by rw [Nat.shiftLeft_eq]; omega), Nat.or_comm, ← Nat.shiftLeft_add_eq_or_of_lt (by omega), Nat.shiftLeft_eq]
    omega
  show BitVec.toNat (((((lo8 c &&& 255) <<< (0 : Int32)) ||| ((hi8 c &&& 255) <<< (8 : Int32))).toBitVec.setWidth 16).setWidth 32) = _
  rw [BitVec.toNat_setWidth, BitVec.toNat_setWidth, g]
  omega
end StrChars
namespace StrChars
open Jvm Sem ClassFile Op Lib Jvm.Stand Jvm.Free.XT Jvm.Free.ALB Jvm.Free.JM Jvm.Free
open Jvm.Lib.Cold (StaticIs)
/-- the array's cell V codes the n chars f 0 .. f (n - 1) by the coder cd, as the JDK does: coder 1 just where some char is above 255 -/
def Cod (cd : Int32) (n : Nat) (f : Nat → Int32) (V : Cell) : Prop := (cd = 0 ∧ V.slots.size = n ∧ ∀ j, j < n → V.slots[j]? = some (.int (lo8 (f j))) ∧ ¬ 255 < f j) ∨ (cd = 1 ∧ V.slots.size = 2 * n ∧ (∀ j, j < n → V.slots[2 * j]? = some (.int (lo8 (f j))) ∧ V.slots[2 * j + 1]? = some (.int (hi8 (f j)))) ∧ ∃ j, j < n ∧ 255 < f j)
/-- **x is a String of the n chars f 0 .. f (n - 1)**, Latin-1 or UTF-16; its array at t has the cell V -/
def Txt (x t : Addr) (V : Cell) (cd : Int32) (n : Nat) (f : Nat → Int32) (U : State) : Prop := Exact "java/lang/String" x U ∧ Has x "java/lang/String" "value" "[B" (.ref t) U ∧ Has x "java/lang/String" "coder" "B" (.int cd) U ∧ XT.Arr .byte t V U ∧ Cod cd n f V ∧ ∀ j, j < n → ¬ f j < 0 ∧ ¬ 65535 < f j
theorem Txt.mv {x t : Addr} {V : Cell} {cd : Int32} {n : Nat} {f : Nat → Int32} {U U' : State} (h : Txt x t V cd n f U) (hal : U.vm.Alike U'.vm) (hh : U'.heap = U.heap) : Txt x t V cd n f U' := ⟨h.1.mv hal hh, h.2.1.mv hal hh, h.2.2.1.mv hal hh, h.2.2.2.1.mv hal hh, h.2.2.2.2⟩
end StrChars
namespace StrChars.Road
open Jvm Sem ClassFile Op Lib Jvm.Stand Jvm.Free Jvm.Free.XT
open Jvm.Lib.Cold (StaticIs)
theorem consq {a : Array Value} {s : State} {c : Jvm.Cond} {L : List Jvm.Cond} (h0 : c.before a s = true) (h : ∀ w ∈ L, w.before a s = true) : ∀ w ∈ c :: L, w.before a s = true := fun w hw => (List.mem_cons.mp hw).elim (fun e => e ▸ h0) (h w)
/-- the bytes of the chars cs, low before high -/
def wideBytes : List Int32 → List Value
  | [] => []
  | c :: cs => .int (lo8 c) :: .int (hi8 c) :: wideBytes cs
theorem wide_lo (d : Value) : ∀ (cs : List Int32) (j : Nat), j < cs.length → (wideBytes cs).getD (2 * j) d = .int (lo8 (cs.getD j 0))
  | [], j, h => absurd h (Nat.not_lt_zero j)
  | c :: cs, 0, _ => rfl
  | c :: cs, j + 1, h => by
    have q := wide_lo d cs j (by simpa using h)
    rw [show 2 * (j + 1) = 2 * j + 1 + 1 from by omega]
    simpa [wideBytes] using q
theorem wide_hi (d : Value) : ∀ (cs : List Int32) (j : Nat), j < cs.length → (wideBytes cs).getD (2 * j + 1) d = .int (hi8 (cs.getD j 0))
  | [], j, h => absurd h (Nat.not_lt_zero j)
  | c :: cs, 0, _ => rfl
  | c :: cs, j + 1, h => by
    have q := wide_hi d cs j (by simpa using h)
    rw [show 2 * (j + 1) + 1 = 2 * j + 1 + 1 + 1 from by omega]
    simpa [wideBytes] using q
theorem low_at (d : Value) (cs : List Int32) (j : Nat) (h : j < cs.length) : (cs.map fun c => Value.int (lo8 c)).getD j d = .int (lo8 (cs.getD j 0)) := by
  simp [List.getD_eq_getElem?_getD, h]
/-- an array of N2 bytes vs codes the chars cs by the coder cd -/
def CodA (cs : List Int32) (cd N2 : Int32) (vs : List Value) : Prop := (cd = 0 ∧ N2 = Int32.ofNat cs.length ∧ vs = (cs.map fun c => Value.int (lo8 c)) ∧ ∀ c ∈ cs, ¬ 255 < c) ∨ (cd = 1 ∧ N2 = Int32.ofNat (2 * cs.length) ∧ vs = wideBytes cs ∧ ∃ c ∈ cs, 255 < c)
theorem CodA.cod {cs : List Int32} {cd N2 : Int32} {vs : List Value} {V : Cell} (h : CodA cs cd N2 vs) (hn : 2 * cs.length < 2 ^ 31) (hs : V.slots.size = N2.toNatClampNeg) (hv : RoadKit.Has V vs (.int 0)) : Cod cd cs.length (fun j => cs.getD j 0) V := by
  rcases h with ⟨rfl, rfl, rfl, h⟩ | ⟨rfl, rfl, rfl, c, hc, hw⟩
  · rw [n32 (by omega)] at hs
    exact Or.inl ⟨rfl, hs, fun j hj => ⟨by rw [hv j (by omega), low_at _ _ _ hj], by
      have e : cs.getD j 0 = cs[j] := by simp [List.getD_eq_getElem?_getD, hj]
      show ¬ 255 < cs.getD j 0
      rw [e]; exact h _ (List.getElem_mem _)⟩⟩
  · rw [n32 (by omega)] at hs
    obtain ⟨j, hj, rfl⟩ := List.getElem_of_mem hc
    exact Or.inr ⟨rfl, hs, fun j hj => ⟨by rw [hv _ (by omega), wide_lo _ _ _ hj], by rw [hv _ (by omega), wide_hi _ _ _ hj]⟩, j, hj, by
      have e : cs.getD j 0 = cs[j] := by simp [List.getD_eq_getElem?_getD, hj]
      show 255 < cs.getD j 0
      rw [e]; exact hw⟩
/-- an object of exactly java/lang/String, its two fields found: as the laws ask it -/
theorem strObj {Z U : State} {a0 : Array Value} {kI : Nat} (wi : (Jvm.Cond.instantiable ST kI).before a0 Z = true) (al : Z.vm.Alike U.vm) {x : Addr} {v0 c0 : Value} (E : RoadKit.Exa Z U.heap x ST) (V : RoadKit.Fld Z U.heap x ST "value" "[B" v0) (C : RoadKit.Fld Z U.heap x ST "coder" "B" c0) :
    ∃ (D : Cell) (fV fC : Field), Blank ST x D U ∧ Found ST "value" "[B" fV U ∧ Found ST "coder" "B" fC U ∧ D.slots[fV.slot]? = some v0 ∧ D.slots[fC.slot]? = some c0 ∧ RoadKit.slotOf Z ST "value" "[B" = fV.slot ∧ RoadKit.slotOf Z ST "coder" "B" = fC.slot := by
  obtain ⟨D, cfV, kV, iV, fV, hD, gV, stV, knV, obV, asV, slV⟩ := V
  obtain ⟨D', cfC, kC, iC, fC, hD', gC, stC, -, -, asC, slC⟩ := C
  cases hD.symm.trans hD'
  obtain ⟨D2, kD, e1, e2, e3, e4, e5⟩ := E
  cases hD.symm.trans e1
  obtain ⟨c2, k2, i1, i2, i3, -⟩ := Cond.instantiable_spec wi
  cases e2.symm.trans i1
  cases e3.symm.trans i2
  obtain ⟨kU, u1, u2⟩ := al.2.2 _ _ e3
  exact ⟨D, fV, fC, ⟨hD, ⟨knV, fun q hq => by rw [hq] at obV; cases obV⟩, by rw [al.findClass]; exact e2, kU, u1, by rw [u2]; exact i3, by rw [u2]; exact e5 i3⟩, ⟨SBG.found_only al ⟨cfV, kV, iV, gV⟩, stV⟩, ⟨SBG.found_only al ⟨cfC, kC, iC, gC⟩, stC⟩, slV, slC, by simp [RoadKit.slotOf, gV], by simp [RoadKit.slotOf, gC]⟩
theorem sta_is {Z U : State} (al : Z.vm.Alike U.vm) {C n d : String} {v : Value} (S : RoadKit.Sta Z U.heap C n d v) : StaticIs U C n d v := by
  obtain ⟨cfS, iS, kS, fS, st, cS, t1, t2, t3, t4, t5, t6, t7⟩ := S
  exact StaticIs.there (s := { Z with heap := U.heap }) ⟨cfS, iS, kS, fS, st, cS, t1, t2, t3, t4, t5, (fun q => by rw [q] at t6; cases t6), t7⟩ al rfl
end StrChars.Road
namespace StrChars
open Jvm Sem ClassFile Op Lib Jvm.Stand Jvm.Free.XT Jvm.Free.ALB Jvm.Free.JM Jvm.Free
open Jvm.Lib.Cold (StaticIs)
/-- what place i of a byte[]'s cell holds -/
def yv (A : Cell) (i : Nat) : Int32 := match A.slots[i]? with | some (.int x) => x | _ => 0
theorem yv_get {a : Addr} {A : Cell} {U : State} (h : XT.Arr .byte a A U) (ht : Typed .byte A) {i : Nat} (hi : i < A.slots.size) : A.slots[i]? = some (.int (yv A i)) := by
  have e := Array.getElem?_eq_getElem hi
  have f := ht i _ e
  unfold yv; rw [e]
  generalize A.slots[i] = v at f
  cases v <;> simp [fits] at f ⊢
/-- the two arrays are equal, place for place -/
def EqC (A B : Cell) : Prop := A.slots.size = B.slots.size ∧ ∀ i, i < A.slots.size → yv A i = yv B i
/-- a boolean that says whether p -/
def Says01 (q : Prop) (r : Option Value) (s u : State) : Prop := ∃ v : Int32, r = some (.int v) ∧ u.heap = s.heap ∧ ((v = 1 ∧ q) ∨ (v = 0 ∧ ¬ q))
theorem Says01.mv {q : Prop} : ∀ r (U U' V V' : State), U'.heap = U.heap → V.vm.Alike V'.vm → V'.heap = V.heap → Says01 q r U V → Says01 q r U' V' :=
  fun r U U' V V' h1 _ h2 ⟨v, a, b, c⟩ => ⟨v, a, by rw [h1, h2]; exact b, c⟩
namespace LEq
def yN : MethodName := ⟨"java/lang/StringLatin1", "equals", "([B[B)Z"⟩
abbrev yB : ByteArray := jdk_43_method_13_code
theorem d0 : decode yB 0 = .ok (.aload_n 0, 1) := by decide +kernel
theorem d1 : decode yB 1 = .ok (.arraylength, 1) := by decide +kernel
theorem d2 : decode yB 2 = .ok (.aload_n 1, 1) := by decide +kernel
theorem d3 : decode yB 3 = .ok (.arraylength, 1) := by decide +kernel
theorem d4 : decode yB 4 = .ok (.if_icmp (.ne) 30, 3) := by decide +kernel
theorem d7 : decode yB 7 = .ok (.iconst 0, 1) := by decide +kernel
theorem d8 : decode yB 8 = .ok (.istore_n 2, 1) := by decide +kernel
theorem d9 : decode yB 9 = .ok (.iload_n 2, 1) := by decide +kernel
theorem d10 : decode yB 10 = .ok (.aload_n 0, 1) := by decide +kernel
theorem d11 : decode yB 11 = .ok (.arraylength, 1) := by decide +kernel
theorem d12 : decode yB 12 = .ok (.if_icmp (.ge) 20, 3) := by decide +kernel
theorem d15 : decode yB 15 = .ok (.aload_n 0, 1) := by decide +kernel
theorem d16 : decode yB 16 = .ok (.iload_n 2, 1) := by decide +kernel
theorem d17 : decode yB 17 = .ok (.baload, 1) := by decide +kernel
theorem d18 : decode yB 18 = .ok (.aload_n 1, 1) := by decide +kernel
theorem d19 : decode yB 19 = .ok (.iload_n 2, 1) := by decide +kernel
theorem d20 : decode yB 20 = .ok (.baload, 1) := by decide +kernel
theorem d21 : decode yB 21 = .ok (.if_icmp (.eq) 5, 3) := by decide +kernel
theorem d24 : decode yB 24 = .ok (.iconst 0, 1) := by decide +kernel
theorem d25 : decode yB 25 = .ok (.ireturn, 1) := by decide +kernel
theorem d26 : decode yB 26 = .ok (.iinc 2 1, 3) := by decide +kernel
theorem d29 : decode yB 29 = .ok (.goto (-20), 3) := by decide +kernel
theorem d32 : decode yB 32 = .ok (.iconst 1, 1) := by decide +kernel
theorem d33 : decode yB 33 = .ok (.ireturn, 1) := by decide +kernel
theorem d34 : decode yB 34 = .ok (.iconst 0, 1) := by decide +kernel
theorem d35 : decode yB 35 = .ok (.ireturn, 1) := by decide +kernel
def site : List Cond := []
def tab : Cond := tabOf yN yB 3 (some .boolean) site
def P (a : Addr) (A : Cell) (b : Addr) (B : Cell) (args : Array Value) (s : State) : Prop := args = #[.ref a, .ref b] ∧ XT.Arr .byte a A s ∧ Typed .byte A ∧ XT.Arr .byte b B s ∧ Typed .byte B
/-- whether two byte[] are equal, place for place -/
theorem law (l : Launch) (a : Addr) (A : Cell) (b : Addr) (B : Cell) : Law l yN 2 2 0 0 yB 3 (some .boolean) site (P a A b B) (Says01 (EqC A B)) [] 0 0 := by
  refine Law.of_walk (plainFor_of_name (by decide +kernel)) (by decide +kernel) (by decide +kernel) (by decide) (fun _ _ h => by rw [h.1]; rfl) (fun _ U U' hal hh h => ⟨h.1, h.2.1.mv hal hh, h.2.2.1, h.2.2.2.1.mv hal hh, h.2.2.2.2⟩) (fun r U U' V V' h1 hal h2 h => Says01.mv r U U' V V' h1 hal h2 h) ?_
  intro p e s m args below meth c s₁ X0 hexec hbytes hml hret hlk hnm hown hh0 W hP
  obtain ⟨rfl, hA, tA, hB, tB⟩ := hP
  have a31 := hA.2.2.2
  have b31 := hB.2.2.2
  have hA0 := hA.mv X0.warmed.alike hh0
  have hB0 := hB.mv X0.warmed.alike hh0
  have c1 : Steps p.tables e below (s₁.setTop (entryFrame m #[.ref a, .ref b] 3)) (s₁.setTop (mkF m 0 #[.val (.ref a), .val (.ref b), .unset] [])) := entry rfl
  have c2 : Steps p.tables e below (s₁.setTop (entryFrame m #[.ref a, .ref b] 3)) (s₁.setTop (mkF m 4 #[.val (.ref a), .val (.ref b), .unset] [.int (Int32.ofNat B.slots.size), .int (Int32.ofNat A.slots.size)])) := c1.trans (by
    refine XS.aloadN X0.here hexec rfl (hb hbytes d0) rfl rfl ?_
    refine X0.alen hexec hA0 rfl rfl (hb hbytes d1) ?_
    refine XS.aloadN X0.here hexec rfl (hb hbytes d2) rfl rfl ?_
    refine X0.alen hexec hB0 rfl rfl (hb hbytes d3) ?_
    exact Steps.refl _)
  by_cases hs : A.slots.size = B.slots.size
  · have c3 : Steps p.tables e below (s₁.setTop (entryFrame m #[.ref a, .ref b] 3)) (s₁.setTop (mkF m 9 #[.val (.ref a), .val (.ref b), .val (.int 0)] [])) := c2.trans (by
      refine XS.icmpNo X0.here hexec rfl (hb hbytes d4) rfl (ii_ne_f (by rw [hs])) ?_
      refine iconstV X0.here hexec rfl 0 (hb hbytes d7) (by decide) ?_
      refine XS.istoreN X0.here hexec rfl (hb hbytes d8) rfl rfl ?_
      exact Steps.refl _)
    have loop : ∀ (r i : Nat), i + r = A.slots.size → (∀ j, j < i → yv A j = yv B j) → Steps p.tables e below (s₁.setTop (entryFrame m #[.ref a, .ref b] 3)) (s₁.setTop (mkF m 9 #[.val (.ref a), .val (.ref b), .val (.int (Int32.ofNat i))] [])) → ∃ (pc : Nat) (Ls : Array Slot) (v : Int32), (pc = 25 ∨ pc = 33) ∧ ((v = 1 ∧ EqC A B) ∨ (v = 0 ∧ ¬ EqC A B)) ∧ Steps p.tables e below (s₁.setTop (entryFrame m #[.ref a, .ref b] 3)) (s₁.setTop (mkF m pc Ls [.int v])) := by
      intro r
      induction r with
      | zero =>
        intro i hi he cl
        exact ⟨33, _, 1, Or.inr rfl, Or.inl ⟨rfl, hs, fun j hj => he j (by omega)⟩, cl.trans (by
          refine XS.iloadN X0.here hexec rfl (hb hbytes d9) rfl ?_
          refine XS.aloadN X0.here hexec rfl (hb hbytes d10) rfl rfl ?_
          refine X0.alen hexec hA0 rfl rfl (hb hbytes d11) ?_
          refine XS.icmpYes X0.here hexec rfl (pc0 := 12) rfl (hb hbytes d12) rfl (ii_ge_t (nlt32 (by omega) (by omega))) (by decide) rfl ?_
          refine iconstV X0.here hexec rfl 1 (hb hbytes d32) (by decide) ?_
          exact Steps.refl _)⟩
      | succ r ih =>
        intro i hi he cl
        have c4 : Steps p.tables e below (s₁.setTop (entryFrame m #[.ref a, .ref b] 3)) (s₁.setTop (mkF m 21 #[.val (.ref a), .val (.ref b), .val (.int (Int32.ofNat i))] [.int (yv B i), .int (yv A i)])) := cl.trans (by
          refine XS.iloadN X0.here hexec rfl (hb hbytes d9) rfl ?_
          refine XS.aloadN X0.here hexec rfl (hb hbytes d10) rfl rfl ?_
          refine X0.alen hexec hA0 rfl rfl (hb hbytes d11) ?_
          refine XS.icmpNo X0.here hexec rfl (hb hbytes d12) rfl (ii_ge_f (lt32 (by omega) (by omega))) ?_
          refine XS.aloadN X0.here hexec rfl (hb hbytes d15) rfl rfl ?_
          refine XS.iloadN X0.here hexec rfl (hb hbytes d16) rfl ?_
          refine X0.aget hexec hA0 rfl (yv_get hA tA (i := i) (by omega)) rfl rfl (hb hbytes d17) ?_
          refine XS.aloadN X0.here hexec rfl (hb hbytes d18) rfl rfl ?_
          refine XS.iloadN X0.here hexec rfl (hb hbytes d19) rfl ?_
          refine X0.aget hexec hB0 rfl (yv_get hB tB (i := i) (by omega)) rfl rfl (hb hbytes d20) ?_
          exact Steps.refl _)
        by_cases hv : yv A i = yv B i
        · have c5 : Steps p.tables e below (s₁.setTop (entryFrame m #[.ref a, .ref b] 3)) (s₁.setTop (mkF m 9 #[.val (.ref a), .val (.ref b), .val (.int (Int32.ofNat i + 1))] [])) := c4.trans (by
            refine XS.icmpYes X0.here hexec rfl (pc0 := 21) rfl (hb hbytes d21) rfl (ii_eq_t hv) (by decide) rfl ?_
            refine iincV X0.here hexec rfl 1 (hb hbytes d26) (by decide) rfl rfl ?_
            refine XS.goto X0.here hexec rfl (pc0 := 29) rfl (hb hbytes d29) (by decide) rfl ?_
            exact Steps.refl _)
          rw [succ32] at c5
          exact ih (i + 1) (by omega) (fun j hj => by
            by_cases e : j = i
            · rw [e]; exact hv
            · exact he j (by omega)) c5
        · exact ⟨25, _, 0, Or.inl rfl, Or.inr ⟨rfl, fun q => hv (q.2 i (by omega))⟩, c4.trans (by
            refine XS.icmpNo X0.here hexec rfl (hb hbytes d21) rfl (ii_eq_f hv) ?_
            refine iconstV X0.here hexec rfl 0 (hb hbytes d24) (by decide) ?_
            exact Steps.refl _)⟩
    obtain ⟨pc, Ls, v, hpc, hv, cz⟩ := loop A.slots.size 0 (by omega) (fun j hj => absurd hj (Nat.not_lt_zero j)) c3
    have nv : narrow .boolean (.int v) = .int v := by rcases hv with ⟨rfl, -⟩ | ⟨rfl, -⟩ <;> rfl
    rcases hpc with rfl | rfl
    · exact ⟨s₁, some (.int v), _, _, _, X0, rfl, rfl, rfl, (fun h => by cases h), ⟨v, rfl, hh0, hv⟩, fun fs hl => cz.trans (X0.ireturnOut hexec hret nv (Or.inr (Or.inl rfl)) (hb hbytes d25) hl)⟩
    · exact ⟨s₁, some (.int v), _, _, _, X0, rfl, rfl, rfl, (fun h => by cases h), ⟨v, rfl, hh0, hv⟩, fun fs hl => cz.trans (X0.ireturnOut hexec hret nv (Or.inr (Or.inl rfl)) (hb hbytes d33) hl)⟩
  · have c3 : Steps p.tables e below (s₁.setTop (entryFrame m #[.ref a, .ref b] 3)) (s₁.setTop (mkF m 35 #[.val (.ref a), .val (.ref b), .unset] [.int 0])) := c2.trans (by
      refine XS.icmpYes X0.here hexec rfl (pc0 := 4) rfl (hb hbytes d4) rfl (ii_ne_t (ne32 a31 b31 hs)) (by decide) rfl ?_
      refine iconstV X0.here hexec rfl 0 (hb hbytes d34) (by decide) ?_
      exact Steps.refl _)
    exact ⟨s₁, some (.int 0), _, _, _, X0, rfl, rfl, rfl, (fun h => by cases h), ⟨0, rfl, hh0, Or.inr ⟨rfl, fun q => hs q.1⟩⟩, fun fs hl => c3.trans (X0.ireturnOut hexec hret rfl (Or.inr (Or.inl rfl)) (hb hbytes d35) hl)⟩
end LEq
theorem Cod.ty {cd : Int32} {n : Nat} {f : Nat → Int32} {V : Cell} (h : Cod cd n f V) : Typed .byte V := fun i v hv => by
  have hi : i < V.slots.size := (Array.getElem?_eq_some_iff.mp hv).1
  rcases h with ⟨-, k1, k2⟩ | ⟨-, k1, k2, -⟩
  · rw [(k2 i (by omega)).1] at hv; cases hv; exact fits_lo8 _
  · rcases Nat.mod_two_eq_zero_or_one i with e | e
    · obtain ⟨j, rfl⟩ : ∃ j, i = 2 * j := ⟨i / 2, by omega⟩
      rw [(k2 j (by omega)).1] at hv; cases hv; exact fits_lo8 _
    · obtain ⟨j, rfl⟩ : ∃ j, i = 2 * j + 1 := ⟨i / 2, by omega⟩
      rw [(k2 j (by omega)).2] at hv; cases hv; exact fits_lo8 _
/-- the same text -/
def SameT (n : Nat) (f : Nat → Int32) (k : Nat) (g : Nat → Int32) : Prop := n = k ∧ ∀ j, j < n → f j = g j
theorem lo8_inj {x y : Int32} (h0 : ¬ x < 0) (h1 : ¬ 255 < x) (k0 : ¬ y < 0) (k1 : ¬ 255 < y) (h : lo8 x = lo8 y) : x = y := by
  rw [← lo8_mask h0 h1, ← lo8_mask k0 k1, h]
/-- arrays coded by one coder are equal just where the texts are -/
theorem Cod.eqv {cd : Int32} {n k : Nat} {f g : Nat → Int32} {V V' : Cell} (h : Cod cd n f V) (h' : Cod cd k g V') (hf : ∀ j, j < n → ¬ f j < 0 ∧ ¬ 65535 < f j) (hg : ∀ j, j < k → ¬ g j < 0 ∧ ¬ 65535 < g j) : EqC V V' ↔ SameT n f k g := by
  have yvv : ∀ {W : Cell} {i : Nat} {x : Int32}, W.slots[i]? = some (.int x) → yv W i = x := fun q => by unfold yv; rw [q]
  rcases h with ⟨rfl, k1, k2⟩ | ⟨rfl, k1, k2, -⟩
  · rcases h' with ⟨-, m1, m2⟩ | ⟨e, -⟩
    · constructor
      · rintro ⟨e1, e2⟩
        refine ⟨by omega, fun j hj => ?_⟩
        have q := e2 j (by omega)
        rw [yvv (k2 j hj).1, yvv (m2 j (by omega)).1] at q
        exact lo8_inj (hf j hj).1 (k2 j hj).2 (hg j (by omega)).1 (m2 j (by omega)).2 q
      · rintro ⟨rfl, e2⟩
        refine ⟨by omega, fun j hj => ?_⟩
        rw [yvv (k2 j (by omega)).1, yvv (m2 j (by omega)).1, e2 j (by omega)]
    · exact absurd e (by decide)
  · rcases h' with ⟨e, -⟩ | ⟨-, m1, m2, -⟩
    · exact absurd e (by decide)
    · constructor
      · rintro ⟨e1, e2⟩
        refine ⟨by omega, fun j hj => ?_⟩
        have q1 := e2 (2 * j) (by omega)
        have q2 := e2 (2 * j + 1) (by omega)
        rw [yvv (k2 j hj).1, yvv (m2 j (by omega)).1] at q1
        rw [yvv (k2 j hj).2, yvv (m2 j (by omega)).2] at q2
        rw [← pair_says (hf j hj).1 (hf j hj).2, ← pair_says (hg j (by omega)).1 (hg j (by omega)).2, q1, q2]
      · rintro ⟨rfl, e2⟩
        refine ⟨by omega, fun i hi => ?_⟩
        rcases Nat.mod_two_eq_zero_or_one i with e | e
        · obtain ⟨j, rfl⟩ : ∃ j, i = 2 * j := ⟨i / 2, by omega⟩
          rw [yvv (k2 j (by omega)).1, yvv (m2 j (by omega)).1, e2 j (by omega)]
        · obtain ⟨j, rfl⟩ : ∃ j, i = 2 * j + 1 := ⟨i / 2, by omega⟩
          rw [yvv (k2 j (by omega)).2, yvv (m2 j (by omega)).2, e2 j (by omega)]
/-- two codings differ: so do the texts -/
theorem Cod.dif {cd cd' : Int32} {n k : Nat} {f g : Nat → Int32} {V V' : Cell} (h : Cod cd n f V) (h' : Cod cd' k g V') (hne : ¬ cd = cd') : ¬ SameT n f k g := by
  rintro ⟨rfl, e⟩
  rcases h with ⟨rfl, -, k2⟩ | ⟨rfl, -, -, j, hj, hw⟩
  · rcases h' with ⟨rfl, -⟩ | ⟨-, -, -, j, hj, hw⟩
    · exact hne rfl
    · exact (k2 j hj).2 (by rw [e j hj]; exact hw)
  · rcases h' with ⟨-, -, m2⟩ | ⟨rfl, -⟩
    · exact (m2 j hj).2 (by rw [← e j hj]; exact hw)
    · exact hne rfl
/-- an object of exactly C is an instance of C -/
theorem cinst {p : Program} {l : Launch} {e : Env} {R : Room} {s : State} {m : MethodId} {args : Array Value} {below : List Frame} {meth : Method} {c : Code} {T : State} {locs : List Loc} {cells slots : Nat} (X : Stand p l e R s m args below meth c T locs cells slots) (hexec : p.tables.exec = Jvm.exec) {own C : String} {index : Nat} (hown : s.vm.findClass own = some m.cls) (hlink : (Cond.classLink own index C).before args s = true) {a : Addr} (hE : Exact C a T)
    {g : JFrame} (hg : g.method = m) {rest : List Value} (hstack : g.stack = .ref a :: rest) (hdg : decode c.code g.pc = .ok (.instanceof index, 3)) :
    ∃ T', Stand p l e R s m args below meth c T' locs cells slots ∧ T'.heap = T.heap ∧ ∀ target, Steps p.tables e below (T'.setTop { g with pc := g.pc + 3, stack := .int 1 :: rest }) target → Steps p.tables e below (T.setTop g) target := by
  obtain ⟨cB, h1, D, h2, h3, h4⟩ := hE
  have h1' : s.vm.findClass C = some cB := by rw [← X.warmed.alike.findClass]; exact h1
  obtain ⟨vm', X', st⟩ := X.instanceofYes hexec hown hlink h2 h4 h1' (by rw [h3]; exact Jvm.Free.SB.assignable_self _ _) hg hstack hdg
  exact ⟨_, X', rfl, st⟩
theorem cself {p : Program} {l : Launch} {e : Env} {R : Room} {s : State} {m : MethodId} {args : Array Value} {below : List Frame} {meth : Method} {c : Code} {T : State} {locs : List Loc} {cells slots : Nat} (X : Stand p l e R s m args below meth c T locs cells slots) (hexec : p.tables.exec = Jvm.exec) {own C : String} {index : Nat} (hown : s.vm.findClass own = some m.cls) (hlink : (Cond.classLink own index C).before args s = true) {a : Addr} (hE : Exact C a T)
    {g : JFrame} (hg : g.method = m) {rest : List Value} (hstack : g.stack = .ref a :: rest) (hdg : decode c.code g.pc = .ok (.checkcast index, 3)) :
    ∃ T', Stand p l e R s m args below meth c T' locs cells slots ∧ T'.heap = T.heap ∧ ∀ target, Steps p.tables e below (T'.setTop { g with pc := g.pc + 3, stack := .ref a :: rest }) target → Steps p.tables e below (T.setTop g) target := by
  obtain ⟨cB, h1, D, h2, h3, h4⟩ := hE
  have h1' : s.vm.findClass C = some cB := by rw [← X.warmed.alike.findClass]; exact h1
  obtain ⟨vm', X', st⟩ := X.checkcastYes hexec hown hlink h2 h4 h1' (by rw [h3]; exact Jvm.Free.SB.assignable_self _ _) hg hstack hdg
  exact ⟨_, X', rfl, fun t h => st t (by rw [← hstack] at h; exact h)⟩
namespace SEq
def yN : MethodName := ⟨"java/lang/String", "equals", "(Ljava/lang/Object;)Z"⟩
abbrev yB : ByteArray := jdk_42_method_66_code
theorem d0 : decode yB 0 = .ok (.aload_n 0, 1) := by decide +kernel
theorem d1 : decode yB 1 = .ok (.aload_n 1, 1) := by decide +kernel
theorem d2 : decode yB 2 = .ok (.if_acmp (.ne) 5, 3) := by decide +kernel
theorem d5 : decode yB 5 = .ok (.iconst 1, 1) := by decide +kernel
theorem d6 : decode yB 6 = .ok (.ireturn, 1) := by decide +kernel
theorem d7 : decode yB 7 = .ok (.aload_n 1, 1) := by decide +kernel
theorem d8 : decode yB 8 = .ok (.instanceof 10, 3) := by decide +kernel
theorem d11 : decode yB 11 = .ok (.ifCond (.eq) 43, 3) := by decide +kernel
theorem d14 : decode yB 14 = .ok (.aload_n 1, 1) := by decide +kernel
theorem d15 : decode yB 15 = .ok (.checkcast 10, 3) := by decide +kernel
theorem d18 : decode yB 18 = .ok (.astore_n 2, 1) := by decide +kernel
theorem d19 : decode yB 19 = .ok (.getstatic 38, 3) := by decide +kernel
theorem d22 : decode yB 22 = .ok (.ifCond (.eq) 14, 3) := by decide +kernel
theorem d25 : decode yB 25 = .ok (.aload_n 0, 1) := by decide +kernel
theorem d26 : decode yB 26 = .ok (.getfield 15, 3) := by decide +kernel
theorem d29 : decode yB 29 = .ok (.aload_n 2, 1) := by decide +kernel
theorem d30 : decode yB 30 = .ok (.getfield 15, 3) := by decide +kernel
theorem d33 : decode yB 33 = .ok (.if_icmp (.ne) 21, 3) := by decide +kernel
theorem d36 : decode yB 36 = .ok (.aload_n 0, 1) := by decide +kernel
theorem d37 : decode yB 37 = .ok (.getfield 9, 3) := by decide +kernel
theorem d40 : decode yB 40 = .ok (.aload_n 2, 1) := by decide +kernel
theorem d41 : decode yB 41 = .ok (.getfield 9, 3) := by decide +kernel
theorem d44 : decode yB 44 = .ok (.invokestatic 541, 3) := by decide +kernel
theorem d47 : decode yB 47 = .ok (.ifCond (.eq) 7, 3) := by decide +kernel
theorem d50 : decode yB 50 = .ok (.iconst 1, 1) := by decide +kernel
theorem d51 : decode yB 51 = .ok (.goto 4, 3) := by decide +kernel
theorem d54 : decode yB 54 = .ok (.iconst 0, 1) := by decide +kernel
theorem d55 : decode yB 55 = .ok (.ireturn, 1) := by decide +kernel
def site : List Cond := [.classLink "java/lang/String" 10 "java/lang/String", .fieldLink "java/lang/String" 38 "java/lang/String" "COMPACT_STRINGS" "Z", .fieldLink "java/lang/String" 15 "java/lang/String" "coder" "B", .fieldLink "java/lang/String" 9 "java/lang/String" "value" "[B", LEq.tab] ++ staticW "java/lang/String" 541 LEq.yN
def tab : Cond := tabOf yN yB 3 (some .boolean) site
def P (x t : Addr) (V : Cell) (cd : Int32) (n : Nat) (f : Nat → Int32) (y t' : Addr) (V' : Cell) (cd' : Int32) (k : Nat) (g : Nat → Int32) (z : Int32) (args : Array Value) (s : State) : Prop := args = #[.ref x, .ref y] ∧ Txt x t V cd n f s ∧ Txt y t' V' cd' k g s ∧ StaticIs s "java/lang/String" "COMPACT_STRINGS" "Z" (.int z) ∧ ¬ z = 0
/-- equals(Object) of two Strings: whether the texts are the same -/
theorem law (l : Launch) (x t : Addr) (V : Cell) (cd : Int32) (n : Nat) (f : Nat → Int32) (y t' : Addr) (V' : Cell) (cd' : Int32) (k : Nat) (g : Nat → Int32) (z : Int32) : Law l yN 2 1 1 14 yB 3 (some .boolean) site (P x t V cd n f y t' V' cd' k g z) (Says01 (SameT n f k g)) [] 0 0 := by
  refine Law.of_walk (plainFor_of_name (by decide +kernel)) (by decide +kernel) (by decide +kernel) (by decide) (fun _ _ h => by rw [h.1]; rfl) (fun _ U U' hal hh h => ⟨h.1, h.2.1.mv hal hh, h.2.2.1.mv hal hh, h.2.2.2.1.there hal hh, h.2.2.2.2⟩) (fun r U U' V V' h1 hal h2 h => Says01.mv r U U' V V' h1 hal h2 h) ?_
  intro p e s m args below meth c s₁ X0 hexec hbytes hml hret hlk hnm hown hh0 W hP
  obtain ⟨rfl, hx, hy, s1, hz⟩ := hP
  have c1 : Steps p.tables e below (s₁.setTop (entryFrame m #[.ref x, .ref y] 3)) (s₁.setTop (mkF m 2 #[.val (.ref x), .val (.ref y), .unset] [.ref y, .ref x])) := Steps.trans (entry rfl) (by
    show Steps p.tables e below (s₁.setTop (mkF m 0 #[.val (.ref x), .val (.ref y), .unset] [])) _
    refine XS.aloadN X0.here hexec rfl (hb hbytes d0) rfl rfl ?_
    refine XS.aloadN X0.here hexec rfl (hb hbytes d1) rfl rfl ?_
    exact Steps.refl _)
  by_cases hxy : x = y
  · have c2 : Steps p.tables e below (s₁.setTop (entryFrame m #[.ref x, .ref y] 3)) (s₁.setTop (mkF m 6 #[.val (.ref x), .val (.ref y), .unset] [.int 1])) := c1.trans (by
      refine acmpNo X0.here hexec rfl (hb hbytes d2) rfl rfl rfl (by simp [acmp, hxy]) ?_
      refine iconstV X0.here hexec rfl 1 (hb hbytes d5) (by decide) ?_
      exact Steps.refl _)
    subst hxy
    have ec : cd = cd' := by
      obtain ⟨D, fd, a1, a2, a3⟩ := hx.2.2.1
      obtain ⟨D', fd', b1, b2, b3⟩ := hy.2.2.1
      cases a1.symm.trans b1
      obtain ⟨q1, q2, q3, q4⟩ := a2.1
      obtain ⟨r1, r2, r3, r4⟩ := b2.1
      cases q4.symm.trans r4
      cases a3.symm.trans b3; rfl
    have et : t = t' := by
      obtain ⟨D, fd, a1, a2, a3⟩ := hx.2.1
      obtain ⟨D', fd', b1, b2, b3⟩ := hy.2.1
      cases a1.symm.trans b1
      obtain ⟨q1, q2, q3, q4⟩ := a2.1
      obtain ⟨r1, r2, r3, r4⟩ := b2.1
      cases q4.symm.trans r4
      cases a3.symm.trans b3; rfl
    subst ec et
    have ev : V = V' := by cases hx.2.2.2.1.1.symm.trans hy.2.2.2.1.1; rfl
    subst ev
    have hs : SameT n f k g := (Cod.eqv hx.2.2.2.2.1 hy.2.2.2.2.1 hx.2.2.2.2.2 hy.2.2.2.2.2).mp ⟨rfl, fun _ _ => rfl⟩
    exact ⟨s₁, some (.int 1), _, _, _, X0, rfl, rfl, rfl, (fun h => by cases h), ⟨1, rfl, hh0, Or.inl ⟨rfl, hs⟩⟩, fun fs hl => c2.trans (X0.ireturnOut hexec hret rfl (Or.inr (Or.inl rfl)) (hb hbytes d6) hl)⟩
  · have c2 : Steps p.tables e below (s₁.setTop (entryFrame m #[.ref x, .ref y] 3)) (s₁.setTop (mkF m 8 #[.val (.ref x), .val (.ref y), .unset] [.ref y])) := c1.trans (by
      refine acmpYes X0.here hexec rfl (pc0 := 2) rfl (hb hbytes d2) rfl rfl rfl (by simp [acmp, hxy]) (by decide) rfl ?_
      refine XS.aloadN X0.here hexec rfl (hb hbytes d7) rfl rfl ?_
      exact Steps.refl _)
    obtain ⟨T3, X3, q3, st3⟩ := cinst X0 hexec hown (wk W (.classLink "java/lang/String" 10 "java/lang/String")) (hy.mv X0.warmed.alike hh0).1 (g := (mkF m 8 #[.val (.ref x), .val (.ref y), .unset] [.ref y])) rfl (rest := []) rfl (hb hbytes d8)
    have hh3 := q3.trans hh0
    have c4 : Steps p.tables e below (s₁.setTop (entryFrame m #[.ref x, .ref y] 3)) (T3.setTop (mkF m 15 #[.val (.ref x), .val (.ref y), .unset] [.ref y])) := (c2.trans (st3 _ (Steps.refl _))).trans (by
      refine XS.ifNo X3.here hexec rfl (hb hbytes d11) rfl (i0_eq_f (by decide)) ?_
      refine XS.aloadN X3.here hexec rfl (hb hbytes d14) rfl rfl ?_
      exact Steps.refl _)
    obtain ⟨T5, X5, q5, st5⟩ := cself X3 hexec hown (wk W (.classLink "java/lang/String" 10 "java/lang/String")) (hy.mv X3.warmed.alike hh3).1 (g := (mkF m 15 #[.val (.ref x), .val (.ref y), .unset] [.ref y])) rfl (rest := []) rfl (hb hbytes d15)
    have hh5 := q5.trans hh3
    have c6 : Steps p.tables e below (s₁.setTop (entryFrame m #[.ref x, .ref y] 3)) (T5.setTop (mkF m 19 #[.val (.ref x), .val (.ref y), .val (.ref y)] [])) := (c4.trans (st5 _ (Steps.refl _))).trans (by
      refine XS.astoreN X5.here hexec rfl (hb hbytes d18) rfl rfl rfl ?_
      exact Steps.refl _)
    obtain ⟨T7, X7, q7, st7⟩ := X5.sget hexec hown (wk W (.fieldLink "java/lang/String" 38 "java/lang/String" "COMPACT_STRINGS" "Z")) s1 (fun _ _ h => by rw [hh5]; exact h) (g := (mkF m 19 #[.val (.ref x), .val (.ref y), .val (.ref y)] [])) rfl (hb hbytes d19)
    have hh7 := q7.trans hh5
    have c8 : Steps p.tables e below (s₁.setTop (entryFrame m #[.ref x, .ref y] 3)) (T7.setTop (mkF m 26 #[.val (.ref x), .val (.ref y), .val (.ref y)] [.ref x])) := (c6.trans (st7 _ (Steps.refl _))).trans (by
      refine XS.ifNo X7.here hexec rfl (hb hbytes d22) rfl (i0_eq_f hz) ?_
      refine XS.aloadN X7.here hexec rfl (hb hbytes d25) rfl rfl ?_
      exact Steps.refl _)
    obtain ⟨T9, X9, q9, st9⟩ := X7.hget hexec hown (wk W (.fieldLink "java/lang/String" 15 "java/lang/String" "coder" "B")) (hx.mv X7.warmed.alike hh7).2.2.1 (g := (mkF m 26 #[.val (.ref x), .val (.ref y), .val (.ref y)] [.ref x])) rfl (rest := []) rfl (hb hbytes d26)
    have hh9 := q9.trans hh7
    have c10 : Steps p.tables e below (s₁.setTop (entryFrame m #[.ref x, .ref y] 3)) (T9.setTop (mkF m 30 #[.val (.ref x), .val (.ref y), .val (.ref y)] [.ref y, .int cd])) := (c8.trans (st9 _ (Steps.refl _))).trans (by
      refine XS.aloadN X9.here hexec rfl (hb hbytes d29) rfl rfl ?_
      exact Steps.refl _)
    obtain ⟨T11, X11, q11, st11⟩ := X9.hget hexec hown (wk W (.fieldLink "java/lang/String" 15 "java/lang/String" "coder" "B")) (hy.mv X9.warmed.alike hh9).2.2.1 (g := (mkF m 30 #[.val (.ref x), .val (.ref y), .val (.ref y)] [.ref y, .int cd])) rfl (rest := [.int cd]) rfl (hb hbytes d30)
    have hh11 := q11.trans hh9
    have c12 : Steps p.tables e below (s₁.setTop (entryFrame m #[.ref x, .ref y] 3)) (T11.setTop (mkF m 33 #[.val (.ref x), .val (.ref y), .val (.ref y)] [.int cd', .int cd])) := c10.trans (st11 _ (Steps.refl _))
    by_cases hcd : cd = cd'
    · subst hcd
      have c13 : Steps p.tables e below (s₁.setTop (entryFrame m #[.ref x, .ref y] 3)) (T11.setTop (mkF m 37 #[.val (.ref x), .val (.ref y), .val (.ref y)] [.ref x])) := c12.trans (by
        refine XS.icmpNo X11.here hexec rfl (hb hbytes d33) rfl (ii_ne_f rfl) ?_
        refine XS.aloadN X11.here hexec rfl (hb hbytes d36) rfl rfl ?_
        exact Steps.refl _)
      obtain ⟨T14, X14, q14, st14⟩ := X11.hget hexec hown (wk W (.fieldLink "java/lang/String" 9 "java/lang/String" "value" "[B")) (hx.mv X11.warmed.alike hh11).2.1 (g := (mkF m 37 #[.val (.ref x), .val (.ref y), .val (.ref y)] [.ref x])) rfl (rest := []) rfl (hb hbytes d37)
      have hh14 := q14.trans hh11
      have c15 : Steps p.tables e below (s₁.setTop (entryFrame m #[.ref x, .ref y] 3)) (T14.setTop (mkF m 41 #[.val (.ref x), .val (.ref y), .val (.ref y)] [.ref y, .ref t])) := (c13.trans (st14 _ (Steps.refl _))).trans (by
        refine XS.aloadN X14.here hexec rfl (hb hbytes d40) rfl rfl ?_
        exact Steps.refl _)
      obtain ⟨T16, X16, q16, st16⟩ := X14.hget hexec hown (wk W (.fieldLink "java/lang/String" 9 "java/lang/String" "value" "[B")) (hy.mv X14.warmed.alike hh14).2.1 (g := (mkF m 41 #[.val (.ref x), .val (.ref y), .val (.ref y)] [.ref y, .ref t])) rfl (rest := [.ref t]) rfl (hb hbytes d41)
      have hh16 := q16.trans hh14
      have c17 : Steps p.tables e below (s₁.setTop (entryFrame m #[.ref x, .ref y] 3)) (T16.setTop (mkF m 44 #[.val (.ref x), .val (.ref y), .val (.ref y)] [.ref t', .ref t])) := c15.trans (st16 _ (Steps.refl _))
      obtain ⟨v18, T18, X18, E18, g18⟩ := X16.callS hexec (LEq.law l t V t' V') hown (wks W (staticW "java/lang/String" 541 LEq.yN)) (wk W LEq.tab) (W := 0) (Nat.le_of_ble_eq_true rfl) (Nat.le_of_ble_eq_true rfl) (Nat.le_refl _) (Nat.le_refl _) (g := (mkF m 44 #[.val (.ref x), .val (.ref y), .val (.ref y)] [.ref t', .ref t])) rfl (by rw [hml]; rfl) c17 (argsL := [.ref t, .ref t']) (rest := []) rfl rfl (by show 2 * 0 + 0 ≤ _; decide) (hb hbytes d44) (⟨rfl, hx.2.2.2.1.mv X16.warmed.alike hh16, hx.2.2.2.2.1.ty, hy.2.2.2.1.mv X16.warmed.alike hh16, hy.2.2.2.2.1.ty⟩)
      obtain ⟨v, rfl, q18, hv⟩ := E18
      have iff := Cod.eqv hx.2.2.2.2.1 hy.2.2.2.2.1 hx.2.2.2.2.2 hy.2.2.2.2.2
      rcases hv with ⟨rfl, he⟩ | ⟨rfl, he⟩
      · have c19 : Steps p.tables e below (s₁.setTop (entryFrame m #[.ref x, .ref y] 3)) (T18.setTop (mkF m 55 #[.val (.ref x), .val (.ref y), .val (.ref y)] [.int 1])) := Steps.trans g18 (by
          refine XS.ifNo X18.here hexec rfl (hb hbytes d47) rfl (i0_eq_f (by decide)) ?_
          refine iconstV X18.here hexec rfl 1 (hb hbytes d50) (by decide) ?_
          refine XS.goto X18.here hexec rfl (pc0 := 51) rfl (hb hbytes d51) (by decide) rfl ?_
          exact Steps.refl _)
        exact ⟨T18, some (.int 1), _, _, _, X18, rfl, rfl, rfl, (fun h => by cases h), ⟨1, rfl, q18.trans hh16, Or.inl ⟨rfl, iff.mp he⟩⟩, fun fs hl => c19.trans (X18.ireturnOut hexec hret rfl (Or.inr (Or.inl rfl)) (hb hbytes d55) hl)⟩
      · have c19 : Steps p.tables e below (s₁.setTop (entryFrame m #[.ref x, .ref y] 3)) (T18.setTop (mkF m 55 #[.val (.ref x), .val (.ref y), .val (.ref y)] [.int 0])) := Steps.trans g18 (by
          refine XS.ifYes X18.here hexec rfl (pc0 := 47) rfl (hb hbytes d47) rfl (i0_eq_t rfl) (by decide) rfl ?_
          refine iconstV X18.here hexec rfl 0 (hb hbytes d54) (by decide) ?_
          exact Steps.refl _)
        exact ⟨T18, some (.int 0), _, _, _, X18, rfl, rfl, rfl, (fun h => by cases h), ⟨0, rfl, q18.trans hh16, Or.inr ⟨rfl, fun q => he (iff.mpr q)⟩⟩, fun fs hl => c19.trans (X18.ireturnOut hexec hret rfl (Or.inr (Or.inl rfl)) (hb hbytes d55) hl)⟩
    · have c13 : Steps p.tables e below (s₁.setTop (entryFrame m #[.ref x, .ref y] 3)) (T11.setTop (mkF m 55 #[.val (.ref x), .val (.ref y), .val (.ref y)] [.int 0])) := c12.trans (by
        refine XS.icmpYes X11.here hexec rfl (pc0 := 33) rfl (hb hbytes d33) rfl (ii_ne_t hcd) (by decide) rfl ?_
        refine iconstV X11.here hexec rfl 0 (hb hbytes d54) (by decide) ?_
        exact Steps.refl _)
      exact ⟨T11, some (.int 0), _, _, _, X11, rfl, rfl, rfl, (fun h => by cases h), ⟨0, rfl, hh11, Or.inr ⟨rfl, Cod.dif hx.2.2.2.2.1 hy.2.2.2.2.1 hcd⟩⟩, fun fs hl => c13.trans (X11.ireturnOut hexec hret rfl (Or.inr (Or.inl rfl)) (hb hbytes d55) hl)⟩
theorem pays {l : Launch} {R : Room} {p : Program} {e : Env} {below : List Frame} {s : State} {sargs : Array Value} {len W : Nat} (x t : Addr) (V : Cell) (cd : Int32) (n : Nat) (f : Nat → Int32) (y t' : Addr) (V' : Cell) (cd' : Int32) (k : Nat) (g : Nat → Int32) (z : Int32) (htab : tab.before sargs s = true) (hfr : 2 ≤ R.frames) (hlo : W + 28 ≤ R.locals) :
    Back l R p e below s sargs yN len W (fun A₁ a₁ => A₁.cells + 0 ≤ R.cells ∧ A₁.slots + 0 ≤ R.slots ∧ P x t V cd n f y t' V' cd' k g z a₁ A₁.U) (fun A₁ _ v₁ B₁ => Says01 (SameT n f k g) v₁ A₁.U B₁.U ∧ B₁.locs = A₁.locs ++ [] ∧ B₁.cells = A₁.cells + 0 ∧ B₁.slots = A₁.slots + 0) :=
  (law l x t V cd n f y t' V' cd' k g z).pays htab hfr (by omega)
end SEq
end StrChars
namespace StrChars.Road
open Jvm Sem ClassFile Op Lib Jvm.Stand Jvm.Free Jvm.Free.XT
open Jvm.Lib.Cold (StaticIs)
/-- the words of String.equals(Object) -/
abbrev wordsEq : List Jvm.Cond := [.code SEq.yN SEq.yB 3 (some .boolean), .initialized ST, .classLink ST 10 ST, .fieldLink ST 38 ST "COMPACT_STRINGS" "Z", .fieldLink ST 15 ST "coder" "B", .fieldLink ST 9 ST "value" "[B", .methodLink ST 541 LEq.yN, .static LEq.yN, .code LEq.yN LEq.yB 3 (some .boolean), .initialized "java/lang/StringLatin1"]
theorem tabEq_of {a : Array Value} {s : State} (h : ∀ w ∈ wordsEq, w.before a s = true) : SEq.tab.before a s = true := by
  have hl : LEq.tab.before a s = true := unparts (wk h (.code LEq.yN LEq.yB 3 (some .boolean))) (wks h (.initialized LEq.yN.cls :: LEq.site))
  have q := consq hl h
  exact unparts (wk q (.code SEq.yN SEq.yB 3 (some .boolean))) (wks q (.initialized SEq.yN.cls :: SEq.site))
theorem movedEq {Z s : State} {a0 args : Array Value} (hZ : Z.Warmed39 s.vm) (hw : ∀ d ∈ wordsEq, d.before a0 Z = true) : ∀ d ∈ wordsEq, d.before args s = true := fun d hd => by
  have t : ∀ d ∈ wordsEq, (d.onTables && d.keepsFace) = true := by decide +kernel
  exact RoadKit.mv hZ (hw d hd) (t d hd)
/-- the road's facts of a String, as the laws ask it -/
theorem txt_of {Z U : State} {a0 : Array Value} {kI : Nat} (wi : (Jvm.Cond.instantiable ST kI).before a0 Z = true) (al : Z.vm.Alike U.vm) {x t : Addr} {kb : ClassId} {cs : List Int32} {cd N2 : Int32} {vs : List Value} (E : RoadKit.Exa Z U.heap x ST) (V : RoadKit.Fld Z U.heap x ST "value" "[B" (.ref t)) (C : RoadKit.Fld Z U.heap x ST "coder" "B" (.int cd)) (K : RoadKit.Arv Z U.heap t kb .byte N2 vs (.int 0)) (hc : CodA cs cd N2 vs) (hb : ∀ c ∈ cs, ¬ c < 0 ∧ ¬ (65535 : Int32) < c) (l2 : cs.length ≤ 4000) :
    ∃ A, Txt x t A cd cs.length (fun j => cs.getD j 0) U := by
  obtain ⟨A, K1, K2, K3, K4, K5, K6⟩ := K
  have hcod := hc.cod (by omega) K3 K5
  obtain ⟨D, fV, fC, hB, F1, F2, g1, g2, -, -⟩ := strObj wi al E V C
  exact ⟨A, ⟨_, hB.2.2.1, D, hB.1, rfl, by cases q : D.vm <;> first | rfl | exact absurd q (hB.2.1.2 _)⟩, Has.of hB F1 g1, Has.of hB F2 g2, ⟨K1.1, State.isArrayOf_alike al K1.2.1, K1.2.2, by rcases hcod with ⟨-, q, -⟩ | ⟨-, q, -⟩ <;> omega⟩, hcod, fun j hj => by
    have e : cs.getD j 0 = cs[j] := by simp [List.getD_eq_getElem?_getD, hj]
    show ¬ cs.getD j 0 < 0 ∧ ¬ 65535 < cs.getD j 0
    rw [e]; exact hb _ (List.getElem_mem _)⟩
theorem same_list (cs ds : List Int32) : SameT cs.length (fun j => cs.getD j 0) ds.length (fun j => ds.getD j 0) ↔ cs = ds := by
  constructor
  · rintro ⟨e, q⟩
    refine List.ext_getElem e fun j h1 h2 => ?_
    have := q j h1
    simpa [List.getD_eq_getElem?_getD, h1, h2] using this
  · rintro rfl
    exact ⟨rfl, fun _ _ => rfl⟩
/-- **equals(Object) OF TWO SUCH STRINGS**: 1 just where the chars are the same -/
theorem eqW {p : Program} {l : Launch} {e : Env} {R : Room} {s : State} {args : Array Value} {below : List Frame} {len W : Nat} {Z : State} {a0 : Array Value} {h : Heap} (hZ : Z.Warmed39 s.vm) (hw : ∀ d ∈ wordsEq, d.before a0 Z = true) {kI : Nat} (wi : (Jvm.Cond.instantiable ST kI).before a0 Z = true)
    {x t : Addr} {kb : ClassId} {cs : List Int32} {cd N2 : Int32} {vs : List Value} (E : RoadKit.Exa Z h x ST) (V : RoadKit.Fld Z h x ST "value" "[B" (.ref t)) (C : RoadKit.Fld Z h x ST "coder" "B" (.int cd)) (K : RoadKit.Arv Z h t kb .byte N2 vs (.int 0)) (hc : CodA cs cd N2 vs) (hb : ∀ c ∈ cs, ¬ c < 0 ∧ ¬ (65535 : Int32) < c) (l2 : cs.length ≤ 4000)
    {y t' : Addr} {kb' : ClassId} {ds : List Int32} {cd' N2' : Int32} {vs' : List Value} (E' : RoadKit.Exa Z h y ST) (V' : RoadKit.Fld Z h y ST "value" "[B" (.ref t')) (C' : RoadKit.Fld Z h y ST "coder" "B" (.int cd')) (K' : RoadKit.Arv Z h t' kb' .byte N2' vs' (.int 0)) (hc' : CodA ds cd' N2' vs') (hb' : ∀ c ∈ ds, ¬ c < 0 ∧ ¬ (65535 : Int32) < c) (l2' : ds.length ≤ 4000)
    {z : Int32} (S : RoadKit.Sta Z h ST "COMPACT_STRINGS" "Z" (.int z)) (hz : ¬ z = 0) (hfr : 2 ≤ R.frames) (hlo : W + 28 ≤ R.locals) :
    Back l R p e below s args (⟨"java/lang/String", "equals", "(Ljava/lang/Object;)Z"⟩ : MethodName) len W (fun P a => a = #[.ref x, .ref y] ∧ P.U.heap = h ∧ P.cells + 0 ≤ R.cells ∧ P.slots + 0 ≤ R.slots)
      (fun P _ v B => ∃ L, (((v = some (.int 1) ∧ cs = ds) ∨ (v = some (.int 0) ∧ ¬ cs = ds)) ∧ L = [] ∧ B.U.heap = h) ∧ B.locs = P.locs ++ L ∧ B.cells = P.cells + 0 ∧ B.slots = P.slots + 0) := by
  intro m meth c P g ig mk a X hg hsize hdg hW hn hp'
  obtain ⟨rfl, rfl, r1, r2⟩ := hp'
  have al : Z.vm.Alike P.U.vm := hZ.alike.trans X.warmed.alike
  obtain ⟨A, hx⟩ := txt_of wi al E V C K hc hb l2
  obtain ⟨A', hy⟩ := txt_of wi al E' V' C' K' hc' hb' l2'
  obtain ⟨v, B, X', ⟨⟨w, hv, hh, hq⟩, hl, hk, hs⟩, st⟩ := SEq.pays x t A cd cs.length (fun j => cs.getD j 0) y t' A' cd' ds.length (fun j => ds.getD j 0) z (tabEq_of (movedEq hZ hw)) hfr hlo m meth c P g ig mk _ X hg hsize hdg hW hn ⟨r1, r2, rfl, hx, hy, sta_is al S, hz⟩
  refine ⟨v, B, X', ⟨[], ⟨?_, rfl, hh⟩, hl, hk, hs⟩, st⟩
  rcases hq with ⟨rfl, q⟩ | ⟨rfl, q⟩
  · exact Or.inl ⟨hv, (same_list cs ds).mp q⟩
  · exact Or.inr ⟨hv, fun e => q ((same_list cs ds).mpr e)⟩
end StrChars.Road
namespace StrChars.Road
open Jvm Sem ClassFile Op Lib Jvm.Stand Jvm.Free Jvm.Free.XT
open Jvm.Lib.Cold (StaticIs)
/-- what backV says of its String, as the contracts of this text ask it: cs's low bytes, coder 0 -/
theorem codOf {cs : List Int32} {n : Nat} (hn : cs.length = n) (hb : ∀ c ∈ cs, ¬ 255 < c) : CodA cs 0 (Int32.ofNat n) ((cs.map lo8).map Value.int) := Or.inl ⟨rfl, by rw [hn], by simp [List.map_map, Function.comp_def], hb⟩
end StrChars.Road
end Jvm.Pilot.@@N@@

namespace Jvm.Pilot.@@N@@
open Jvm Jvm.ClassFile Sem Op Lib Jvm.Free Jvm.Stand Jvm.LawKit Jvm.RoadKit Bundle Jvm.Pilot.@@N@@.Jvm.D
theorem pd_0 : parseMethodDescriptor "(Ljava/lang/Object;)Ljava/lang/Object;" = some ⟨[(.object "java/lang/Object")], some (.object "java/lang/Object")⟩ := by decide +kernel
theorem pd_1 : parseMethodDescriptor "(Ljava/lang/Object;)Z" = some ⟨[(.object "java/lang/Object")], some .boolean⟩ := by decide +kernel
theorem pd_2 : parseMethodDescriptor "([CIILjava/lang/Void;)V" = some ⟨[(.array .char), .int, .int, (.object "java/lang/Void")], none⟩ := by decide +kernel
theorem pd_3 : parseMethodDescriptor "(Ljava/lang/String;Z)V" = some ⟨[(.object "java/lang/String"), .boolean], none⟩ := by decide +kernel
theorem pd_4 : parseMethodDescriptor "(III)[C" = some ⟨[.int, .int, .int], some (.array .char)⟩ := by decide +kernel
theorem pd_5 : parseMethodDescriptor "([C)V" = some ⟨[(.array .char)], none⟩ := by decide +kernel
theorem own_ext_refl (h : Heap) : Ext h h := ⟨Nat.le_refl _, fun _ _ q => q⟩
theorem own_ext_trans {h h' h'' : Heap} (E : Ext h h') (F : Ext h' h'') : Ext h h'' := ⟨Nat.le_trans E.1 F.1, fun a c q => F.2 a c (E.2 a c q)⟩
theorem own_ext_keep {h h' h'' : Heap} {ws : List Addr} (E : Ext h h') (K : Keep h' h'' ws) (q : ∀ x ∈ ws, h.size ≤ x) : Ext h h'' := ⟨Nat.le_trans E.1 K.1, fun a c r => K.2.1 a c (E.2 a c r) fun z => absurd (Array.getElem?_eq_some_iff.mp r).1 (Nat.not_lt.mpr (q a z))⟩
theorem own_ext_wr {h h' h'' : Heap} {a : Addr} {sl : Nat} {v : Value} (E : Ext h h') (W : Wr h' h'' a sl v) (q : h.size ≤ a) : Ext h h'' := own_ext_keep E (Keep.of_wr W) (allS q all0)
theorem d1_0 : decode method_2_code 0 = .ok (.iload_n 0, 1) := by decide +kernel
theorem d1_1 : decode method_2_code 1 = .ok (.newarray .char, 2) := by decide +kernel
theorem d1_3 : decode method_2_code 3 = .ok (.astore_n 3, 1) := by decide +kernel
theorem d1_4 : decode method_2_code 4 = .ok (.iload_n 0, 1) := by decide +kernel
theorem d1_5 : decode method_2_code 5 = .ok (.ifCond .le 8, 3) := by decide +kernel
theorem d1_8 : decode method_2_code 8 = .ok (.aload_n 3, 1) := by decide +kernel
theorem d1_9 : decode method_2_code 9 = .ok (.iconst 0, 1) := by decide +kernel
theorem d1_10 : decode method_2_code 10 = .ok (.iload_n 1, 1) := by decide +kernel
theorem d1_11 : decode method_2_code 11 = .ok (.i2c, 1) := by decide +kernel
theorem d1_12 : decode method_2_code 12 = .ok (.castore, 1) := by decide +kernel
theorem d1_13 : decode method_2_code 13 = .ok (.iload_n 0, 1) := by decide +kernel
theorem d1_14 : decode method_2_code 14 = .ok (.iconst 1, 1) := by decide +kernel
theorem d1_15 : decode method_2_code 15 = .ok (.if_icmp .le 8, 3) := by decide +kernel
theorem d1_18 : decode method_2_code 18 = .ok (.aload_n 3, 1) := by decide +kernel
theorem d1_19 : decode method_2_code 19 = .ok (.iconst 1, 1) := by decide +kernel
theorem d1_20 : decode method_2_code 20 = .ok (.iload_n 2, 1) := by decide +kernel
theorem d1_21 : decode method_2_code 21 = .ok (.i2c, 1) := by decide +kernel
theorem d1_22 : decode method_2_code 22 = .ok (.castore, 1) := by decide +kernel
theorem d1_23 : decode method_2_code 23 = .ok (.aload_n 3, 1) := by decide +kernel
theorem d1_24 : decode method_2_code 24 = .ok (.areturn, 1) := by decide +kernel
theorem d6_0 : decode jdk_31_method_10_code 0 = .ok (.aload_n 0, 1) := by decide +kernel
theorem d6_1 : decode jdk_31_method_10_code 1 = .ok (.ifnonnull 11, 3) := by decide +kernel
theorem d6_4 : decode jdk_31_method_10_code 4 = .ok (.new 84, 3) := by decide +kernel
theorem d6_7 : decode jdk_31_method_10_code 7 = .ok (.dup, 1) := by decide +kernel
theorem d6_8 : decode jdk_31_method_10_code 8 = .ok (.invokespecial 86, 3) := by decide +kernel
theorem d6_11 : decode jdk_31_method_10_code 11 = .ok (.athrow, 1) := by decide +kernel
theorem d6_12 : decode jdk_31_method_10_code 12 = .ok (.aload_n 0, 1) := by decide +kernel
theorem d6_13 : decode jdk_31_method_10_code 13 = .ok (.areturn, 1) := by decide +kernel
theorem d5_0 : decode prog_18_method_1_code 0 = .ok (.aload_n 0, 1) := by decide +kernel
theorem d5_1 : decode prog_18_method_1_code 1 = .ok (.invokespecial 1, 3) := by decide +kernel
theorem d5_4 : decode prog_18_method_1_code 4 = .ok (.aload_n 0, 1) := by decide +kernel
theorem d5_5 : decode prog_18_method_1_code 5 = .ok (.aload_n 1, 1) := by decide +kernel
theorem d5_6 : decode prog_18_method_1_code 6 = .ok (.invokestatic 7, 3) := by decide +kernel
theorem d5_9 : decode prog_18_method_1_code 9 = .ok (.checkcast 13, 3) := by decide +kernel
theorem d5_12 : decode prog_18_method_1_code 12 = .ok (.putfield 15, 3) := by decide +kernel
theorem d5_15 : decode prog_18_method_1_code 15 = .ok (.aload_n 0, 1) := by decide +kernel
theorem d5_16 : decode prog_18_method_1_code 16 = .ok (.iload_n 2, 1) := by decide +kernel
theorem d5_17 : decode prog_18_method_1_code 17 = .ok (.putfield 21, 3) := by decide +kernel
theorem d5_20 : decode prog_18_method_1_code 20 = .ok (.return_, 1) := by decide +kernel
theorem d7_0 : decode prog_18_method_4_code 0 = .ok (.aload_n 1, 1) := by decide +kernel
theorem d7_1 : decode prog_18_method_4_code 1 = .ok (.instanceof 16, 3) := by decide +kernel
theorem d7_4 : decode prog_18_method_4_code 4 = .ok (.ifCond .eq 39, 3) := by decide +kernel
theorem d7_7 : decode prog_18_method_4_code 7 = .ok (.aload_n 1, 1) := by decide +kernel
theorem d7_8 : decode prog_18_method_4_code 8 = .ok (.checkcast 16, 3) := by decide +kernel
theorem d7_11 : decode prog_18_method_4_code 11 = .ok (.astore_n 2, 1) := by decide +kernel
theorem d7_12 : decode prog_18_method_4_code 12 = .ok (.aload_n 0, 1) := by decide +kernel
theorem d7_13 : decode prog_18_method_4_code 13 = .ok (.getfield 15, 3) := by decide +kernel
theorem d7_16 : decode prog_18_method_4_code 16 = .ok (.aload_n 2, 1) := by decide +kernel
theorem d7_17 : decode prog_18_method_4_code 17 = .ok (.getfield 15, 3) := by decide +kernel
theorem d7_20 : decode prog_18_method_4_code 20 = .ok (.invokevirtual 25, 3) := by decide +kernel
theorem d7_23 : decode prog_18_method_4_code 23 = .ok (.ifCond .eq 18, 3) := by decide +kernel
theorem d7_26 : decode prog_18_method_4_code 26 = .ok (.aload_n 0, 1) := by decide +kernel
theorem d7_27 : decode prog_18_method_4_code 27 = .ok (.getfield 21, 3) := by decide +kernel
theorem d7_30 : decode prog_18_method_4_code 30 = .ok (.aload_n 2, 1) := by decide +kernel
theorem d7_31 : decode prog_18_method_4_code 31 = .ok (.getfield 21, 3) := by decide +kernel
theorem d7_34 : decode prog_18_method_4_code 34 = .ok (.if_icmp .ne 7, 3) := by decide +kernel
theorem d7_37 : decode prog_18_method_4_code 37 = .ok (.iconst 1, 1) := by decide +kernel
theorem d7_38 : decode prog_18_method_4_code 38 = .ok (.goto 4, 3) := by decide +kernel
theorem d7_41 : decode prog_18_method_4_code 41 = .ok (.iconst 0, 1) := by decide +kernel
theorem d7_42 : decode prog_18_method_4_code 42 = .ok (.ireturn, 1) := by decide +kernel
theorem d7_43 : decode prog_18_method_4_code 43 = .ok (.iconst 0, 1) := by decide +kernel
theorem d7_44 : decode prog_18_method_4_code 44 = .ok (.ireturn, 1) := by decide +kernel
def own_ch (x : Int32) : Prop := ¬ x < (0 : Int32) ∧ ¬ (255 : Int32) < x
theorem own_i2c {x : Int32} (h : own_ch x) : x.toUInt32.toUInt16.toUInt32.toInt32 = x := by
  obtain ⟨h1, h2⟩ := h
  have e := c_i2c x
  have a : (0 : Int32).toInt = 0 := by decide
  have b : (255 : Int32).toInt = 255 := by decide
  rw [Int32.lt_iff_toInt_lt] at h1 h2
  exact Int32.toInt_inj.mp (by omega)
theorem own_nar {x : Int32} (h : own_ch x) : nar .char x = x := own_i2c h
theorem own_fit {x : Int32} (h : own_ch x) : fits .char (.int x) = true := by
  have q := fits_nar_char x
  rw [own_nar h] at q; exact q
def Qch (Z : State) (x0 x1 n : Int32) (vs : List Value) (h0 : Heap) (n0 : Nat) (v : Option Value) (h : Heap) (L : List Loc) : Prop := ∃ (b : Addr) (k : ClassId), v = some (.ref b) ∧ Fr n0 L ∧ Ext h0 h ∧ h0.size ≤ b ∧ Arv Z h b k .char n vs (.int (0 : Int32))
theorem pn_1 : plainName "com/example/steadyhand/steadyhand/history/RecordedExecutionEqualsPinLaw" = true := by first | (simp [plainName, overriddenIn]; done) | decide +kernel
theorem ef_rm_ch0 (m : MethodId) (x0 : Int32) (x1 : Int32) (x2 : Int32) : entryFrame m #[(.int x0), (.int x1), (.int x2)] 4 = mkF m 0 #[.val (.int x0), .val (.int x1), .val (.int x2), .unset] [] := by first | (simp [entryFrame, mkF, argsToLocals, Value.category]; done) | rfl
set_option maxRecDepth 65536 in
set_option maxHeartbeats 40000000 in
theorem rm_ch0 (l : Launch) (Z : State) (a0 : Array Value) (hw : ∀ d ∈ tables_1, d.before a0 Z = true) (ws : List Jvm.Cond) (x0 : Int32) (x1 : Int32) (h0 : Heap) (n0 : Nat) (Z0 : n0 ≤ h0.size) (c0 : own_ch x0) (c1 : own_ch x1) :
    MetFree l (⟨"com/example/steadyhand/steadyhand/history/RecordedExecutionEqualsPinLaw", "chars", "(III)[C"⟩ : MethodName) (head1 (Jvm.Cond.code (⟨"com/example/steadyhand/steadyhand/history/RecordedExecutionEqualsPinLaw", "chars", "(III)[C"⟩ : MethodName) method_2_code 4 (some (.array .char)) :: ws) ({ frames := 0, cells := 1, slots := 0, locals := 0 } : Room)) (fun a U => a = #[(.int (0 : Int32)), (.int x0), (.int x1)] ∧ Z.Warmed39 U.vm ∧ U.heap = h0) (fun _ _ _ _ _ => True) (fun _ U o U' => ∃ v L, o = .returned v ∧ Qch Z x0 x1 (0 : Int32) [] h0 n0 v U'.heap L ∧ FrameEnd U o U' L ({ frames := 0, cells := 1, slots := 0, locals := 0 } : Room).cells ({ frames := 0, cells := 1, slots := 0, locals := 0 } : Room).slots) := by
  refine MetFree.of_bodySF (plainFor_of_name pn_1) hisR ?_
  intro p e s m args below meth c s₁ Bd hml0 hP hK
  obtain ⟨rfl, hZ, hh⟩ := hP
  have hx := Bd.exec
  have hby := Bd.bytes
  have hml : c.maxLocals = 4 := hml0
  have hown : s.vm.findClass "com/example/steadyhand/steadyhand/history/RecordedExecutionEqualsPinLaw" = some m.cls := findClass_of_methodNamed Bd.named
  have hnm := (name_of_methodNamed Bd.named Bd.method).1
  have X0 : Stand p l e ({ frames := 0, cells := 1, slots := 0, locals := 0 } : Room) s m #[(.int (0 : Int32)), (.int x0), (.int x1)] below meth c s₁ [] 0 0 := Stand.of_body Bd
  have e0 : s₁.heap = h0 := by rw [← hh, Bd.state]; rfl
  have N0 := Fr.nil n0
  have pre0 : ∀ t, Steps p.tables e below (s₁.setTop (mkF m 0 #[.val (.int (0 : Int32)), .val (.int x0), .val (.int x1), .unset] [])) t → Steps p.tables e below (s₁.setTop (entryFrame m #[(.int (0 : Int32)), (.int x0), (.int x1)] 4)) t := fun t k => castTop (ef_rm_ch0 m (0 : Int32) x0 x1) k
  have O0 := own_ext_refl h0
  obtain ⟨T1, h1, k1, X1, e1, E1, A1, st1⟩ := newP X0 hx hZ (hw _ (List.mem_of_getElem? (i := 8) rfl)) e0 (g := (mkF m 1 #[.val (.int (0 : Int32)), .val (.int x0), .val (.int x1), .unset] [(.int (0 : Int32))])) rfl (hb hby d1_1) rfl (by decide) (cap := 0) (by decide) (by decide) (by decide) (by decide)
  obtain ⟨b1, g1⟩ : ∃ z, z = h0.size := ⟨_, rfl⟩
  rw [← g1] at A1 st1
  have z_b1 : h0.size ≤ b1 := Nat.le_trans O0.1 (Nat.le_of_eq g1.symm)
  have g_b1 : n0 ≤ b1 := Nat.le_trans Z0 z_b1
  have O1 := own_ext_trans O0 E1
  have V1 : Arv Z h1 b1 k1 .char (0 : Int32) [] (.int (0 : Int32)) := (Arv.new A1 (by decide)).pad (pad_rep [] (.int (0 : Int32)) 0)
  have pre2 : ∀ t, Steps p.tables e below (T1.setTop (mkF m 24 #[.val (.int (0 : Int32)), .val (.int x0), .val (.int x1), .val (.ref b1)] [(.ref b1)])) t → Steps p.tables e below (s₁.setTop (entryFrame m #[(.int (0 : Int32)), (.int x0), (.int x1)] 4)) t := fun t k => pre0 t (by
    show Steps p.tables e below (s₁.setTop (mkF m 0 #[.val (.int (0 : Int32)), .val (.int x0), .val (.int x1), .unset] [])) _
    refine XS.iloadN X0.here hx rfl (hb hby d1_0) rfl ?_
    show Steps p.tables e below (s₁.setTop (mkF m 1 #[.val (.int (0 : Int32)), .val (.int x0), .val (.int x1), .unset] [(.int (0 : Int32))])) _
    refine st1 _ ?_
    show Steps p.tables e below (T1.setTop (mkF m 3 #[.val (.int (0 : Int32)), .val (.int x0), .val (.int x1), .unset] [(.ref b1)])) _
    refine XS.astoreN X1.here hx rfl (hb hby d1_3) rfl rfl (l' := #[.val (.int (0 : Int32)), .val (.int x0), .val (.int x1), .val (.ref b1)]) rfl ?_
    show Steps p.tables e below (T1.setTop (mkF m 4 #[.val (.int (0 : Int32)), .val (.int x0), .val (.int x1), .val (.ref b1)] [])) _
    refine XS.iloadN X1.here hx rfl (hb hby d1_4) rfl ?_
    show Steps p.tables e below (T1.setTop (mkF m 5 #[.val (.int (0 : Int32)), .val (.int x0), .val (.int x1), .val (.ref b1)] [(.int (0 : Int32))])) _
    refine XS.ifYes X1.here hx rfl (pc0 := 5) (pc' := 13) rfl (hb hby d1_5) rfl ((if0 _ _).trans (flt (by decide : ¬ ((0 : Int32) < (0 : Int32)))).2.2.2) (by decide) (by decide) ?_
    show Steps p.tables e below (T1.setTop (mkF m 13 #[.val (.int (0 : Int32)), .val (.int x0), .val (.int x1), .val (.ref b1)] [])) _
    refine XS.iloadN X1.here hx rfl (hb hby d1_13) rfl ?_
    show Steps p.tables e below (T1.setTop (mkF m 14 #[.val (.int (0 : Int32)), .val (.int x0), .val (.int x1), .val (.ref b1)] [(.int (0 : Int32))])) _
    refine XT.iconstV X1.here hx rfl (1 : Int32) (hb hby d1_14) (by decide) ?_
    show Steps p.tables e below (T1.setTop (mkF m 15 #[.val (.int (0 : Int32)), .val (.int x0), .val (.int x1), .val (.ref b1)] [(.int (1 : Int32)), (.int (0 : Int32))])) _
    refine XS.icmpYes X1.here hx rfl (pc0 := 15) (pc' := 23) rfl (hb hby d1_15) rfl (flt (by decide : ¬ ((1 : Int32) < (0 : Int32)))).2.2.2 (by decide) (by decide) ?_
    show Steps p.tables e below (T1.setTop (mkF m 23 #[.val (.int (0 : Int32)), .val (.int x0), .val (.int x1), .val (.ref b1)] [])) _
    refine XS.aloadN X1.here hx rfl (hb hby d1_23) rfl rfl ?_
    exact k)
  obtain ⟨fs, hr, hrun, hended, hW, hsame⟩ := X1.leave (v := some (.ref b1)) (fun h => by rw [Bd.returns] at h; cases h)
  refine ⟨_, _, pre2 _ ?_, hrun, hended, _, _, rfl, ?_, ⟨_, rfl⟩, hW, hsame.mono (by decide) (by decide)⟩
  · show Steps p.tables e below (T1.setTop (mkF m 24 #[.val (.int (0 : Int32)), .val (.int x0), .val (.int x1), .val (.ref b1)] [(.ref b1)])) _
    exact retOut X1 hx Bd.returns rfl (Or.inr (Or.inr (Or.inr (Or.inr ⟨rfl, rfl, rfl⟩)))) (hb hby d1_24) hr
  · show Qch Z x0 x1 (0 : Int32) [] h0 n0 _ T1.heap _
    rw [e1]
    exact ⟨_, _, rfl, N0, O1, z_b1, V1⟩
theorem ef_rm_ch1 (m : MethodId) (x0 : Int32) (x1 : Int32) (x2 : Int32) : entryFrame m #[(.int x0), (.int x1), (.int x2)] 4 = mkF m 0 #[.val (.int x0), .val (.int x1), .val (.int x2), .unset] [] := by first | (simp [entryFrame, mkF, argsToLocals, Value.category]; done) | rfl
set_option maxRecDepth 65536 in
set_option maxHeartbeats 40000000 in
theorem rm_ch1 (l : Launch) (Z : State) (a0 : Array Value) (hw : ∀ d ∈ tables_1, d.before a0 Z = true) (ws : List Jvm.Cond) (x0 : Int32) (x1 : Int32) (h0 : Heap) (n0 : Nat) (Z0 : n0 ≤ h0.size) (c0 : own_ch x0) (c1 : own_ch x1) :
    MetFree l (⟨"com/example/steadyhand/steadyhand/history/RecordedExecutionEqualsPinLaw", "chars", "(III)[C"⟩ : MethodName) (head1 (Jvm.Cond.code (⟨"com/example/steadyhand/steadyhand/history/RecordedExecutionEqualsPinLaw", "chars", "(III)[C"⟩ : MethodName) method_2_code 4 (some (.array .char)) :: ws) ({ frames := 0, cells := 1, slots := 1, locals := 0 } : Room)) (fun a U => a = #[(.int (1 : Int32)), (.int x0), (.int x1)] ∧ Z.Warmed39 U.vm ∧ U.heap = h0) (fun _ _ _ _ _ => True) (fun _ U o U' => ∃ v L, o = .returned v ∧ Qch Z x0 x1 (1 : Int32) [(.int x0)] h0 n0 v U'.heap L ∧ FrameEnd U o U' L ({ frames := 0, cells := 1, slots := 1, locals := 0 } : Room).cells ({ frames := 0, cells := 1, slots := 1, locals := 0 } : Room).slots) := by
  refine MetFree.of_bodySF (plainFor_of_name pn_1) hisR ?_
  intro p e s m args below meth c s₁ Bd hml0 hP hK
  obtain ⟨rfl, hZ, hh⟩ := hP
  have hx := Bd.exec
  have hby := Bd.bytes
  have hml : c.maxLocals = 4 := hml0
  have hown : s.vm.findClass "com/example/steadyhand/steadyhand/history/RecordedExecutionEqualsPinLaw" = some m.cls := findClass_of_methodNamed Bd.named
  have hnm := (name_of_methodNamed Bd.named Bd.method).1
  have X0 : Stand p l e ({ frames := 0, cells := 1, slots := 1, locals := 0 } : Room) s m #[(.int (1 : Int32)), (.int x0), (.int x1)] below meth c s₁ [] 0 0 := Stand.of_body Bd
  have e0 : s₁.heap = h0 := by rw [← hh, Bd.state]; rfl
  have N0 := Fr.nil n0
  have pre0 : ∀ t, Steps p.tables e below (s₁.setTop (mkF m 0 #[.val (.int (1 : Int32)), .val (.int x0), .val (.int x1), .unset] [])) t → Steps p.tables e below (s₁.setTop (entryFrame m #[(.int (1 : Int32)), (.int x0), (.int x1)] 4)) t := fun t k => castTop (ef_rm_ch1 m (1 : Int32) x0 x1) k
  have O0 := own_ext_refl h0
  obtain ⟨T1, h1, k1, X1, e1, E1, A1, st1⟩ := newP X0 hx hZ (hw _ (List.mem_of_getElem? (i := 8) rfl)) e0 (g := (mkF m 1 #[.val (.int (1 : Int32)), .val (.int x0), .val (.int x1), .unset] [(.int (1 : Int32))])) rfl (hb hby d1_1) rfl (by decide) (cap := 1) (by decide) (by decide) (by decide) (by decide)
  obtain ⟨b1, g1⟩ : ∃ z, z = h0.size := ⟨_, rfl⟩
  rw [← g1] at A1 st1
  have z_b1 : h0.size ≤ b1 := Nat.le_trans O0.1 (Nat.le_of_eq g1.symm)
  have g_b1 : n0 ≤ b1 := Nat.le_trans Z0 z_b1
  have O1 := own_ext_trans O0 E1
  have V1 : Arv Z h1 b1 k1 .char (1 : Int32) [(.int (0 : Int32))] (.int (0 : Int32)) := (Arv.new A1 (by decide)).pad (pad_rep [] (.int (0 : Int32)) 1)
  obtain ⟨cl2, Ar2, q2, S2, n2', H2, G2⟩ := id V1
  have hin2 : ¬ ((0 : Int32) < 0 ∨ cl2.slots.size ≤ ((0 : Int32)).toNatClampNeg) := inb_of S2 ⟨by decide, by decide⟩
  obtain ⟨T2, h2, X2, e2, W2, st2⟩ := stC X1 hx hZ e1 Ar2 (j := (0 : Int32)) hin2 (g := (mkF m 12 #[.val (.int (1 : Int32)), .val (.int x0), .val (.int x1), .val (.ref b1)] [(.int x0), (.int (0 : Int32)), (.ref b1)])) rfl rfl (hb hby d1_12)
  rw [own_nar c0] at W2
  have V2 : Arv Z h2 b1 k1 .char (1 : Int32) [(.int x0)] (.int (0 : Int32)) := Arv.set Ar2 q2 S2 n2' H2 G2 (own_fit c0) W2 0 rfl (Nat.le_of_ble_eq_true rfl)
  have O2 := own_ext_wr O1 W2 z_b1
  have N2 := Fr.snoc X2 N0 g_b1
  have pre3 : ∀ t, Steps p.tables e below (T2.setTop (mkF m 15 #[.val (.int (1 : Int32)), .val (.int x0), .val (.int x1), .val (.ref b1)] [(.int (1 : Int32)), (.int (1 : Int32))])) t → Steps p.tables e below (s₁.setTop (entryFrame m #[(.int (1 : Int32)), (.int x0), (.int x1)] 4)) t := fun t k => pre0 t (by
    show Steps p.tables e below (s₁.setTop (mkF m 0 #[.val (.int (1 : Int32)), .val (.int x0), .val (.int x1), .unset] [])) _
    refine XS.iloadN X0.here hx rfl (hb hby d1_0) rfl ?_
    show Steps p.tables e below (s₁.setTop (mkF m 1 #[.val (.int (1 : Int32)), .val (.int x0), .val (.int x1), .unset] [(.int (1 : Int32))])) _
    refine st1 _ ?_
    show Steps p.tables e below (T1.setTop (mkF m 3 #[.val (.int (1 : Int32)), .val (.int x0), .val (.int x1), .unset] [(.ref b1)])) _
    refine XS.astoreN X1.here hx rfl (hb hby d1_3) rfl rfl (l' := #[.val (.int (1 : Int32)), .val (.int x0), .val (.int x1), .val (.ref b1)]) rfl ?_
    show Steps p.tables e below (T1.setTop (mkF m 4 #[.val (.int (1 : Int32)), .val (.int x0), .val (.int x1), .val (.ref b1)] [])) _
    refine XS.iloadN X1.here hx rfl (hb hby d1_4) rfl ?_
    show Steps p.tables e below (T1.setTop (mkF m 5 #[.val (.int (1 : Int32)), .val (.int x0), .val (.int x1), .val (.ref b1)] [(.int (1 : Int32))])) _
    refine XS.ifNo X1.here hx rfl (hb hby d1_5) rfl ((if0 _ _).trans (tlt (by decide : ((0 : Int32) < (1 : Int32)))).2.2.2) ?_
    show Steps p.tables e below (T1.setTop (mkF m 8 #[.val (.int (1 : Int32)), .val (.int x0), .val (.int x1), .val (.ref b1)] [])) _
    refine XS.aloadN X1.here hx rfl (hb hby d1_8) rfl rfl ?_
    show Steps p.tables e below (T1.setTop (mkF m 9 #[.val (.int (1 : Int32)), .val (.int x0), .val (.int x1), .val (.ref b1)] [(.ref b1)])) _
    refine XT.iconstV X1.here hx rfl (0 : Int32) (hb hby d1_9) (by decide) ?_
    show Steps p.tables e below (T1.setTop (mkF m 10 #[.val (.int (1 : Int32)), .val (.int x0), .val (.int x1), .val (.ref b1)] [(.int (0 : Int32)), (.ref b1)])) _
    refine XS.iloadN X1.here hx rfl (hb hby d1_10) rfl ?_
    show Steps p.tables e below (T1.setTop (mkF m 11 #[.val (.int (1 : Int32)), .val (.int x0), .val (.int x1), .val (.ref b1)] [(.int x0), (.int (0 : Int32)), (.ref b1)])) _
    refine XS.i2c X1.here hx rfl (hb hby d1_11) rfl ?_
    show Steps p.tables e below (T1.setTop (mkF m 12 #[.val (.int (1 : Int32)), .val (.int x0), .val (.int x1), .val (.ref b1)] [(.int (x0.toUInt32.toUInt16.toUInt32.toInt32)), (.int (0 : Int32)), (.ref b1)])) _
    refine castTop (g' := (mkF m 12 #[.val (.int (1 : Int32)), .val (.int x0), .val (.int x1), .val (.ref b1)] [(.int x0), (.int (0 : Int32)), (.ref b1)])) (by rw [own_i2c c0]) ?_
    show Steps p.tables e below (T1.setTop (mkF m 12 #[.val (.int (1 : Int32)), .val (.int x0), .val (.int x1), .val (.ref b1)] [(.int x0), (.int (0 : Int32)), (.ref b1)])) _
    refine st2 _ ?_
    show Steps p.tables e below (T2.setTop (mkF m 13 #[.val (.int (1 : Int32)), .val (.int x0), .val (.int x1), .val (.ref b1)] [])) _
    refine XS.iloadN X2.here hx rfl (hb hby d1_13) rfl ?_
    show Steps p.tables e below (T2.setTop (mkF m 14 #[.val (.int (1 : Int32)), .val (.int x0), .val (.int x1), .val (.ref b1)] [(.int (1 : Int32))])) _
    refine XT.iconstV X2.here hx rfl (1 : Int32) (hb hby d1_14) (by decide) ?_
    exact k)
  have pre4 : ∀ t, Steps p.tables e below (T2.setTop (mkF m 24 #[.val (.int (1 : Int32)), .val (.int x0), .val (.int x1), .val (.ref b1)] [(.ref b1)])) t → Steps p.tables e below (s₁.setTop (entryFrame m #[(.int (1 : Int32)), (.int x0), (.int x1)] 4)) t := fun t k => pre3 t (by
    show Steps p.tables e below (T2.setTop (mkF m 15 #[.val (.int (1 : Int32)), .val (.int x0), .val (.int x1), .val (.ref b1)] [(.int (1 : Int32)), (.int (1 : Int32))])) _
    refine XS.icmpYes X2.here hx rfl (pc0 := 15) (pc' := 23) rfl (hb hby d1_15) rfl (flt (by decide : ¬ ((1 : Int32) < (1 : Int32)))).2.2.2 (by decide) (by decide) ?_
    show Steps p.tables e below (T2.setTop (mkF m 23 #[.val (.int (1 : Int32)), .val (.int x0), .val (.int x1), .val (.ref b1)] [])) _
    refine XS.aloadN X2.here hx rfl (hb hby d1_23) rfl rfl ?_
    exact k)
  obtain ⟨fs, hr, hrun, hended, hW, hsame⟩ := X2.leave (v := some (.ref b1)) (fun h => by rw [Bd.returns] at h; cases h)
  refine ⟨_, _, pre4 _ ?_, hrun, hended, _, _, rfl, ?_, ⟨_, rfl⟩, hW, hsame.mono (by decide) (by decide)⟩
  · show Steps p.tables e below (T2.setTop (mkF m 24 #[.val (.int (1 : Int32)), .val (.int x0), .val (.int x1), .val (.ref b1)] [(.ref b1)])) _
    exact retOut X2 hx Bd.returns rfl (Or.inr (Or.inr (Or.inr (Or.inr ⟨rfl, rfl, rfl⟩)))) (hb hby d1_24) hr
  · show Qch Z x0 x1 (1 : Int32) [(.int x0)] h0 n0 _ T2.heap _
    rw [e2]
    exact ⟨_, _, rfl, N2, O2, z_b1, V2⟩
theorem ef_rm_ch2 (m : MethodId) (x0 : Int32) (x1 : Int32) (x2 : Int32) : entryFrame m #[(.int x0), (.int x1), (.int x2)] 4 = mkF m 0 #[.val (.int x0), .val (.int x1), .val (.int x2), .unset] [] := by first | (simp [entryFrame, mkF, argsToLocals, Value.category]; done) | rfl
set_option maxRecDepth 65536 in
set_option maxHeartbeats 40000000 in
theorem rm_ch2 (l : Launch) (Z : State) (a0 : Array Value) (hw : ∀ d ∈ tables_1, d.before a0 Z = true) (ws : List Jvm.Cond) (x0 : Int32) (x1 : Int32) (h0 : Heap) (n0 : Nat) (Z0 : n0 ≤ h0.size) (c0 : own_ch x0) (c1 : own_ch x1) :
    MetFree l (⟨"com/example/steadyhand/steadyhand/history/RecordedExecutionEqualsPinLaw", "chars", "(III)[C"⟩ : MethodName) (head1 (Jvm.Cond.code (⟨"com/example/steadyhand/steadyhand/history/RecordedExecutionEqualsPinLaw", "chars", "(III)[C"⟩ : MethodName) method_2_code 4 (some (.array .char)) :: ws) ({ frames := 0, cells := 1, slots := 2, locals := 0 } : Room)) (fun a U => a = #[(.int (2 : Int32)), (.int x0), (.int x1)] ∧ Z.Warmed39 U.vm ∧ U.heap = h0) (fun _ _ _ _ _ => True) (fun _ U o U' => ∃ v L, o = .returned v ∧ Qch Z x0 x1 (2 : Int32) [(.int x0), (.int x1)] h0 n0 v U'.heap L ∧ FrameEnd U o U' L ({ frames := 0, cells := 1, slots := 2, locals := 0 } : Room).cells ({ frames := 0, cells := 1, slots := 2, locals := 0 } : Room).slots) := by
  refine MetFree.of_bodySF (plainFor_of_name pn_1) hisR ?_
  intro p e s m args below meth c s₁ Bd hml0 hP hK
  obtain ⟨rfl, hZ, hh⟩ := hP
  have hx := Bd.exec
  have hby := Bd.bytes
  have hml : c.maxLocals = 4 := hml0
  have hown : s.vm.findClass "com/example/steadyhand/steadyhand/history/RecordedExecutionEqualsPinLaw" = some m.cls := findClass_of_methodNamed Bd.named
  have hnm := (name_of_methodNamed Bd.named Bd.method).1
  have X0 : Stand p l e ({ frames := 0, cells := 1, slots := 2, locals := 0 } : Room) s m #[(.int (2 : Int32)), (.int x0), (.int x1)] below meth c s₁ [] 0 0 := Stand.of_body Bd
  have e0 : s₁.heap = h0 := by rw [← hh, Bd.state]; rfl
  have N0 := Fr.nil n0
  have pre0 : ∀ t, Steps p.tables e below (s₁.setTop (mkF m 0 #[.val (.int (2 : Int32)), .val (.int x0), .val (.int x1), .unset] [])) t → Steps p.tables e below (s₁.setTop (entryFrame m #[(.int (2 : Int32)), (.int x0), (.int x1)] 4)) t := fun t k => castTop (ef_rm_ch2 m (2 : Int32) x0 x1) k
  have O0 := own_ext_refl h0
  obtain ⟨T1, h1, k1, X1, e1, E1, A1, st1⟩ := newP X0 hx hZ (hw _ (List.mem_of_getElem? (i := 8) rfl)) e0 (g := (mkF m 1 #[.val (.int (2 : Int32)), .val (.int x0), .val (.int x1), .unset] [(.int (2 : Int32))])) rfl (hb hby d1_1) rfl (by decide) (cap := 2) (by decide) (by decide) (by decide) (by decide)
  obtain ⟨b1, g1⟩ : ∃ z, z = h0.size := ⟨_, rfl⟩
  rw [← g1] at A1 st1
  have z_b1 : h0.size ≤ b1 := Nat.le_trans O0.1 (Nat.le_of_eq g1.symm)
  have g_b1 : n0 ≤ b1 := Nat.le_trans Z0 z_b1
  have O1 := own_ext_trans O0 E1
  have V1 : Arv Z h1 b1 k1 .char (2 : Int32) [(.int (0 : Int32)), (.int (0 : Int32))] (.int (0 : Int32)) := (Arv.new A1 (by decide)).pad (pad_rep [] (.int (0 : Int32)) 2)
  obtain ⟨cl2, Ar2, q2, S2, n2', H2, G2⟩ := id V1
  have hin2 : ¬ ((0 : Int32) < 0 ∨ cl2.slots.size ≤ ((0 : Int32)).toNatClampNeg) := inb_of S2 ⟨by decide, by decide⟩
  obtain ⟨T2, h2, X2, e2, W2, st2⟩ := stC X1 hx hZ e1 Ar2 (j := (0 : Int32)) hin2 (g := (mkF m 12 #[.val (.int (2 : Int32)), .val (.int x0), .val (.int x1), .val (.ref b1)] [(.int x0), (.int (0 : Int32)), (.ref b1)])) rfl rfl (hb hby d1_12)
  rw [own_nar c0] at W2
  have V2 : Arv Z h2 b1 k1 .char (2 : Int32) [(.int x0), (.int (0 : Int32))] (.int (0 : Int32)) := Arv.set Ar2 q2 S2 n2' H2 G2 (own_fit c0) W2 0 rfl (Nat.le_of_ble_eq_true rfl)
  have O2 := own_ext_wr O1 W2 z_b1
  have N2 := Fr.snoc X2 N0 g_b1
  have pre3 : ∀ t, Steps p.tables e below (T2.setTop (mkF m 15 #[.val (.int (2 : Int32)), .val (.int x0), .val (.int x1), .val (.ref b1)] [(.int (1 : Int32)), (.int (2 : Int32))])) t → Steps p.tables e below (s₁.setTop (entryFrame m #[(.int (2 : Int32)), (.int x0), (.int x1)] 4)) t := fun t k => pre0 t (by
    show Steps p.tables e below (s₁.setTop (mkF m 0 #[.val (.int (2 : Int32)), .val (.int x0), .val (.int x1), .unset] [])) _
    refine XS.iloadN X0.here hx rfl (hb hby d1_0) rfl ?_
    show Steps p.tables e below (s₁.setTop (mkF m 1 #[.val (.int (2 : Int32)), .val (.int x0), .val (.int x1), .unset] [(.int (2 : Int32))])) _
    refine st1 _ ?_
    show Steps p.tables e below (T1.setTop (mkF m 3 #[.val (.int (2 : Int32)), .val (.int x0), .val (.int x1), .unset] [(.ref b1)])) _
    refine XS.astoreN X1.here hx rfl (hb hby d1_3) rfl rfl (l' := #[.val (.int (2 : Int32)), .val (.int x0), .val (.int x1), .val (.ref b1)]) rfl ?_
    show Steps p.tables e below (T1.setTop (mkF m 4 #[.val (.int (2 : Int32)), .val (.int x0), .val (.int x1), .val (.ref b1)] [])) _
    refine XS.iloadN X1.here hx rfl (hb hby d1_4) rfl ?_
    show Steps p.tables e below (T1.setTop (mkF m 5 #[.val (.int (2 : Int32)), .val (.int x0), .val (.int x1), .val (.ref b1)] [(.int (2 : Int32))])) _
    refine XS.ifNo X1.here hx rfl (hb hby d1_5) rfl ((if0 _ _).trans (tlt (by decide : ((0 : Int32) < (2 : Int32)))).2.2.2) ?_
    show Steps p.tables e below (T1.setTop (mkF m 8 #[.val (.int (2 : Int32)), .val (.int x0), .val (.int x1), .val (.ref b1)] [])) _
    refine XS.aloadN X1.here hx rfl (hb hby d1_8) rfl rfl ?_
    show Steps p.tables e below (T1.setTop (mkF m 9 #[.val (.int (2 : Int32)), .val (.int x0), .val (.int x1), .val (.ref b1)] [(.ref b1)])) _
    refine XT.iconstV X1.here hx rfl (0 : Int32) (hb hby d1_9) (by decide) ?_
    show Steps p.tables e below (T1.setTop (mkF m 10 #[.val (.int (2 : Int32)), .val (.int x0), .val (.int x1), .val (.ref b1)] [(.int (0 : Int32)), (.ref b1)])) _
    refine XS.iloadN X1.here hx rfl (hb hby d1_10) rfl ?_
    show Steps p.tables e below (T1.setTop (mkF m 11 #[.val (.int (2 : Int32)), .val (.int x0), .val (.int x1), .val (.ref b1)] [(.int x0), (.int (0 : Int32)), (.ref b1)])) _
    refine XS.i2c X1.here hx rfl (hb hby d1_11) rfl ?_
    show Steps p.tables e below (T1.setTop (mkF m 12 #[.val (.int (2 : Int32)), .val (.int x0), .val (.int x1), .val (.ref b1)] [(.int (x0.toUInt32.toUInt16.toUInt32.toInt32)), (.int (0 : Int32)), (.ref b1)])) _
    refine castTop (g' := (mkF m 12 #[.val (.int (2 : Int32)), .val (.int x0), .val (.int x1), .val (.ref b1)] [(.int x0), (.int (0 : Int32)), (.ref b1)])) (by rw [own_i2c c0]) ?_
    show Steps p.tables e below (T1.setTop (mkF m 12 #[.val (.int (2 : Int32)), .val (.int x0), .val (.int x1), .val (.ref b1)] [(.int x0), (.int (0 : Int32)), (.ref b1)])) _
    refine st2 _ ?_
    show Steps p.tables e below (T2.setTop (mkF m 13 #[.val (.int (2 : Int32)), .val (.int x0), .val (.int x1), .val (.ref b1)] [])) _
    refine XS.iloadN X2.here hx rfl (hb hby d1_13) rfl ?_
    show Steps p.tables e below (T2.setTop (mkF m 14 #[.val (.int (2 : Int32)), .val (.int x0), .val (.int x1), .val (.ref b1)] [(.int (2 : Int32))])) _
    refine XT.iconstV X2.here hx rfl (1 : Int32) (hb hby d1_14) (by decide) ?_
    exact k)
  obtain ⟨cl4, Ar4, q4, S4, n4', H4, G4⟩ := id V2
  have hin4 : ¬ ((1 : Int32) < 0 ∨ cl4.slots.size ≤ ((1 : Int32)).toNatClampNeg) := inb_of S4 ⟨by decide, by decide⟩
  obtain ⟨T4, h4, X4, e4, W4, st4⟩ := stC X2 hx hZ e2 Ar4 (j := (1 : Int32)) hin4 (g := (mkF m 22 #[.val (.int (2 : Int32)), .val (.int x0), .val (.int x1), .val (.ref b1)] [(.int x1), (.int (1 : Int32)), (.ref b1)])) rfl rfl (hb hby d1_22)
  rw [own_nar c1] at W4
  have V4 : Arv Z h4 b1 k1 .char (2 : Int32) [(.int x0), (.int x1)] (.int (0 : Int32)) := Arv.set Ar4 q4 S4 n4' H4 G4 (own_fit c1) W4 1 rfl (Nat.le_of_ble_eq_true rfl)
  have O4 := own_ext_wr O2 W4 z_b1
  have N4 := Fr.snoc X4 N2 g_b1
  have pre5 : ∀ t, Steps p.tables e below (T4.setTop (mkF m 24 #[.val (.int (2 : Int32)), .val (.int x0), .val (.int x1), .val (.ref b1)] [(.ref b1)])) t → Steps p.tables e below (s₁.setTop (entryFrame m #[(.int (2 : Int32)), (.int x0), (.int x1)] 4)) t := fun t k => pre3 t (by
    show Steps p.tables e below (T2.setTop (mkF m 15 #[.val (.int (2 : Int32)), .val (.int x0), .val (.int x1), .val (.ref b1)] [(.int (1 : Int32)), (.int (2 : Int32))])) _
    refine XS.icmpNo X2.here hx rfl (hb hby d1_15) rfl (tlt (by decide : ((1 : Int32) < (2 : Int32)))).2.2.2 ?_
    show Steps p.tables e below (T2.setTop (mkF m 18 #[.val (.int (2 : Int32)), .val (.int x0), .val (.int x1), .val (.ref b1)] [])) _
    refine XS.aloadN X2.here hx rfl (hb hby d1_18) rfl rfl ?_
    show Steps p.tables e below (T2.setTop (mkF m 19 #[.val (.int (2 : Int32)), .val (.int x0), .val (.int x1), .val (.ref b1)] [(.ref b1)])) _
    refine XT.iconstV X2.here hx rfl (1 : Int32) (hb hby d1_19) (by decide) ?_
    show Steps p.tables e below (T2.setTop (mkF m 20 #[.val (.int (2 : Int32)), .val (.int x0), .val (.int x1), .val (.ref b1)] [(.int (1 : Int32)), (.ref b1)])) _
    refine XS.iloadN X2.here hx rfl (hb hby d1_20) rfl ?_
    show Steps p.tables e below (T2.setTop (mkF m 21 #[.val (.int (2 : Int32)), .val (.int x0), .val (.int x1), .val (.ref b1)] [(.int x1), (.int (1 : Int32)), (.ref b1)])) _
    refine XS.i2c X2.here hx rfl (hb hby d1_21) rfl ?_
    show Steps p.tables e below (T2.setTop (mkF m 22 #[.val (.int (2 : Int32)), .val (.int x0), .val (.int x1), .val (.ref b1)] [(.int (x1.toUInt32.toUInt16.toUInt32.toInt32)), (.int (1 : Int32)), (.ref b1)])) _
    refine castTop (g' := (mkF m 22 #[.val (.int (2 : Int32)), .val (.int x0), .val (.int x1), .val (.ref b1)] [(.int x1), (.int (1 : Int32)), (.ref b1)])) (by rw [own_i2c c1]) ?_
    show Steps p.tables e below (T2.setTop (mkF m 22 #[.val (.int (2 : Int32)), .val (.int x0), .val (.int x1), .val (.ref b1)] [(.int x1), (.int (1 : Int32)), (.ref b1)])) _
    refine st4 _ ?_
    show Steps p.tables e below (T4.setTop (mkF m 23 #[.val (.int (2 : Int32)), .val (.int x0), .val (.int x1), .val (.ref b1)] [])) _
    refine XS.aloadN X4.here hx rfl (hb hby d1_23) rfl rfl ?_
    exact k)
  obtain ⟨fs, hr, hrun, hended, hW, hsame⟩ := X4.leave (v := some (.ref b1)) (fun h => by rw [Bd.returns] at h; cases h)
  refine ⟨_, _, pre5 _ ?_, hrun, hended, _, _, rfl, ?_, ⟨_, rfl⟩, hW, hsame.mono (by decide) (by decide)⟩
  · show Steps p.tables e below (T4.setTop (mkF m 24 #[.val (.int (2 : Int32)), .val (.int x0), .val (.int x1), .val (.ref b1)] [(.ref b1)])) _
    exact retOut X4 hx Bd.returns rfl (Or.inr (Or.inr (Or.inr (Or.inr ⟨rfl, rfl, rfl⟩)))) (hb hby d1_24) hr
  · show Qch Z x0 x1 (2 : Int32) [(.int x0), (.int x1)] h0 n0 _ T4.heap _
    rw [e4]
    exact ⟨_, _, rfl, N4, O4, z_b1, V4⟩
def Qrq (Z : State) (r1 : Addr) (h0 : Heap) (n0 : Nat) (v : Option Value) (h : Heap) (L : List Loc) : Prop := v = some (.ref r1) ∧ Fr n0 L ∧ h = h0
theorem pn_6 : plainName "java/util/Objects" = true := by first | (simp [plainName, overriddenIn]; done) | decide +kernel
theorem ef_rm_rq (m : MethodId) (x0 : Addr) : entryFrame m #[(.ref x0)] 1 = mkF m 0 #[.val (.ref x0)] [] := by first | (simp [entryFrame, mkF, argsToLocals, Value.category]; done) | rfl
set_option maxRecDepth 65536 in
set_option maxHeartbeats 40000000 in
theorem rm_rq (l : Launch) (Z : State) (a0 : Array Value) (hw : ∀ d ∈ tables_1, d.before a0 Z = true) (ws : List Jvm.Cond) (r1 : Addr) (h0 : Heap) (n0 : Nat) (Z0 : n0 ≤ h0.size)  :
    MetFree l (⟨"java/util/Objects", "requireNonNull", "(Ljava/lang/Object;)Ljava/lang/Object;"⟩ : MethodName) (head1 (Jvm.Cond.code (⟨"java/util/Objects", "requireNonNull", "(Ljava/lang/Object;)Ljava/lang/Object;"⟩ : MethodName) jdk_31_method_10_code 1 (some (.object "java/lang/Object")) :: ws) ({ frames := 0, cells := 0, slots := 0, locals := 0 } : Room)) (fun a U => a = #[(.ref r1)] ∧ Z.Warmed39 U.vm ∧ U.heap = h0) (fun _ _ _ _ _ => True) (fun _ U o U' => ∃ v L, o = .returned v ∧ Qrq Z r1  h0 n0 v U'.heap L ∧ FrameEnd U o U' L ({ frames := 0, cells := 0, slots := 0, locals := 0 } : Room).cells ({ frames := 0, cells := 0, slots := 0, locals := 0 } : Room).slots) := by
  refine MetFree.of_bodySF (plainFor_of_name pn_6) hisR ?_
  intro p e s m args below meth c s₁ Bd hml0 hP hK
  obtain ⟨rfl, hZ, hh⟩ := hP
  have hx := Bd.exec
  have hby := Bd.bytes
  have hml : c.maxLocals = 1 := hml0
  have hown : s.vm.findClass "java/util/Objects" = some m.cls := findClass_of_methodNamed Bd.named
  have hnm := (name_of_methodNamed Bd.named Bd.method).1
  have X0 : Stand p l e ({ frames := 0, cells := 0, slots := 0, locals := 0 } : Room) s m #[(.ref r1)] below meth c s₁ [] 0 0 := Stand.of_body Bd
  have e0 : s₁.heap = h0 := by rw [← hh, Bd.state]; rfl
  have N0 := Fr.nil n0
  have pre0 : ∀ t, Steps p.tables e below (s₁.setTop (mkF m 0 #[.val (.ref r1)] [])) t → Steps p.tables e below (s₁.setTop (entryFrame m #[(.ref r1)] 1)) t := fun t k => castTop (ef_rm_rq m r1) k
  have pre1 : ∀ t, Steps p.tables e below (s₁.setTop (mkF m 13 #[.val (.ref r1)] [(.ref r1)])) t → Steps p.tables e below (s₁.setTop (entryFrame m #[(.ref r1)] 1)) t := fun t k => pre0 t (by
    show Steps p.tables e below (s₁.setTop (mkF m 0 #[.val (.ref r1)] [])) _
    refine XS.aloadN X0.here hx rfl (hb hby d6_0) rfl rfl ?_
    show Steps p.tables e below (s₁.setTop (mkF m 1 #[.val (.ref r1)] [(.ref r1)])) _
    refine XS.ifnonnullYes X0.here hx rfl (pc0 := 1) (pc' := 12) rfl (hb hby d6_1) rfl (by decide) (by decide) ?_
    show Steps p.tables e below (s₁.setTop (mkF m 12 #[.val (.ref r1)] [])) _
    refine XS.aloadN X0.here hx rfl (hb hby d6_12) rfl rfl ?_
    exact k)
  obtain ⟨fs, hr, hrun, hended, hW, hsame⟩ := X0.leave (v := some (.ref r1)) (fun h => by rw [Bd.returns] at h; cases h)
  refine ⟨_, _, pre1 _ ?_, hrun, hended, _, _, rfl, ?_, ⟨_, rfl⟩, hW, hsame.mono (by decide) (by decide)⟩
  · show Steps p.tables e below (s₁.setTop (mkF m 13 #[.val (.ref r1)] [(.ref r1)])) _
    exact retOut X0 hx Bd.returns rfl (Or.inr (Or.inr (Or.inr (Or.inr ⟨rfl, rfl, rfl⟩)))) (hb hby d6_13) hr
  · show Qrq Z r1  h0 n0 _ s₁.heap _
    rw [e0]
    exact ⟨rfl, N0, rfl⟩
def own_bo (b : Int32) : Prop := b = (0 : Int32) ∨ b = (1 : Int32)
theorem own_nb {b : Int32} (h : own_bo b) : narrow .boolean (.int b) = .int b := by rcases h with rfl | rfl <;> rfl
theorem own_fb {b : Int32} (h : own_bo b) : fits .boolean (.int b) = true := by rcases h with rfl | rfl <;> rfl
def Qri (Z : State) (r1 k1 : Addr) (p1 : Int32) (h0 : Heap) (n0 : Nat) (v : Option Value) (h : Heap) (L : List Loc) : Prop := v = none ∧ Fr n0 L ∧ Keep h0 h [r1] ∧ Exa Z h r1 "com/example/steadyhand/steadyhand/history/RecordedExecution" ∧ Fld Z h r1 "com/example/steadyhand/steadyhand/history/RecordedExecution" "key" "Ljava/lang/String;" (.ref k1) ∧ Fld Z h r1 "com/example/steadyhand/steadyhand/history/RecordedExecution" "passed" "Z" (.int p1)
theorem pn_5 : plainName "com/example/steadyhand/steadyhand/history/RecordedExecution" = true := by first | (simp [plainName, overriddenIn]; done) | decide +kernel
theorem ef_rm_ri (m : MethodId) (x0 : Addr) (x1 : Addr) (x2 : Int32) : entryFrame m #[(.ref x0), (.ref x1), (.int x2)] 3 = mkF m 0 #[.val (.ref x0), .val (.ref x1), .val (.int x2)] [] := by first | (simp [entryFrame, mkF, argsToLocals, Value.category]; done) | rfl
set_option maxRecDepth 65536 in
set_option maxHeartbeats 40000000 in
theorem rm_ri (l : Launch) (Z : State) (a0 : Array Value) (hw : ∀ d ∈ tables_1, d.before a0 Z = true) (ws : List Jvm.Cond) (r1 : Addr) (k1 : Addr) (p1 : Int32) (h0 : Heap) (n0 : Nat) (Z0 : n0 ≤ h0.size) (E1 : Exa Z h0 r1 "com/example/steadyhand/steadyhand/history/RecordedExecution") (F1 : Fld Z h0 r1 "com/example/steadyhand/steadyhand/history/RecordedExecution" "key" "Ljava/lang/String;" .null) (F2 : Fld Z h0 r1 "com/example/steadyhand/steadyhand/history/RecordedExecution" "passed" "Z" (.int (0 : Int32))) (g1 : n0 ≤ r1) (Ek : Exa Z h0 k1 "java/lang/String") (hb1 : own_bo p1) :
    MetFree l (⟨"com/example/steadyhand/steadyhand/history/RecordedExecution", "<init>", "(Ljava/lang/String;Z)V"⟩ : MethodName) (head1 (Jvm.Cond.code (⟨"com/example/steadyhand/steadyhand/history/RecordedExecution", "<init>", "(Ljava/lang/String;Z)V"⟩ : MethodName) prog_18_method_1_code 3 none :: ws) ({ frames := 1, cells := 0, slots := 0, locals := 14 } : Room)) (fun a U => a = #[(.ref r1), (.ref k1), (.int p1)] ∧ Z.Warmed39 U.vm ∧ U.heap = h0) (fun _ _ _ _ _ => True) (fun _ U o U' => ∃ v L, o = .returned v ∧ Qri Z r1 k1 p1  h0 n0 v U'.heap L ∧ FrameEnd U o U' L ({ frames := 1, cells := 0, slots := 0, locals := 14 } : Room).cells ({ frames := 1, cells := 0, slots := 0, locals := 14 } : Room).slots) := by
  refine MetFree.of_bodySF (plainFor_of_name pn_5) hisR ?_
  intro p e s m args below meth c s₁ Bd hml0 hP hK
  obtain ⟨rfl, hZ, hh⟩ := hP
  have hx := Bd.exec
  have hby := Bd.bytes
  have hml : c.maxLocals = 3 := hml0
  have hown : s.vm.findClass "com/example/steadyhand/steadyhand/history/RecordedExecution" = some m.cls := findClass_of_methodNamed Bd.named
  have hnm := (name_of_methodNamed Bd.named Bd.method).1
  have X0 : Stand p l e ({ frames := 1, cells := 0, slots := 0, locals := 14 } : Room) s m #[(.ref r1), (.ref k1), (.int p1)] below meth c s₁ [] 0 0 := Stand.of_body Bd
  have e0 : s₁.heap = h0 := by rw [← hh, Bd.state]; rfl
  have N0 := Fr.nil n0
  have pre0 : ∀ t, Steps p.tables e below (s₁.setTop (mkF m 0 #[.val (.ref r1), .val (.ref k1), .val (.int p1)] [])) t → Steps p.tables e below (s₁.setTop (entryFrame m #[(.ref r1), (.ref k1), (.int p1)] 3)) t := fun t k => castTop (ef_rm_ri m r1 k1 p1) k
  obtain ⟨T1, X1, e1, st1⟩ := initO X0 hx hZ hown (hw _ (List.mem_of_getElem? (i := 33) rfl)) (hw _ (List.mem_of_getElem? (i := 17) rfl)) (hw _ (List.mem_of_getElem? (i := 18) rfl)) e0 (g := (mkF m 1 #[.val (.ref r1), .val (.ref k1), .val (.int p1)] [(.ref r1)])) rfl (by rw [hml]; rfl) rfl (hb hby d5_1) (by decide) (W := 0) (by show 2 * 0 + _ ≤ _; exact Nat.le_of_eq rfl) (by decide)
  obtain ⟨_, _, ⟨T2, L2, k2, n2⟩, -, X2, ⟨Lc2, hQ2, l2, y2, z2⟩, st2⟩ := Jvm.LawKit.callS X1 hx (y := (⟨"java/util/Objects", "requireNonNull", "(Ljava/lang/Object;)Ljava/lang/Object;"⟩ : MethodName)) hown (mvT hZ (hw _ (List.mem_of_getElem? (i := 34) rfl))) (mvT hZ (hw _ (List.mem_of_getElem? (i := 35) rfl))) (mvT hZ (hw _ (List.mem_of_getElem? (i := 36) rfl))) (mvT hZ (hw _ (List.mem_of_getElem? (i := 37) rfl))) (by decide) (backOf (W := 1) (rm_rq l Z a0 hw [] k1 h0 n0 Z0) hZ (hw _ (List.mem_of_getElem? (i := 37) rfl)) (hw _ (List.mem_of_getElem? (i := 36) rfl)) (by decide) (by decide)) (g := (mkF m 6 #[.val (.ref r1), .val (.ref k1), .val (.int p1)] [(.ref k1), (.ref r1)])) rfl (by rw [hml]; rfl) (argsL := [(.ref k1)]) (rest := [(.ref r1)]) (lenOf pd_0 rfl) rfl (by show 2 * 0 + _ ≤ _; exact Nat.le_of_eq rfl) (hb hby d5_6) (fun _ _ => ⟨rfl, e1, (by decide : 0 + 0 ≤ _), (by decide : 0 + 0 ≤ _)⟩)
  dsimp only [Pt.U, Pt.locs, Pt.cells, Pt.slots] at X2 l2 y2 z2 st2 hQ2
  rw [y2, z2] at X2
  obtain ⟨rfl, N2q, e2⟩ := hQ2
  have N2 : Fr n0 L2 := by rw [l2]; exact Fr.app N0 N2q
  obtain ⟨T3, X3, e3, st3⟩ := castY X2 hx hZ hown (hw _ (List.mem_of_getElem? (i := 38) rfl)) e2 (Ins.self Ek) (g := (mkF m 9 #[.val (.ref r1), .val (.ref k1), .val (.int p1)] [(.ref k1), (.ref r1)])) rfl rfl (hb hby d5_9)
  obtain ⟨T4, h4, X4, e4, W4, st4⟩ := putF X3 hx hZ hown (host := "") (Or.inl (hw _ (List.mem_of_getElem? (i := 39) rfl))) Via.refl e3 F1 E1 (Or.inr ⟨(hw _ (List.mem_of_getElem? (i := 40) rfl)), rfl, hnm⟩) (hw _ (List.mem_of_getElem? (i := 28) rfl)) (ty := (.object "java/lang/String")) (by decide) rfl rfl (g := (mkF m 12 #[.val (.ref r1), .val (.ref k1), .val (.int p1)] [(.ref k1), (.ref r1)])) rfl rfl (hb hby d5_12)
  have E4_r1 := E1.wr W4
  have F4_r1_key := F1.same W4
  have F4_r1_passed := F2.other W4 (Or.inr (slot_ne (Or.inr (hw _ (List.mem_of_getElem? (i := 42) rfl))) (Or.inr (hw _ (List.mem_of_getElem? (i := 40) rfl))) (by decide) (t := .boolean) (t' := (.object "java/lang/String")) (by decide) (by decide)))
  have K4 : Keep h0 h4 [r1] := (Keep.refl h0 [r1]).wr W4 (Or.inl (List.mem_of_getElem? (i := 0) rfl))
  have N4 := Fr.snoc X4 N2 g1
  obtain ⟨T5, h5, X5, e5, W5, st5⟩ := putFN X4 hx hZ hown (hw _ (List.mem_of_getElem? (i := 41) rfl)) Via.refl e4 F4_r1_passed E4_r1 (Or.inr ⟨(hw _ (List.mem_of_getElem? (i := 42) rfl)), rfl, hnm⟩) (hw _ (List.mem_of_getElem? (i := 28) rfl)) (ty := .boolean) (v' := (.int p1)) (by decide) (own_nb hb1) (own_fb hb1) (g := (mkF m 17 #[.val (.ref r1), .val (.ref k1), .val (.int p1)] [(.int p1), (.ref r1)])) rfl rfl (hb hby d5_17)
  have E5_r1 := E4_r1.wr W5
  have F5_r1_key := F4_r1_key.other W5 (Or.inr (slot_ne (Or.inr (hw _ (List.mem_of_getElem? (i := 40) rfl))) (Or.inr (hw _ (List.mem_of_getElem? (i := 42) rfl))) (by decide) (t := (.object "java/lang/String")) (t' := .boolean) (by decide) (by decide)))
  have F5_r1_passed := F4_r1_passed.same W5
  have K5 : Keep h0 h5 [r1] := K4.wr W5 (Or.inl (List.mem_of_getElem? (i := 0) rfl))
  have N5 := Fr.snoc X5 N4 g1
  have pre6 : ∀ t, Steps p.tables e below (T5.setTop (mkF m 20 #[.val (.ref r1), .val (.ref k1), .val (.int p1)] [])) t → Steps p.tables e below (s₁.setTop (entryFrame m #[(.ref r1), (.ref k1), (.int p1)] 3)) t := fun t k => pre0 t (by
    show Steps p.tables e below (s₁.setTop (mkF m 0 #[.val (.ref r1), .val (.ref k1), .val (.int p1)] [])) _
    refine XS.aloadN X0.here hx rfl (hb hby d5_0) rfl rfl ?_
    show Steps p.tables e below (s₁.setTop (mkF m 1 #[.val (.ref r1), .val (.ref k1), .val (.int p1)] [(.ref r1)])) _
    refine st1 _ ?_
    show Steps p.tables e below (T1.setTop (mkF m 4 #[.val (.ref r1), .val (.ref k1), .val (.int p1)] [])) _
    refine XS.aloadN X1.here hx rfl (hb hby d5_4) rfl rfl ?_
    show Steps p.tables e below (T1.setTop (mkF m 5 #[.val (.ref r1), .val (.ref k1), .val (.int p1)] [(.ref r1)])) _
    refine XS.aloadN X1.here hx rfl (hb hby d5_5) rfl rfl ?_
    show Steps p.tables e below (T1.setTop (mkF m 6 #[.val (.ref r1), .val (.ref k1), .val (.int p1)] [(.ref k1), (.ref r1)])) _
    refine st2 _ ?_
    show Steps p.tables e below (T2.setTop (mkF m 9 #[.val (.ref r1), .val (.ref k1), .val (.int p1)] [(.ref k1), (.ref r1)])) _
    refine st3 _ ?_
    show Steps p.tables e below (T3.setTop (mkF m 12 #[.val (.ref r1), .val (.ref k1), .val (.int p1)] [(.ref k1), (.ref r1)])) _
    refine st4 _ ?_
    show Steps p.tables e below (T4.setTop (mkF m 15 #[.val (.ref r1), .val (.ref k1), .val (.int p1)] [])) _
    refine XS.aloadN X4.here hx rfl (hb hby d5_15) rfl rfl ?_
    show Steps p.tables e below (T4.setTop (mkF m 16 #[.val (.ref r1), .val (.ref k1), .val (.int p1)] [(.ref r1)])) _
    refine XS.iloadN X4.here hx rfl (hb hby d5_16) rfl ?_
    show Steps p.tables e below (T4.setTop (mkF m 17 #[.val (.ref r1), .val (.ref k1), .val (.int p1)] [(.int p1), (.ref r1)])) _
    refine st5 _ ?_
    exact k)
  obtain ⟨fs, hr, hrun, hended, hW, hsame⟩ := X5.leave (v := none) (fun _ => rfl)
  refine ⟨_, _, pre6 _ ?_, hrun, hended, _, _, rfl, ?_, ⟨_, rfl⟩, hW, hsame.mono (by decide) (by decide)⟩
  · show Steps p.tables e below (T5.setTop (mkF m 20 #[.val (.ref r1), .val (.ref k1), .val (.int p1)] [])) _
    exact X5.returnOut hx Bd.returns (hb hby d5_20) hr
  · show Qri Z r1 k1 p1  h0 n0 _ T5.heap _
    rw [e5]
    exact ⟨rfl, N5, K5, E5_r1, F5_r1_key, F5_r1_passed⟩
def own_eq (cs ds : List Int32) (a b : Int32) : Int32 := if cs = ds then (if a = b then (1 : Int32) else (0 : Int32)) else (0 : Int32)
def Qeq (Z : State) (r1 r2 : Addr) (res : Int32) (h0 : Heap) (n0 : Nat) (v : Option Value) (h : Heap) (L : List Loc) : Prop := v = some (.int res) ∧ Fr n0 L ∧ h = h0
def own_str (Z : State) (h : Heap) (a : Addr) (cs : List Int32) : Prop := Exa Z h a "java/lang/String" ∧ Fld Z h a "java/lang/String" "coder" "B" (.int (0 : Int32)) ∧ (∀ c ∈ cs, own_ch c) ∧ cs.length ≤ 4000 ∧ ∃ (t : Addr) (kb : ClassId) (N : Int32) (vs : List Value), Fld Z h a "java/lang/String" "value" "[B" (.ref t) ∧ Arv Z h t kb .byte N vs (.int (0 : Int32)) ∧ StrChars.Road.CodA cs 0 N vs
theorem own_up {cs : List Int32} (h : ∀ c ∈ cs, own_ch c) : ∀ c ∈ cs, ¬ c < 0 ∧ ¬ (65535 : Int32) < c := fun c hc => ⟨(h c hc).1, fun q => (h c hc).2 (by rw [Int32.lt_iff_toInt_lt] at q ⊢; have e1 : (65535 : Int32).toInt = 65535 := (by decide); have e2 : (255 : Int32).toInt = 255 := (by decide); omega)⟩
theorem own_str.ext {Z : State} {h h' : Heap} {a : Addr} {cs : List Int32} (S : own_str Z h a cs) (E : Ext h h') : own_str Z h' a cs := by
  obtain ⟨s1, s2, s3, s4, t, kb, N, vs, s5, s6, s7⟩ := S
  exact ⟨s1.ext E, s2.ext E, s3, s4, t, kb, N, vs, s5.ext E, s6.ext E, s7⟩
theorem pn_7 : plainName "com/example/steadyhand/steadyhand/history/RecordedExecution" = true := by first | (simp [plainName, overriddenIn]; done) | decide +kernel
theorem ef_rm_eq (m : MethodId) (x0 : Addr) (x1 : Addr) : entryFrame m #[(.ref x0), (.ref x1)] 3 = mkF m 0 #[.val (.ref x0), .val (.ref x1), .unset] [] := by first | (simp [entryFrame, mkF, argsToLocals, Value.category]; done) | rfl
set_option maxRecDepth 65536 in
set_option maxHeartbeats 40000000 in
theorem rm_eq (l : Launch) (Z : State) (a0 : Array Value) (hw : ∀ d ∈ tables_1, d.before a0 Z = true) (ws : List Jvm.Cond) (r1 : Addr) (r2 : Addr) (h0 : Heap) (n0 : Nat) (Z0 : n0 ≤ h0.size) (E1 : Exa Z h0 r1 "com/example/steadyhand/steadyhand/history/RecordedExecution") (E2 : Exa Z h0 r2 "com/example/steadyhand/steadyhand/history/RecordedExecution") (k1 k2 : Addr) (b1 b2 : Int32) (F1 : Fld Z h0 r1 "com/example/steadyhand/steadyhand/history/RecordedExecution" "key" "Ljava/lang/String;" (.ref k1)) (F2 : Fld Z h0 r2 "com/example/steadyhand/steadyhand/history/RecordedExecution" "key" "Ljava/lang/String;" (.ref k2)) (P1 : Fld Z h0 r1 "com/example/steadyhand/steadyhand/history/RecordedExecution" "passed" "Z" (.int b1)) (P2 : Fld Z h0 r2 "com/example/steadyhand/steadyhand/history/RecordedExecution" "passed" "Z" (.int b2)) (cs ds : List Int32) (S1 : own_str Z h0 k1 cs) (S2 : own_str Z h0 k2 ds) (zc : Int32) (Sc : Sta Z h0 "java/lang/String" "COMPACT_STRINGS" "Z" (.int zc)) (hzc : ¬ zc = 0) (res : Int32) (hres : own_eq cs ds b1 b2 = res) :
    MetFree l (⟨"com/example/steadyhand/steadyhand/history/RecordedExecution", "equals", "(Ljava/lang/Object;)Z"⟩ : MethodName) (head1 (Jvm.Cond.code (⟨"com/example/steadyhand/steadyhand/history/RecordedExecution", "equals", "(Ljava/lang/Object;)Z"⟩ : MethodName) prog_18_method_4_code 3 (some .boolean) :: ws) ({ frames := 2, cells := 0, slots := 0, locals := 28 } : Room)) (fun a U => a = #[(.ref r1), (.ref r2)] ∧ Z.Warmed39 U.vm ∧ U.heap = h0) (fun _ _ _ _ _ => True) (fun _ U o U' => ∃ v L, o = .returned v ∧ Qeq Z r1 r2 res h0 n0 v U'.heap L ∧ FrameEnd U o U' L ({ frames := 2, cells := 0, slots := 0, locals := 28 } : Room).cells ({ frames := 2, cells := 0, slots := 0, locals := 28 } : Room).slots) := by
  refine MetFree.of_bodySF (plainFor_of_name pn_7) hisR ?_
  intro p e s m args below meth c s₁ Bd hml0 hP hK
  obtain ⟨rfl, hZ, hh⟩ := hP
  have hx := Bd.exec
  have hby := Bd.bytes
  have hml : c.maxLocals = 3 := hml0
  have hown : s.vm.findClass "com/example/steadyhand/steadyhand/history/RecordedExecution" = some m.cls := findClass_of_methodNamed Bd.named
  have hnm := (name_of_methodNamed Bd.named Bd.method).1
  have X0 : Stand p l e ({ frames := 2, cells := 0, slots := 0, locals := 28 } : Room) s m #[(.ref r1), (.ref r2)] below meth c s₁ [] 0 0 := Stand.of_body Bd
  have e0 : s₁.heap = h0 := by rw [← hh, Bd.state]; rfl
  have N0 := Fr.nil n0
  have pre0 : ∀ t, Steps p.tables e below (s₁.setTop (mkF m 0 #[.val (.ref r1), .val (.ref r2), .unset] [])) t → Steps p.tables e below (s₁.setTop (entryFrame m #[(.ref r1), (.ref r2)] 3)) t := fun t k => castTop (ef_rm_eq m r1 r2) k
  obtain ⟨t1, kb1, N1', vs1, s5, s6, s7⟩ := S1.2.2.2.2
  obtain ⟨t2, kb2, N2', vs2, u5, u6, u7⟩ := S2.2.2.2.2
  have heqw : ∀ d ∈ StrChars.Road.wordsEq, d.before a0 Z = true := fun d hd => hw d ((by decide +kernel : ∀ d ∈ StrChars.Road.wordsEq, d ∈ tables_1) d hd)
  obtain ⟨T1, X1, e1, st1⟩ := instY X0 hx hZ hown (hw _ (List.mem_of_getElem? (i := 48) rfl)) e0 (Ins.self E2) (g := (mkF m 1 #[.val (.ref r1), .val (.ref r2), .unset] [(.ref r2)])) rfl rfl (hb hby d7_1)
  obtain ⟨T2, X2, e2, st2⟩ := castY X1 hx hZ hown (hw _ (List.mem_of_getElem? (i := 48) rfl)) e1 (Ins.self E2) (g := (mkF m 8 #[.val (.ref r1), .val (.ref r2), .unset] [(.ref r2)])) rfl rfl (hb hby d7_8)
  obtain ⟨T3, X3, e3, st3⟩ := getF X2 hx hZ hown (host := "") (Or.inl (hw _ (List.mem_of_getElem? (i := 39) rfl))) Via.refl e2 F1 (g := (mkF m 13 #[.val (.ref r1), .val (.ref r2), .val (.ref r2)] [(.ref r1)])) rfl rfl (hb hby d7_13)
  obtain ⟨T4, X4, e4, st4⟩ := getF X3 hx hZ hown (host := "") (Or.inl (hw _ (List.mem_of_getElem? (i := 39) rfl))) Via.refl e3 F2 (g := (mkF m 17 #[.val (.ref r1), .val (.ref r2), .val (.ref r2)] [(.ref r2), (.ref k1)])) rfl rfl (hb hby d7_17)
  obtain ⟨cq5, kq5, q5a, q5b, q5c⟩ := isOf hZ e4 S1.1
  obtain ⟨_, _, ⟨T5, L5, k5, n5⟩, -, X5, ⟨Lc5, hQ5, l5, y5, z5⟩, st5⟩ := X4.virtualBack hx (y := (⟨"java/lang/String", "equals", "(Ljava/lang/Object;)Z"⟩ : MethodName)) (z := (⟨"java/lang/String", "equals", "(Ljava/lang/Object;)Z"⟩ : MethodName)) hown (mvT hZ (hw _ (List.mem_of_getElem? (i := 50) rfl))) (mvT hZ (hw _ (List.mem_of_getElem? (i := 51) rfl))) (notFace_of_selects (args := #[]) (mvT hZ (hw _ (List.mem_of_getElem? (i := 53) rfl)))) (mvT hZ (hw _ (List.mem_of_getElem? (i := 53) rfl))) (mvT hZ (hw _ (List.mem_of_getElem? (i := 52) rfl))) (by decide) (StrChars.Road.eqW (W := 0) hZ heqw (kI := 4) (hw _ (List.mem_of_getElem? (i := 2) rfl)) S1.1 s5 S1.2.1 s6 s7 (own_up S1.2.2.1) S1.2.2.2.1 S2.1 u5 S2.2.1 u6 u7 (own_up S2.2.2.1) S2.2.2.2.1 Sc hzc (by decide) (by decide)) q5a q5c (g := (mkF m 20 #[.val (.ref r1), .val (.ref r2), .val (.ref r2)] [(.ref k2), (.ref k1)])) rfl (by rw [hml]; rfl) (Steps.refl _) (argsL := [(.ref k2)]) (rest := []) (lenOf pd_1 rfl) rfl (by show 2 * 0 + _ ≤ _; exact Nat.le_of_eq rfl) (hb hby d7_20) (fun _ _ => ⟨rfl, e4, (by decide : 0 + 0 ≤ _), (by decide : 0 + 0 ≤ _)⟩)
  dsimp only [Pt.U, Pt.locs, Pt.cells, Pt.slots] at X5 l5 y5 z5 st5 hQ5
  rw [y5, z5] at X5
  obtain ⟨hv5, hL5, e5⟩ := hQ5
  have N5q : Fr n0 Lc5 := by rw [hL5]; exact Fr.nil n0
  have N5 : Fr n0 L5 := by rw [l5]; exact Fr.app N0 N5q
  rcases hv5 with ⟨rfl, hcd⟩ | ⟨rfl, hcd⟩
  · have _ := 0
    have pre6 : ∀ t, Steps p.tables e below (T5.setTop (mkF m 27 #[.val (.ref r1), .val (.ref r2), .val (.ref r2)] [(.ref r1)])) t → Steps p.tables e below (s₁.setTop (entryFrame m #[(.ref r1), (.ref r2)] 3)) t := fun t k => pre0 t (by
      show Steps p.tables e below (s₁.setTop (mkF m 0 #[.val (.ref r1), .val (.ref r2), .unset] [])) _
      refine XS.aloadN X0.here hx rfl (hb hby d7_0) rfl rfl ?_
      show Steps p.tables e below (s₁.setTop (mkF m 1 #[.val (.ref r1), .val (.ref r2), .unset] [(.ref r2)])) _
      refine st1 _ ?_
      show Steps p.tables e below (T1.setTop (mkF m 4 #[.val (.ref r1), .val (.ref r2), .unset] [(.int (1 : Int32))])) _
      refine XS.ifNo X1.here hx rfl (hb hby d7_4) rfl ((if0 _ _).trans (feq (by decide : ¬ ((1 : Int32) = (0 : Int32)))).1) ?_
      show Steps p.tables e below (T1.setTop (mkF m 7 #[.val (.ref r1), .val (.ref r2), .unset] [])) _
      refine XS.aloadN X1.here hx rfl (hb hby d7_7) rfl rfl ?_
      show Steps p.tables e below (T1.setTop (mkF m 8 #[.val (.ref r1), .val (.ref r2), .unset] [(.ref r2)])) _
      refine st2 _ ?_
      show Steps p.tables e below (T2.setTop (mkF m 11 #[.val (.ref r1), .val (.ref r2), .unset] [(.ref r2)])) _
      refine XS.astoreN X2.here hx rfl (hb hby d7_11) rfl rfl (l' := #[.val (.ref r1), .val (.ref r2), .val (.ref r2)]) rfl ?_
      show Steps p.tables e below (T2.setTop (mkF m 12 #[.val (.ref r1), .val (.ref r2), .val (.ref r2)] [])) _
      refine XS.aloadN X2.here hx rfl (hb hby d7_12) rfl rfl ?_
      show Steps p.tables e below (T2.setTop (mkF m 13 #[.val (.ref r1), .val (.ref r2), .val (.ref r2)] [(.ref r1)])) _
      refine st3 _ ?_
      show Steps p.tables e below (T3.setTop (mkF m 16 #[.val (.ref r1), .val (.ref r2), .val (.ref r2)] [(.ref k1)])) _
      refine XS.aloadN X3.here hx rfl (hb hby d7_16) rfl rfl ?_
      show Steps p.tables e below (T3.setTop (mkF m 17 #[.val (.ref r1), .val (.ref r2), .val (.ref r2)] [(.ref r2), (.ref k1)])) _
      refine st4 _ ?_
      show Steps p.tables e below (T4.setTop (mkF m 20 #[.val (.ref r1), .val (.ref r2), .val (.ref r2)] [(.ref k2), (.ref k1)])) _
      refine st5.trans ?_
      show Steps p.tables e below (T5.setTop (mkF m 23 #[.val (.ref r1), .val (.ref r2), .val (.ref r2)] [(.int (1 : Int32))])) _
      refine XS.ifNo X5.here hx rfl (hb hby d7_23) rfl ((if0 _ _).trans (feq (by decide : ¬ ((1 : Int32) = (0 : Int32)))).1) ?_
      show Steps p.tables e below (T5.setTop (mkF m 26 #[.val (.ref r1), .val (.ref r2), .val (.ref r2)] [])) _
      refine XS.aloadN X5.here hx rfl (hb hby d7_26) rfl rfl ?_
      exact k)
    obtain ⟨T7, X7, e7, st7⟩ := getF X5 hx hZ hown (host := "") (Or.inl (hw _ (List.mem_of_getElem? (i := 41) rfl))) Via.refl e5 P1 (g := (mkF m 27 #[.val (.ref r1), .val (.ref r2), .val (.ref r2)] [(.ref r1)])) rfl rfl (hb hby d7_27)
    obtain ⟨T8, X8, e8, st8⟩ := getF X7 hx hZ hown (host := "") (Or.inl (hw _ (List.mem_of_getElem? (i := 41) rfl))) Via.refl e7 P2 (g := (mkF m 31 #[.val (.ref r1), .val (.ref r2), .val (.ref r2)] [(.ref r2), (.int b1)])) rfl rfl (hb hby d7_31)
    have pre9 : ∀ t, Steps p.tables e below (T8.setTop (mkF m 34 #[.val (.ref r1), .val (.ref r2), .val (.ref r2)] [(.int b2), (.int b1)])) t → Steps p.tables e below (s₁.setTop (entryFrame m #[(.ref r1), (.ref r2)] 3)) t := fun t k => pre6 t (by
      show Steps p.tables e below (T5.setTop (mkF m 27 #[.val (.ref r1), .val (.ref r2), .val (.ref r2)] [(.ref r1)])) _
      refine st7 _ ?_
      show Steps p.tables e below (T7.setTop (mkF m 30 #[.val (.ref r1), .val (.ref r2), .val (.ref r2)] [(.int b1)])) _
      refine XS.aloadN X7.here hx rfl (hb hby d7_30) rfl rfl ?_
      show Steps p.tables e below (T7.setTop (mkF m 31 #[.val (.ref r1), .val (.ref r2), .val (.ref r2)] [(.ref r2), (.int b1)])) _
      refine st8 _ ?_
      exact k)
    by_cases hc34_10 : b1 = b2
    · have _ := 0
      have pre11 : ∀ t, Steps p.tables e below (T8.setTop (mkF m 42 #[.val (.ref r1), .val (.ref r2), .val (.ref r2)] [(.int (1 : Int32))])) t → Steps p.tables e below (s₁.setTop (entryFrame m #[(.ref r1), (.ref r2)] 3)) t := fun t k => pre9 t (by
        show Steps p.tables e below (T8.setTop (mkF m 34 #[.val (.ref r1), .val (.ref r2), .val (.ref r2)] [(.int b2), (.int b1)])) _
        refine XS.icmpNo X8.here hx rfl (hb hby d7_34) rfl (teq hc34_10).2 ?_
        show Steps p.tables e below (T8.setTop (mkF m 37 #[.val (.ref r1), .val (.ref r2), .val (.ref r2)] [])) _
        refine XT.iconstV X8.here hx rfl (1 : Int32) (hb hby d7_37) (by decide) ?_
        show Steps p.tables e below (T8.setTop (mkF m 38 #[.val (.ref r1), .val (.ref r2), .val (.ref r2)] [(.int (1 : Int32))])) _
        refine XS.goto X8.here hx rfl (pc0 := 38) (pc' := 42) rfl (hb hby d7_38) (by decide) (by decide) ?_
        exact k)
      obtain ⟨fs, hr, hrun, hended, hW, hsame⟩ := X8.leave (v := some (.int (1 : Int32))) (fun h => by rw [Bd.returns] at h; cases h)
      refine ⟨_, _, pre11 _ ?_, hrun, hended, _, _, rfl, ?_, ⟨_, rfl⟩, hW, hsame.mono (by decide) (by decide)⟩
      · show Steps p.tables e below (T8.setTop (mkF m 42 #[.val (.ref r1), .val (.ref r2), .val (.ref r2)] [(.int (1 : Int32))])) _
        exact retOut X8 hx Bd.returns rfl (Or.inl ⟨rfl, by simp, _, rfl⟩) (hb hby d7_42) hr
      · show Qeq Z r1 r2 res h0 n0 _ T8.heap _
        rw [e8]
        exact ⟨by rw [← hres]; simp only [own_eq, if_pos hcd, if_pos hc34_10], N5, rfl⟩
    · have _ := 0
      have pre12 : ∀ t, Steps p.tables e below (T8.setTop (mkF m 42 #[.val (.ref r1), .val (.ref r2), .val (.ref r2)] [(.int (0 : Int32))])) t → Steps p.tables e below (s₁.setTop (entryFrame m #[(.ref r1), (.ref r2)] 3)) t := fun t k => pre9 t (by
        show Steps p.tables e below (T8.setTop (mkF m 34 #[.val (.ref r1), .val (.ref r2), .val (.ref r2)] [(.int b2), (.int b1)])) _
        refine XS.icmpYes X8.here hx rfl (pc0 := 34) (pc' := 41) rfl (hb hby d7_34) rfl (feq hc34_10).2 (by decide) (by decide) ?_
        show Steps p.tables e below (T8.setTop (mkF m 41 #[.val (.ref r1), .val (.ref r2), .val (.ref r2)] [])) _
        refine XT.iconstV X8.here hx rfl (0 : Int32) (hb hby d7_41) (by decide) ?_
        exact k)
      obtain ⟨fs, hr, hrun, hended, hW, hsame⟩ := X8.leave (v := some (.int (0 : Int32))) (fun h => by rw [Bd.returns] at h; cases h)
      refine ⟨_, _, pre12 _ ?_, hrun, hended, _, _, rfl, ?_, ⟨_, rfl⟩, hW, hsame.mono (by decide) (by decide)⟩
      · show Steps p.tables e below (T8.setTop (mkF m 42 #[.val (.ref r1), .val (.ref r2), .val (.ref r2)] [(.int (0 : Int32))])) _
        exact retOut X8 hx Bd.returns rfl (Or.inl ⟨rfl, by simp, _, rfl⟩) (hb hby d7_42) hr
      · show Qeq Z r1 r2 res h0 n0 _ T8.heap _
        rw [e8]
        exact ⟨by rw [← hres]; simp only [own_eq, if_pos hcd, if_neg hc34_10], N5, rfl⟩
  · have _ := 0
    have pre13 : ∀ t, Steps p.tables e below (T5.setTop (mkF m 42 #[.val (.ref r1), .val (.ref r2), .val (.ref r2)] [(.int (0 : Int32))])) t → Steps p.tables e below (s₁.setTop (entryFrame m #[(.ref r1), (.ref r2)] 3)) t := fun t k => pre0 t (by
      show Steps p.tables e below (s₁.setTop (mkF m 0 #[.val (.ref r1), .val (.ref r2), .unset] [])) _
      refine XS.aloadN X0.here hx rfl (hb hby d7_0) rfl rfl ?_
      show Steps p.tables e below (s₁.setTop (mkF m 1 #[.val (.ref r1), .val (.ref r2), .unset] [(.ref r2)])) _
      refine st1 _ ?_
      show Steps p.tables e below (T1.setTop (mkF m 4 #[.val (.ref r1), .val (.ref r2), .unset] [(.int (1 : Int32))])) _
      refine XS.ifNo X1.here hx rfl (hb hby d7_4) rfl ((if0 _ _).trans (feq (by decide : ¬ ((1 : Int32) = (0 : Int32)))).1) ?_
      show Steps p.tables e below (T1.setTop (mkF m 7 #[.val (.ref r1), .val (.ref r2), .unset] [])) _
      refine XS.aloadN X1.here hx rfl (hb hby d7_7) rfl rfl ?_
      show Steps p.tables e below (T1.setTop (mkF m 8 #[.val (.ref r1), .val (.ref r2), .unset] [(.ref r2)])) _
      refine st2 _ ?_
      show Steps p.tables e below (T2.setTop (mkF m 11 #[.val (.ref r1), .val (.ref r2), .unset] [(.ref r2)])) _
      refine XS.astoreN X2.here hx rfl (hb hby d7_11) rfl rfl (l' := #[.val (.ref r1), .val (.ref r2), .val (.ref r2)]) rfl ?_
      show Steps p.tables e below (T2.setTop (mkF m 12 #[.val (.ref r1), .val (.ref r2), .val (.ref r2)] [])) _
      refine XS.aloadN X2.here hx rfl (hb hby d7_12) rfl rfl ?_
      show Steps p.tables e below (T2.setTop (mkF m 13 #[.val (.ref r1), .val (.ref r2), .val (.ref r2)] [(.ref r1)])) _
      refine st3 _ ?_
      show Steps p.tables e below (T3.setTop (mkF m 16 #[.val (.ref r1), .val (.ref r2), .val (.ref r2)] [(.ref k1)])) _
      refine XS.aloadN X3.here hx rfl (hb hby d7_16) rfl rfl ?_
      show Steps p.tables e below (T3.setTop (mkF m 17 #[.val (.ref r1), .val (.ref r2), .val (.ref r2)] [(.ref r2), (.ref k1)])) _
      refine st4 _ ?_
      show Steps p.tables e below (T4.setTop (mkF m 20 #[.val (.ref r1), .val (.ref r2), .val (.ref r2)] [(.ref k2), (.ref k1)])) _
      refine st5.trans ?_
      show Steps p.tables e below (T5.setTop (mkF m 23 #[.val (.ref r1), .val (.ref r2), .val (.ref r2)] [(.int (0 : Int32))])) _
      refine XS.ifYes X5.here hx rfl (pc0 := 23) (pc' := 41) rfl (hb hby d7_23) rfl ((if0 _ _).trans (teq (by decide : ((0 : Int32) = (0 : Int32)))).1) (by decide) (by decide) ?_
      show Steps p.tables e below (T5.setTop (mkF m 41 #[.val (.ref r1), .val (.ref r2), .val (.ref r2)] [])) _
      refine XT.iconstV X5.here hx rfl (0 : Int32) (hb hby d7_41) (by decide) ?_
      exact k)
    obtain ⟨fs, hr, hrun, hended, hW, hsame⟩ := X5.leave (v := some (.int (0 : Int32))) (fun h => by rw [Bd.returns] at h; cases h)
    refine ⟨_, _, pre13 _ ?_, hrun, hended, _, _, rfl, ?_, ⟨_, rfl⟩, hW, hsame.mono (by decide) (by decide)⟩
    · show Steps p.tables e below (T5.setTop (mkF m 42 #[.val (.ref r1), .val (.ref r2), .val (.ref r2)] [(.int (0 : Int32))])) _
      exact retOut X5 hx Bd.returns rfl (Or.inl ⟨rfl, by simp, _, rfl⟩) (hb hby d7_42) hr
    · show Qeq Z r1 r2 res h0 n0 _ T5.heap _
      rw [e5]
      exact ⟨by rw [← hres]; simp only [own_eq, if_neg hcd], N5, rfl⟩
theorem own_notRE {Z : State} {a0 : Array Value} (hw : ∀ d ∈ tables_1, d.before a0 Z = true) : ∃ c t, Z.vm.findClass "java/lang/String" = some c ∧ Z.vm.findClass "com/example/steadyhand/steadyhand/history/RecordedExecution" = some t ∧ Z.vm.assignable c t = false := by
  have w1 := (hw _ (List.mem_of_getElem? (i := 71) rfl))
  have w2 := (hw _ (List.mem_of_getElem? (i := 72) rfl))
  have w3 := (hw _ (List.mem_of_getElem? (i := 28) rfl))
  obtain ⟨o, ko, o1, o2, o3, -, -⟩ := Cond.noSuperclass_spec w2
  obtain ⟨t, kt, t1, t2, t3, t4, -⟩ := Cond.instantiable_spec w3
  obtain ⟨c, c0⟩ := found_sup w1
  obtain ⟨q, k, kp, h1, h2, h3, h4, h5, -, h7⟩ := Cond.superclass_spec c0 w1
  cases o1.symm.trans h1
  have n1 := ids_ne o1 t1 (by decide)
  have n2 := ids_ne c0 t1 (by decide)
  have ti : kt.isInterface = false := by
    cases hq : kt.isInterface with
    | false => rfl
    | true => rw [hq] at t4; simp at t4
  refine ⟨c, t, c0, t1, ?_⟩
  have r0 : ∀ fuel, Z.vm.isSubclassAux fuel o t = false := fun fuel => by
    cases fuel with
    | zero => rfl
    | succ f => simp [Vm.isSubclassAux, n1, o2, o3]
  have r1 : ∀ fuel, Z.vm.isSubclassAux fuel c t = false := fun fuel => by
    cases fuel with
    | zero => rfl
    | succ f => simp [Vm.isSubclassAux, n2, h2, h4, r0]
  show Z.vm.assignableAux (255 + 1) c t = false
  simp [Vm.assignableAux, n2, h2, t2, h5, t3, ti, Vm.isSubclass, r1]
theorem ef_rm_eqS (m : MethodId) (x0 : Addr) (x1 : Addr) : entryFrame m #[(.ref x0), (.ref x1)] 3 = mkF m 0 #[.val (.ref x0), .val (.ref x1), .unset] [] := by first | (simp [entryFrame, mkF, argsToLocals, Value.category]; done) | rfl
set_option maxRecDepth 65536 in
set_option maxHeartbeats 40000000 in
theorem rm_eqS (l : Launch) (Z : State) (a0 : Array Value) (hw : ∀ d ∈ tables_1, d.before a0 Z = true) (ws : List Jvm.Cond) (r1 : Addr) (r2 : Addr) (h0 : Heap) (n0 : Nat) (Z0 : n0 ≤ h0.size) (E2 : Exa Z h0 r2 "java/lang/String") :
    MetFree l (⟨"com/example/steadyhand/steadyhand/history/RecordedExecution", "equals", "(Ljava/lang/Object;)Z"⟩ : MethodName) (head1 (Jvm.Cond.code (⟨"com/example/steadyhand/steadyhand/history/RecordedExecution", "equals", "(Ljava/lang/Object;)Z"⟩ : MethodName) prog_18_method_4_code 3 (some .boolean) :: ws) ({ frames := 0, cells := 0, slots := 0, locals := 0 } : Room)) (fun a U => a = #[(.ref r1), (.ref r2)] ∧ Z.Warmed39 U.vm ∧ U.heap = h0) (fun _ _ _ _ _ => True) (fun _ U o U' => ∃ v L, o = .returned v ∧ Qeq Z r1 r2 (0 : Int32) h0 n0 v U'.heap L ∧ FrameEnd U o U' L ({ frames := 0, cells := 0, slots := 0, locals := 0 } : Room).cells ({ frames := 0, cells := 0, slots := 0, locals := 0 } : Room).slots) := by
  refine MetFree.of_bodySF (plainFor_of_name pn_7) hisR ?_
  intro p e s m args below meth c s₁ Bd hml0 hP hK
  obtain ⟨rfl, hZ, hh⟩ := hP
  have hx := Bd.exec
  have hby := Bd.bytes
  have hml : c.maxLocals = 3 := hml0
  have hown : s.vm.findClass "com/example/steadyhand/steadyhand/history/RecordedExecution" = some m.cls := findClass_of_methodNamed Bd.named
  have hnm := (name_of_methodNamed Bd.named Bd.method).1
  have X0 : Stand p l e ({ frames := 0, cells := 0, slots := 0, locals := 0 } : Room) s m #[(.ref r1), (.ref r2)] below meth c s₁ [] 0 0 := Stand.of_body Bd
  have e0 : s₁.heap = h0 := by rw [← hh, Bd.state]; rfl
  have N0 := Fr.nil n0
  have pre0 : ∀ t, Steps p.tables e below (s₁.setTop (mkF m 0 #[.val (.ref r1), .val (.ref r2), .unset] [])) t → Steps p.tables e below (s₁.setTop (entryFrame m #[(.ref r1), (.ref r2)] 3)) t := fun t k => castTop (ef_rm_eqS m r1 r2) k
  obtain ⟨T1, X1, e1, st1⟩ := instNo X0 hx hZ hown (hw _ (List.mem_of_getElem? (i := 48) rfl)) e0 E2 (own_notRE hw) (g := (mkF m 1 #[.val (.ref r1), .val (.ref r2), .unset] [(.ref r2)])) rfl rfl (hb hby d7_1)
  have pre2 : ∀ t, Steps p.tables e below (T1.setTop (mkF m 44 #[.val (.ref r1), .val (.ref r2), .unset] [(.int (0 : Int32))])) t → Steps p.tables e below (s₁.setTop (entryFrame m #[(.ref r1), (.ref r2)] 3)) t := fun t k => pre0 t (by
    show Steps p.tables e below (s₁.setTop (mkF m 0 #[.val (.ref r1), .val (.ref r2), .unset] [])) _
    refine XS.aloadN X0.here hx rfl (hb hby d7_0) rfl rfl ?_
    show Steps p.tables e below (s₁.setTop (mkF m 1 #[.val (.ref r1), .val (.ref r2), .unset] [(.ref r2)])) _
    refine st1 _ ?_
    show Steps p.tables e below (T1.setTop (mkF m 4 #[.val (.ref r1), .val (.ref r2), .unset] [(.int (0 : Int32))])) _
    refine XS.ifYes X1.here hx rfl (pc0 := 4) (pc' := 43) rfl (hb hby d7_4) rfl ((if0 _ _).trans (teq (by decide : ((0 : Int32) = (0 : Int32)))).1) (by decide) (by decide) ?_
    show Steps p.tables e below (T1.setTop (mkF m 43 #[.val (.ref r1), .val (.ref r2), .unset] [])) _
    refine XT.iconstV X1.here hx rfl (0 : Int32) (hb hby d7_43) (by decide) ?_
    exact k)
  obtain ⟨fs, hr, hrun, hended, hW, hsame⟩ := X1.leave (v := some (.int (0 : Int32))) (fun h => by rw [Bd.returns] at h; cases h)
  refine ⟨_, _, pre2 _ ?_, hrun, hended, _, _, rfl, ?_, ⟨_, rfl⟩, hW, hsame.mono (by decide) (by decide)⟩
  · show Steps p.tables e below (T1.setTop (mkF m 44 #[.val (.ref r1), .val (.ref r2), .unset] [(.int (0 : Int32))])) _
    exact retOut X1 hx Bd.returns rfl (Or.inl ⟨rfl, by simp, _, rfl⟩) (hb hby d7_44) hr
  · show Qeq Z r1 r2 (0 : Int32) h0 n0 _ T1.heap _
    rw [e1]
    exact ⟨rfl, N0, rfl⟩
def QeqN (Z : State) (r1 : Addr) (h0 : Heap) (n0 : Nat) (v : Option Value) (h : Heap) (L : List Loc) : Prop := v = some (.int (0 : Int32)) ∧ Fr n0 L ∧ h = h0
theorem ef_rm_eqN (m : MethodId) (x0 : Addr) : entryFrame m #[(.ref x0), .null] 3 = mkF m 0 #[.val (.ref x0), .val .null, .unset] [] := by first | (simp [entryFrame, mkF, argsToLocals, Value.category]; done) | rfl
set_option maxRecDepth 65536 in
set_option maxHeartbeats 40000000 in
theorem rm_eqN (l : Launch) (Z : State) (a0 : Array Value) (hw : ∀ d ∈ tables_1, d.before a0 Z = true) (ws : List Jvm.Cond) (r1 : Addr) (h0 : Heap) (n0 : Nat) (Z0 : n0 ≤ h0.size)  :
    MetFree l (⟨"com/example/steadyhand/steadyhand/history/RecordedExecution", "equals", "(Ljava/lang/Object;)Z"⟩ : MethodName) (head1 (Jvm.Cond.code (⟨"com/example/steadyhand/steadyhand/history/RecordedExecution", "equals", "(Ljava/lang/Object;)Z"⟩ : MethodName) prog_18_method_4_code 3 (some .boolean) :: ws) ({ frames := 0, cells := 0, slots := 0, locals := 0 } : Room)) (fun a U => a = #[(.ref r1), .null] ∧ Z.Warmed39 U.vm ∧ U.heap = h0) (fun _ _ _ _ _ => True) (fun _ U o U' => ∃ v L, o = .returned v ∧ QeqN Z r1  h0 n0 v U'.heap L ∧ FrameEnd U o U' L ({ frames := 0, cells := 0, slots := 0, locals := 0 } : Room).cells ({ frames := 0, cells := 0, slots := 0, locals := 0 } : Room).slots) := by
  refine MetFree.of_bodySF (plainFor_of_name pn_7) hisR ?_
  intro p e s m args below meth c s₁ Bd hml0 hP hK
  obtain ⟨rfl, hZ, hh⟩ := hP
  have hx := Bd.exec
  have hby := Bd.bytes
  have hml : c.maxLocals = 3 := hml0
  have hown : s.vm.findClass "com/example/steadyhand/steadyhand/history/RecordedExecution" = some m.cls := findClass_of_methodNamed Bd.named
  have hnm := (name_of_methodNamed Bd.named Bd.method).1
  have X0 : Stand p l e ({ frames := 0, cells := 0, slots := 0, locals := 0 } : Room) s m #[(.ref r1), .null] below meth c s₁ [] 0 0 := Stand.of_body Bd
  have e0 : s₁.heap = h0 := by rw [← hh, Bd.state]; rfl
  have N0 := Fr.nil n0
  have pre0 : ∀ t, Steps p.tables e below (s₁.setTop (mkF m 0 #[.val (.ref r1), .val .null, .unset] [])) t → Steps p.tables e below (s₁.setTop (entryFrame m #[(.ref r1), .null] 3)) t := fun t k => castTop (ef_rm_eqN m r1) k
  have pre1 : ∀ t, Steps p.tables e below (s₁.setTop (mkF m 44 #[.val (.ref r1), .val .null, .unset] [(.int (0 : Int32))])) t → Steps p.tables e below (s₁.setTop (entryFrame m #[(.ref r1), .null] 3)) t := fun t k => pre0 t (by
    show Steps p.tables e below (s₁.setTop (mkF m 0 #[.val (.ref r1), .val .null, .unset] [])) _
    refine XS.aloadN X0.here hx rfl (hb hby d7_0) rfl rfl ?_
    show Steps p.tables e below (s₁.setTop (mkF m 1 #[.val (.ref r1), .val .null, .unset] [.null])) _
    refine X0.instanceofNull hx (g := (mkF m 1 #[.val (.ref r1), .val .null, .unset] [.null])) rfl rfl (hb hby d7_1) _ ?_
    show Steps p.tables e below (s₁.setTop (mkF m 4 #[.val (.ref r1), .val .null, .unset] [(.int (0 : Int32))])) _
    refine XS.ifYes X0.here hx rfl (pc0 := 4) (pc' := 43) rfl (hb hby d7_4) rfl ((if0 _ _).trans (teq (by decide : ((0 : Int32) = (0 : Int32)))).1) (by decide) (by decide) ?_
    show Steps p.tables e below (s₁.setTop (mkF m 43 #[.val (.ref r1), .val .null, .unset] [])) _
    refine XT.iconstV X0.here hx rfl (0 : Int32) (hb hby d7_43) (by decide) ?_
    exact k)
  obtain ⟨fs, hr, hrun, hended, hW, hsame⟩ := X0.leave (v := some (.int (0 : Int32))) (fun h => by rw [Bd.returns] at h; cases h)
  refine ⟨_, _, pre1 _ ?_, hrun, hended, _, _, rfl, ?_, ⟨_, rfl⟩, hW, hsame.mono (by decide) (by decide)⟩
  · show Steps p.tables e below (s₁.setTop (mkF m 44 #[.val (.ref r1), .val .null, .unset] [(.int (0 : Int32))])) _
    exact retOut X0 hx Bd.returns rfl (Or.inl ⟨rfl, by simp, _, rfl⟩) (hb hby d7_44) hr
  · show QeqN Z r1  h0 n0 _ s₁.heap _
    rw [e0]
    exact ⟨rfl, N0, rfl⟩
theorem own_ib {Z s : State} {vm : Vm} {Ts : List String} (I : IB Z s.vm Ts) (h : s.WarmedH vm) : IB Z vm Ts := by
  obtain ⟨more, e1, e2⟩ := I
  exact ⟨more, h.interned_eq.trans e1, e2⟩
theorem own_lit {Z s : State} {vm : Vm} {own : String} {i : Nat} {a : Addr} (L : Lit (Z.setVm s.vm) own i a) (h : s.Warmed39 vm) : Lit (Z.setVm vm) own i a := by
  have q : s.resolvedAt? own i = some (.string a) := L
  exact State.resolvedAt?_warmed39 h q
theorem own_backS {p : Program} {l : Launch} {e : Env} {R : Room} {s : State} {args : Array Value} {below : List Frame} {Z : State} {a0 : Array Value} {h : Heap} {y : MethodName} {bytes : ByteArray} {maxL : Nat} {ret : Option FieldType} {rm : Room} {len W : Nat} {as' : Array Value} {G : Vm → Prop} {Q : Option Value → Heap → Vm → List Loc → Prop}
    (hM : MetFree l y (head1 [Jvm.Cond.code y bytes maxL ret] rm) (fun a U => a = as' ∧ Z.Warmed39 U.vm ∧ U.heap = h ∧ G U.vm) (fun _ _ _ _ _ => True) (fun _ U o U' => ∃ v L, o = .returned v ∧ Q v U'.heap U'.vm L ∧ ReturnedEndW U o U' L rm.cells rm.slots))
    (hZ : Z.Warmed39 s.vm) (wc : (Jvm.Cond.code y bytes maxL ret).before a0 Z = true) (wz : (Jvm.Cond.initialized y.cls).before a0 Z = true) (hf : rm.frames + 1 ≤ R.frames) (hl : W + (maxL + 11) + rm.locals ≤ R.locals) :
    BackS l R p e below s args y len W (fun A a => a = as' ∧ A.U.heap = h ∧ G A.U.vm ∧ A.cells + rm.cells ≤ R.cells ∧ A.slots + rm.slots ≤ R.slots)
      (fun A _ v B => ∃ L, Q v B.U.heap B.U.vm L ∧ B.locs = A.locs ++ L ∧ B.cells = A.cells + rm.cells ∧ B.slots = A.slots + rm.slots) :=
  BackS.of_freeW (bytes := bytes) (maxL := maxL) (ret := ret) (E := fun _ _ o t L k n => k = rm.cells ∧ n = rm.slots ∧ ∃ v, o = .returned v ∧ Q v t.heap t.vm L) hM hf hl
    (fun m meth c A a Y hp => have hU : Z.Warmed39 A.U.vm := wtrans hZ Y.warmed
      ⟨by show (Jvm.Cond.and _ .tt).before a A.U = true; rw [Cond.before_and, mv hU wc]; rfl, mv hU wc, mv hU wz, hp.2.2.2.1, hp.2.2.2.2⟩)
    (fun m meth c A a g mk Y hp => ⟨hp.1, wtrans hZ Y.warmed, hp.2.1, hp.2.2.1⟩) (fun _ _ _ _ _ _ _ _ _ => trivial)
    (fun _ _ _ _ q => by obtain ⟨v, L, h1, h2, h3⟩ := q; exact ⟨L, _, _, h3, rfl, rfl, v, h1, h2⟩)
    (fun m meth c A a g mk v t L k n Y hp _ _ q => by obtain ⟨e1, e2, v', e3, e4⟩ := q; cases e3; subst e1 e2; exact ⟨L, e4, rfl, rfl, rfl⟩)
theorem own_endW {s t : State} {o : Outcome} {L : List Loc} {k n k' n' : Nat} (h : ReturnedEndW s o t L k n) (hk : k ≤ k') (hn : n ≤ n') : ReturnedEndW s o t L k' n' := ⟨h.1, h.2.1, h.2.2.1, h.2.2.2.mono hk hn⟩
theorem d3_0 : decode jdk_42_method_149_code 0 = .ok (.aload_n 0, 1) := by decide +kernel
theorem d3_1 : decode jdk_42_method_149_code 1 = .ok (.invokespecial 1, 3) := by decide +kernel
theorem d3_4 : decode jdk_42_method_149_code 4 = .ok (.iload_n 3, 1) := by decide +kernel
theorem d3_5 : decode jdk_42_method_149_code 5 = .ok (.ifCond .ne 22, 3) := by decide +kernel
theorem d3_8 : decode jdk_42_method_149_code 8 = .ok (.aload_n 0, 1) := by decide +kernel
theorem d3_9 : decode jdk_42_method_149_code 9 = .ok (.ldc 7, 2) := by decide +kernel
theorem d3_11 : decode jdk_42_method_149_code 11 = .ok (.getfield 9, 3) := by decide +kernel
theorem d3_14 : decode jdk_42_method_149_code 14 = .ok (.putfield 9, 3) := by decide +kernel
theorem d3_17 : decode jdk_42_method_149_code 17 = .ok (.aload_n 0, 1) := by decide +kernel
theorem d3_18 : decode jdk_42_method_149_code 18 = .ok (.ldc 7, 2) := by decide +kernel
theorem d3_20 : decode jdk_42_method_149_code 20 = .ok (.getfield 15, 3) := by decide +kernel
theorem d3_23 : decode jdk_42_method_149_code 23 = .ok (.putfield 15, 3) := by decide +kernel
theorem d3_26 : decode jdk_42_method_149_code 26 = .ok (.return_, 1) := by decide +kernel
theorem d3_27 : decode jdk_42_method_149_code 27 = .ok (.getstatic 38, 3) := by decide +kernel
theorem d3_30 : decode jdk_42_method_149_code 30 = .ok (.ifCond .eq 28, 3) := by decide +kernel
theorem d3_33 : decode jdk_42_method_149_code 33 = .ok (.aload_n 1, 1) := by decide +kernel
theorem d3_34 : decode jdk_42_method_149_code 34 = .ok (.iload_n 2, 1) := by decide +kernel
theorem d3_35 : decode jdk_42_method_149_code 35 = .ok (.iload_n 3, 1) := by decide +kernel
theorem d3_36 : decode jdk_42_method_149_code 36 = .ok (.invokestatic 177, 3) := by decide +kernel
theorem d3_39 : decode jdk_42_method_149_code 39 = .ok (.astore 5, 2) := by decide +kernel
theorem d3_41 : decode jdk_42_method_149_code 41 = .ok (.aload_n 0, 1) := by decide +kernel
theorem d3_42 : decode jdk_42_method_149_code 42 = .ok (.aload 5, 2) := by decide +kernel
theorem d3_44 : decode jdk_42_method_149_code 44 = .ok (.iload_n 3, 1) := by decide +kernel
theorem d3_45 : decode jdk_42_method_149_code 45 = .ok (.invokestatic 47, 3) := by decide +kernel
theorem d3_48 : decode jdk_42_method_149_code 48 = .ok (.putfield 15, 3) := by decide +kernel
theorem d3_51 : decode jdk_42_method_149_code 51 = .ok (.aload_n 0, 1) := by decide +kernel
theorem d3_52 : decode jdk_42_method_149_code 52 = .ok (.aload 5, 2) := by decide +kernel
theorem d3_54 : decode jdk_42_method_149_code 54 = .ok (.putfield 9, 3) := by decide +kernel
theorem d3_57 : decode jdk_42_method_149_code 57 = .ok (.return_, 1) := by decide +kernel
theorem d3_58 : decode jdk_42_method_149_code 58 = .ok (.aload_n 0, 1) := by decide +kernel
theorem d3_59 : decode jdk_42_method_149_code 59 = .ok (.iconst 1, 1) := by decide +kernel
theorem d3_60 : decode jdk_42_method_149_code 60 = .ok (.putfield 15, 3) := by decide +kernel
theorem d3_63 : decode jdk_42_method_149_code 63 = .ok (.aload_n 0, 1) := by decide +kernel
theorem d3_64 : decode jdk_42_method_149_code 64 = .ok (.aload_n 1, 1) := by decide +kernel
theorem d3_65 : decode jdk_42_method_149_code 65 = .ok (.iload_n 2, 1) := by decide +kernel
theorem d3_66 : decode jdk_42_method_149_code 66 = .ok (.iload_n 3, 1) := by decide +kernel
theorem d3_67 : decode jdk_42_method_149_code 67 = .ok (.invokestatic 180, 3) := by decide +kernel
theorem d3_70 : decode jdk_42_method_149_code 70 = .ok (.putfield 9, 3) := by decide +kernel
theorem d3_73 : decode jdk_42_method_149_code 73 = .ok (.return_, 1) := by decide +kernel
theorem d2_0 : decode jdk_42_method_3_code 0 = .ok (.aload_n 0, 1) := by decide +kernel
theorem d2_1 : decode jdk_42_method_3_code 1 = .ok (.aload_n 1, 1) := by decide +kernel
theorem d2_2 : decode jdk_42_method_3_code 2 = .ok (.iconst 0, 1) := by decide +kernel
theorem d2_3 : decode jdk_42_method_3_code 3 = .ok (.aload_n 1, 1) := by decide +kernel
theorem d2_4 : decode jdk_42_method_3_code 4 = .ok (.arraylength, 1) := by decide +kernel
theorem d2_5 : decode jdk_42_method_3_code 5 = .ok (.aconst_null, 1) := by decide +kernel
theorem d2_6 : decode jdk_42_method_3_code 6 = .ok (.invokespecial 27, 3) := by decide +kernel
theorem d2_9 : decode jdk_42_method_3_code 9 = .ok (.return_, 1) := by decide +kernel
def Qem (Z : State) (r1 : Addr) (h0 : Heap) (n0 : Nat) (v : Option Value) (h : Heap) (vm : Vm) (L : List Loc) : Prop := v = none ∧ Fr n0 L ∧ Keep h0 h [r1] ∧ Exa Z h r1 "java/lang/String" ∧ Fld Z h r1 "java/lang/String" "coder" "B" (.int (0 : Int32)) ∧ ∃ (a b : Addr) (k : ClassId), Fld Z h r1 "java/lang/String" "value" "[B" (.ref b) ∧ Arv Z h b k .byte (0 : Int32) [] (.int (0 : Int32)) ∧ Exa Z h a "java/lang/String" ∧ Fld Z h a "java/lang/String" "coder" "B" (.int (0 : Int32)) ∧ Fld Z h a "java/lang/String" "value" "[B" (.ref b) ∧ Lit (Z.setVm vm) "java/lang/String" 7 a
theorem pn_3 : plainName "java/lang/String" = true := by first | (simp [plainName, overriddenIn]; done) | decide +kernel
theorem ef_rm_sAF (m : MethodId) (x0 : Addr) (x1 : Addr) (x2 : Int32) (x3 : Int32) : entryFrame m #[(.ref x0), (.ref x1), (.int x2), (.int x3), .null] 6 = mkF m 0 #[.val (.ref x0), .val (.ref x1), .val (.int x2), .val (.int x3), .val .null, .unset] [] := by first | (simp [entryFrame, mkF, argsToLocals, Value.category]; done) | rfl
set_option maxRecDepth 65536 in
set_option maxHeartbeats 40000000 in
theorem rm_sAF (l : Launch) (Z : State) (a0 : Array Value) (hw : ∀ d ∈ tables_1, d.before a0 Z = true) (ws : List Jvm.Cond) (r1 : Addr) (c1 : Addr) (h0 : Heap) (n0 : Nat) (Z0 : n0 ≤ h0.size) (E1 : Exa Z h0 r1 "java/lang/String") (u2 : Value) (F1 : Fld Z h0 r1 "java/lang/String" "value" "[B" .null) (F2 : Fld Z h0 r1 "java/lang/String" "coder" "B" u2) (g1 : n0 ≤ r1) (hK0 : Ext Z.heap h0) (hcH : Jvm.Lit.constHeld Z "java/lang/String" 7) (hcW : Jvm.Lit.compactW.before a0 Z = true) :
    MetFree l (⟨"java/lang/String", "<init>", "([CIILjava/lang/Void;)V"⟩ : MethodName) (head1 (Jvm.Cond.code (⟨"java/lang/String", "<init>", "([CIILjava/lang/Void;)V"⟩ : MethodName) jdk_42_method_149_code 6 none :: ws) ({ frames := 1, cells := 2, slots := 4, locals := 13 } : Room)) (fun a U => a = #[(.ref r1), (.ref c1), (.int (0 : Int32)), (.int (0 : Int32)), .null] ∧ Z.Warmed39 U.vm ∧ U.heap = h0 ∧ IB Z U.vm []) (fun _ _ _ _ _ => True) (fun _ U o U' => ∃ v L, o = .returned v ∧ (fun Z r1 c1 => Qem Z r1) Z r1 c1  h0 n0 v U'.heap U'.vm L ∧ ReturnedEndW U o U' L ({ frames := 1, cells := 2, slots := 4, locals := 13 } : Room).cells ({ frames := 1, cells := 2, slots := 4, locals := 13 } : Room).slots) := by
  refine MetFree.of_bodySF (plainFor_of_name pn_3) hisR ?_
  intro p e s m args below meth c s₁ Bd hml0 hP hK
  obtain ⟨rfl, hZ, hh, hG⟩ := hP
  have hx := Bd.exec
  have hby := Bd.bytes
  have hml : c.maxLocals = 6 := hml0
  have hown : s.vm.findClass "java/lang/String" = some m.cls := findClass_of_methodNamed Bd.named
  have hnm := (name_of_methodNamed Bd.named Bd.method).1
  have X0 : Stand p l e ({ frames := 1, cells := 2, slots := 4, locals := 13 } : Room) s m #[(.ref r1), (.ref c1), (.int (0 : Int32)), (.int (0 : Int32)), .null] below meth c s₁ [] 0 0 := Stand.of_body Bd
  have e0 : s₁.heap = h0 := by rw [← hh, Bd.state]; rfl
  have N0 := Fr.nil n0
  have pre0 : ∀ t, Steps p.tables e below (s₁.setTop (mkF m 0 #[.val (.ref r1), .val (.ref c1), .val (.int (0 : Int32)), .val (.int (0 : Int32)), .val .null, .unset] [])) t → Steps p.tables e below (s₁.setTop (entryFrame m #[(.ref r1), (.ref c1), (.int (0 : Int32)), (.int (0 : Int32)), .null] 6)) t := fun t k => castTop (ef_rm_sAF m r1 c1 (0 : Int32) (0 : Int32)) k
  have wSa : ∀ d ∈ Bundle.stringAtoms, d.before a0 Z = true := fun d hd => hw d ((by decide +kernel : ∀ d ∈ Bundle.stringAtoms, d ∈ tables_1) d hd)
  have hkeepZ : ∀ (b : Addr) (cl : Cell), Z.heap[b]? = some cl → s.heap[b]? = some cl := fun b cl q => by rw [hh]; exact hK0.2 b cl q
  have hI : IB Z s.vm [] := hG
  obtain ⟨T1, X1, e1, st1⟩ := initO X0 hx hZ hown (hw _ (List.mem_of_getElem? (i := 16) rfl)) (hw _ (List.mem_of_getElem? (i := 17) rfl)) (hw _ (List.mem_of_getElem? (i := 18) rfl)) e0 (g := (mkF m 1 #[.val (.ref r1), .val (.ref c1), .val (.int (0 : Int32)), .val (.int (0 : Int32)), .val .null, .unset] [(.ref r1)])) rfl (by rw [hml]; rfl) rfl (hb hby d3_1) (by decide) (W := 0) (by show 2 * 0 + _ ≤ _; exact Nat.le_of_eq rfl) (by decide)
  have O0 := own_ext_refl h0
  obtain ⟨a2, T2, h2, kk2, b2, kb2, X2, e2, E2, hS2, hk2, hZ2, hown2, Ea2, Ca2, Va2, Ab2, la2, lb2, hI2, Li2, st2⟩ := ldcSVL (s := s) (vm0 := s.vm) (Ts := []) X1 hx hZ hown (hw _ (List.mem_of_getElem? (i := 19) rfl)) wSa e1 ((State.WarmedH.refl s).since _) (Nat.le_refl _) (Fr.nil _) hkeepZ hI (by simp) hcH hcW (vs := []) (z := (0 : Int32)) ⟨by decide, by first | rfl | decide⟩ (by decide) (by first | rfl | decide) (g := (mkF m 9 #[.val (.ref r1), .val (.ref c1), .val (.int (0 : Int32)), .val (.int (0 : Int32)), .val .null, .unset] [(.ref r1)])) rfl (hb hby d3_9) (n := 0) (by first | decide | simp) (by decide) (by decide) (by decide)
  have E2_r1 := E1.ext E2
  have F2_r1_value := F1.ext E2
  have F2_r1_coder := F2.ext E2
  have O2 := own_ext_trans O0 E2
  have K2 : Keep h0 h2 [r1] := (Keep.refl h0 [r1]).ext E2
  have ne_a2_r1 : a2 ≠ r1 := Fld.ne Va2 F2_r1_value (by simp)
  have ne_b2_r1 : b2 ≠ r1 := (Exa.neArv E2_r1 Ab2 (hw _ (List.mem_of_getElem? (i := 2) rfl))).symm
  obtain ⟨T3, X3, e3, st3⟩ := getF X2 hx hZ2 hown2 (host := "") (Or.inl (hw _ (List.mem_of_getElem? (i := 25) rfl))) Via.refl e2 Va2 (g := (mkF m 11 #[.val (.ref r1), .val (.ref c1), .val (.int (0 : Int32)), .val (.int (0 : Int32)), .val .null, .unset] [(.ref a2), (.ref r1)])) rfl rfl (hb hby d3_11)
  obtain ⟨T4, h4, X4, e4, W4, st4⟩ := putF X3 hx hZ2 hown2 (host := "") (Or.inl (hw _ (List.mem_of_getElem? (i := 25) rfl))) Via.refl e3 F2_r1_value E2_r1 (Or.inr ⟨(hw _ (List.mem_of_getElem? (i := 21) rfl)), rfl, hnm⟩) (hw _ (List.mem_of_getElem? (i := 2) rfl)) (ty := (.array .byte)) (by decide) rfl rfl (g := (mkF m 14 #[.val (.ref r1), .val (.ref c1), .val (.int (0 : Int32)), .val (.int (0 : Int32)), .val .null, .unset] [(.ref b2), (.ref r1)])) rfl rfl (hb hby d3_14)
  have E4_r1 := E2_r1.wr W4
  have E4_a2 := Ea2.wr W4
  have V4_b2 := Ab2.other W4 ne_b2_r1
  have F4_r1_value := F2_r1_value.same W4
  have F4_r1_coder := F2_r1_coder.other W4 (Or.inr (slot_ne (Or.inr (hw _ (List.mem_of_getElem? (i := 22) rfl))) (Or.inr (hw _ (List.mem_of_getElem? (i := 21) rfl))) (by decide) (t := .byte) (t' := (.array .byte)) (by decide) (by decide)))
  have F4_a2_coder := Ca2.other W4 (Or.inl ne_a2_r1)
  have F4_a2_value := Va2.other W4 (Or.inl ne_a2_r1)
  have K4 : Keep h0 h4 [r1] := K2.wr W4 (Or.inl (List.mem_of_getElem? (i := 0) rfl))
  have N4 := Fr.snoc X4 N0 g1
  have hk4 : kk2 ≤ h4.size := by rw [W4.size]; exact hk2
  obtain ⟨T5, X5, e5, st5⟩ := getF X4 hx hZ2 hown2 (host := "") (Or.inl (hw _ (List.mem_of_getElem? (i := 26) rfl))) Via.refl e4 F4_a2_coder (g := (mkF m 20 #[.val (.ref r1), .val (.ref c1), .val (.int (0 : Int32)), .val (.int (0 : Int32)), .val .null, .unset] [(.ref a2), (.ref r1)])) rfl rfl (hb hby d3_20)
  obtain ⟨T6, h6, X6, e6, W6, st6⟩ := putFN X5 hx hZ2 hown2 (hw _ (List.mem_of_getElem? (i := 26) rfl)) Via.refl e5 F4_r1_coder E4_r1 (Or.inr ⟨(hw _ (List.mem_of_getElem? (i := 22) rfl)), rfl, hnm⟩) (hw _ (List.mem_of_getElem? (i := 2) rfl)) (ty := .byte) (v' := (.int (0 : Int32))) (by decide) rfl rfl (g := (mkF m 23 #[.val (.ref r1), .val (.ref c1), .val (.int (0 : Int32)), .val (.int (0 : Int32)), .val .null, .unset] [(.int (0 : Int32)), (.ref r1)])) rfl rfl (hb hby d3_23)
  have E6_r1 := E4_r1.wr W6
  have E6_a2 := E4_a2.wr W6
  have V6_b2 := V4_b2.other W6 ne_b2_r1
  have F6_r1_value := F4_r1_value.other W6 (Or.inr (slot_ne (Or.inr (hw _ (List.mem_of_getElem? (i := 21) rfl))) (Or.inr (hw _ (List.mem_of_getElem? (i := 22) rfl))) (by decide) (t := (.array .byte)) (t' := .byte) (by decide) (by decide)))
  have F6_r1_coder := F4_r1_coder.same W6
  have F6_a2_coder := F4_a2_coder.other W6 (Or.inl ne_a2_r1)
  have F6_a2_value := F4_a2_value.other W6 (Or.inl ne_a2_r1)
  have K6 : Keep h0 h6 [r1] := K4.wr W6 (Or.inl (List.mem_of_getElem? (i := 0) rfl))
  have N6 := Fr.snoc X6 N4 g1
  have hk6 : kk2 ≤ h6.size := by rw [W6.size]; exact hk4
  have pre7 : ∀ t, Steps p.tables e below (T6.setTop (mkF m 26 #[.val (.ref r1), .val (.ref c1), .val (.int (0 : Int32)), .val (.int (0 : Int32)), .val .null, .unset] [])) t → Steps p.tables e below (s₁.setTop (entryFrame m #[(.ref r1), (.ref c1), (.int (0 : Int32)), (.int (0 : Int32)), .null] 6)) t := fun t k => pre0 t (by
    show Steps p.tables e below (s₁.setTop (mkF m 0 #[.val (.ref r1), .val (.ref c1), .val (.int (0 : Int32)), .val (.int (0 : Int32)), .val .null, .unset] [])) _
    refine XS.aloadN X0.here hx rfl (hb hby d3_0) rfl rfl ?_
    show Steps p.tables e below (s₁.setTop (mkF m 1 #[.val (.ref r1), .val (.ref c1), .val (.int (0 : Int32)), .val (.int (0 : Int32)), .val .null, .unset] [(.ref r1)])) _
    refine st1 _ ?_
    show Steps p.tables e below (T1.setTop (mkF m 4 #[.val (.ref r1), .val (.ref c1), .val (.int (0 : Int32)), .val (.int (0 : Int32)), .val .null, .unset] [])) _
    refine XS.iloadN X1.here hx rfl (hb hby d3_4) rfl ?_
    show Steps p.tables e below (T1.setTop (mkF m 5 #[.val (.ref r1), .val (.ref c1), .val (.int (0 : Int32)), .val (.int (0 : Int32)), .val .null, .unset] [(.int (0 : Int32))])) _
    refine XS.ifNo X1.here hx rfl (hb hby d3_5) rfl ((if0 _ _).trans (teq (by decide : ((0 : Int32) = (0 : Int32)))).2) ?_
    show Steps p.tables e below (T1.setTop (mkF m 8 #[.val (.ref r1), .val (.ref c1), .val (.int (0 : Int32)), .val (.int (0 : Int32)), .val .null, .unset] [])) _
    refine XS.aloadN X1.here hx rfl (hb hby d3_8) rfl rfl ?_
    show Steps p.tables e below (T1.setTop (mkF m 9 #[.val (.ref r1), .val (.ref c1), .val (.int (0 : Int32)), .val (.int (0 : Int32)), .val .null, .unset] [(.ref r1)])) _
    refine st2 _ ?_
    show Steps p.tables e below (T2.setTop (mkF m 11 #[.val (.ref r1), .val (.ref c1), .val (.int (0 : Int32)), .val (.int (0 : Int32)), .val .null, .unset] [(.ref a2), (.ref r1)])) _
    refine st3 _ ?_
    show Steps p.tables e below (T3.setTop (mkF m 14 #[.val (.ref r1), .val (.ref c1), .val (.int (0 : Int32)), .val (.int (0 : Int32)), .val .null, .unset] [(.ref b2), (.ref r1)])) _
    refine st4 _ ?_
    show Steps p.tables e below (T4.setTop (mkF m 17 #[.val (.ref r1), .val (.ref c1), .val (.int (0 : Int32)), .val (.int (0 : Int32)), .val .null, .unset] [])) _
    refine XS.aloadN X4.here hx rfl (hb hby d3_17) rfl rfl ?_
    show Steps p.tables e below (T4.setTop (mkF m 18 #[.val (.ref r1), .val (.ref c1), .val (.int (0 : Int32)), .val (.int (0 : Int32)), .val .null, .unset] [(.ref r1)])) _
    refine ldcAgain X4 hx hZ2 hown2 (hw _ (List.mem_of_getElem? (i := 19) rfl)) Li2 (g := (mkF m 18 #[.val (.ref r1), .val (.ref c1), .val (.int (0 : Int32)), .val (.int (0 : Int32)), .val .null, .unset] [(.ref r1)])) rfl (hb hby d3_18) _ ?_
    show Steps p.tables e below (T4.setTop (mkF m 20 #[.val (.ref r1), .val (.ref c1), .val (.int (0 : Int32)), .val (.int (0 : Int32)), .val .null, .unset] [(.ref a2), (.ref r1)])) _
    refine st5 _ ?_
    show Steps p.tables e below (T5.setTop (mkF m 23 #[.val (.ref r1), .val (.ref c1), .val (.int (0 : Int32)), .val (.int (0 : Int32)), .val .null, .unset] [(.int (0 : Int32)), (.ref r1)])) _
    refine st6 _ ?_
    exact k)
  obtain ⟨fs, hr, hrun, hended, hEnd⟩ := X6.leaveW hS2 (by rw [e6]; exact hk6) (v := none) (fun _ => rfl) (hlocks := Bd.notSynchronized)
  refine ⟨_, _, pre7 _ ?_, hrun, hended, _, _, rfl, ?_, own_endW hEnd (by decide) (by decide)⟩
  · show Steps p.tables e below (T6.setTop (mkF m 26 #[.val (.ref r1), .val (.ref c1), .val (.int (0 : Int32)), .val (.int (0 : Int32)), .val .null, .unset] [])) _
    exact X6.returnOut hx Bd.returns (hb hby d3_26) hr
  · show (fun Z r1 c1 => Qem Z r1) Z r1 c1  h0 n0 _ T6.heap T6.vm _
    rw [e6]
    exact ⟨rfl, N6, K6, E6_r1, F6_r1_coder, a2, b2, kb2, F6_r1_value, V6_b2, E6_a2, F6_a2_coder, F6_a2_value, (own_lit (Z := Z) (s := s.setVm T2.vm) Li2 X6.warmed.wide)⟩
theorem ef_rm_sAA (m : MethodId) (x0 : Addr) (x1 : Addr) (x2 : Int32) (x3 : Int32) : entryFrame m #[(.ref x0), (.ref x1), (.int x2), (.int x3), .null] 6 = mkF m 0 #[.val (.ref x0), .val (.ref x1), .val (.int x2), .val (.int x3), .val .null, .unset] [] := by first | (simp [entryFrame, mkF, argsToLocals, Value.category]; done) | rfl
set_option maxRecDepth 65536 in
set_option maxHeartbeats 40000000 in
theorem rm_sAA (l : Launch) (Z : State) (a0 : Array Value) (hw : ∀ d ∈ tables_1, d.before a0 Z = true) (ws : List Jvm.Cond) (r1 : Addr) (c1 : Addr) (h0 : Heap) (n0 : Nat) (Z0 : n0 ≤ h0.size) (E1 : Exa Z h0 r1 "java/lang/String") (u2 : Value) (F1 : Fld Z h0 r1 "java/lang/String" "value" "[B" .null) (F2 : Fld Z h0 r1 "java/lang/String" "coder" "B" u2) (g1 : n0 ≤ r1) (aL bL : Addr) (kL : ClassId) (ne1 : aL ≠ r1) (Ea : Exa Z h0 aL "java/lang/String") (Ca : Fld Z h0 aL "java/lang/String" "coder" "B" (.int (0 : Int32))) (Va : Fld Z h0 aL "java/lang/String" "value" "[B" (.ref bL)) (Ab : Arv Z h0 bL kL .byte (0 : Int32) [] (.int (0 : Int32))) (ne2 : bL ≠ r1) :
    MetFree l (⟨"java/lang/String", "<init>", "([CIILjava/lang/Void;)V"⟩ : MethodName) (head1 (Jvm.Cond.code (⟨"java/lang/String", "<init>", "([CIILjava/lang/Void;)V"⟩ : MethodName) jdk_42_method_149_code 6 none :: ws) ({ frames := 1, cells := 2, slots := 4, locals := 13 } : Room)) (fun a U => a = #[(.ref r1), (.ref c1), (.int (0 : Int32)), (.int (0 : Int32)), .null] ∧ Z.Warmed39 U.vm ∧ U.heap = h0 ∧ Lit (Z.setVm U.vm) "java/lang/String" 7 aL) (fun _ _ _ _ _ => True) (fun _ U o U' => ∃ v L, o = .returned v ∧ (fun Z r1 c1 => Qem Z r1) Z r1 c1  h0 n0 v U'.heap U'.vm L ∧ ReturnedEndW U o U' L ({ frames := 1, cells := 2, slots := 4, locals := 13 } : Room).cells ({ frames := 1, cells := 2, slots := 4, locals := 13 } : Room).slots) := by
  refine MetFree.of_bodySF (plainFor_of_name pn_3) hisR ?_
  intro p e s m args below meth c s₁ Bd hml0 hP hK
  obtain ⟨rfl, hZ, hh, hG⟩ := hP
  have hx := Bd.exec
  have hby := Bd.bytes
  have hml : c.maxLocals = 6 := hml0
  have hown : s.vm.findClass "java/lang/String" = some m.cls := findClass_of_methodNamed Bd.named
  have hnm := (name_of_methodNamed Bd.named Bd.method).1
  have X0 : Stand p l e ({ frames := 1, cells := 2, slots := 4, locals := 13 } : Room) s m #[(.ref r1), (.ref c1), (.int (0 : Int32)), (.int (0 : Int32)), .null] below meth c s₁ [] 0 0 := Stand.of_body Bd
  have e0 : s₁.heap = h0 := by rw [← hh, Bd.state]; rfl
  have N0 := Fr.nil n0
  have pre0 : ∀ t, Steps p.tables e below (s₁.setTop (mkF m 0 #[.val (.ref r1), .val (.ref c1), .val (.int (0 : Int32)), .val (.int (0 : Int32)), .val .null, .unset] [])) t → Steps p.tables e below (s₁.setTop (entryFrame m #[(.ref r1), (.ref c1), (.int (0 : Int32)), (.int (0 : Int32)), .null] 6)) t := fun t k => castTop (ef_rm_sAA m r1 c1 (0 : Int32) (0 : Int32)) k
  obtain ⟨T1, X1, e1, st1⟩ := initO X0 hx hZ hown (hw _ (List.mem_of_getElem? (i := 16) rfl)) (hw _ (List.mem_of_getElem? (i := 17) rfl)) (hw _ (List.mem_of_getElem? (i := 18) rfl)) e0 (g := (mkF m 1 #[.val (.ref r1), .val (.ref c1), .val (.int (0 : Int32)), .val (.int (0 : Int32)), .val .null, .unset] [(.ref r1)])) rfl (by rw [hml]; rfl) rfl (hb hby d3_1) (by decide) (W := 0) (by show 2 * 0 + _ ≤ _; exact Nat.le_of_eq rfl) (by decide)
  obtain ⟨T2, X2, e2, st2⟩ := getF X1 hx hZ hown (host := "") (Or.inl (hw _ (List.mem_of_getElem? (i := 25) rfl))) Via.refl e1 Va (g := (mkF m 11 #[.val (.ref r1), .val (.ref c1), .val (.int (0 : Int32)), .val (.int (0 : Int32)), .val .null, .unset] [(.ref aL), (.ref r1)])) rfl rfl (hb hby d3_11)
  obtain ⟨T3, h3, X3, e3, W3, st3⟩ := putF X2 hx hZ hown (host := "") (Or.inl (hw _ (List.mem_of_getElem? (i := 25) rfl))) Via.refl e2 F1 E1 (Or.inr ⟨(hw _ (List.mem_of_getElem? (i := 21) rfl)), rfl, hnm⟩) (hw _ (List.mem_of_getElem? (i := 2) rfl)) (ty := (.array .byte)) (by decide) rfl rfl (g := (mkF m 14 #[.val (.ref r1), .val (.ref c1), .val (.int (0 : Int32)), .val (.int (0 : Int32)), .val .null, .unset] [(.ref bL), (.ref r1)])) rfl rfl (hb hby d3_14)
  have E3_r1 := E1.wr W3
  have E3_aL := Ea.wr W3
  have V3_bL := Ab.other W3 ne2
  have F3_r1_value := F1.same W3
  have F3_r1_coder := F2.other W3 (Or.inr (slot_ne (Or.inr (hw _ (List.mem_of_getElem? (i := 22) rfl))) (Or.inr (hw _ (List.mem_of_getElem? (i := 21) rfl))) (by decide) (t := .byte) (t' := (.array .byte)) (by decide) (by decide)))
  have F3_aL_coder := Ca.other W3 (Or.inl ne1)
  have F3_aL_value := Va.other W3 (Or.inl ne1)
  have K3 : Keep h0 h3 [r1] := (Keep.refl h0 [r1]).wr W3 (Or.inl (List.mem_of_getElem? (i := 0) rfl))
  have N3 := Fr.snoc X3 N0 g1
  obtain ⟨T4, X4, e4, st4⟩ := getF X3 hx hZ hown (host := "") (Or.inl (hw _ (List.mem_of_getElem? (i := 26) rfl))) Via.refl e3 F3_aL_coder (g := (mkF m 20 #[.val (.ref r1), .val (.ref c1), .val (.int (0 : Int32)), .val (.int (0 : Int32)), .val .null, .unset] [(.ref aL), (.ref r1)])) rfl rfl (hb hby d3_20)
  obtain ⟨T5, h5, X5, e5, W5, st5⟩ := putFN X4 hx hZ hown (hw _ (List.mem_of_getElem? (i := 26) rfl)) Via.refl e4 F3_r1_coder E3_r1 (Or.inr ⟨(hw _ (List.mem_of_getElem? (i := 22) rfl)), rfl, hnm⟩) (hw _ (List.mem_of_getElem? (i := 2) rfl)) (ty := .byte) (v' := (.int (0 : Int32))) (by decide) rfl rfl (g := (mkF m 23 #[.val (.ref r1), .val (.ref c1), .val (.int (0 : Int32)), .val (.int (0 : Int32)), .val .null, .unset] [(.int (0 : Int32)), (.ref r1)])) rfl rfl (hb hby d3_23)
  have E5_r1 := E3_r1.wr W5
  have E5_aL := E3_aL.wr W5
  have V5_bL := V3_bL.other W5 ne2
  have F5_r1_value := F3_r1_value.other W5 (Or.inr (slot_ne (Or.inr (hw _ (List.mem_of_getElem? (i := 21) rfl))) (Or.inr (hw _ (List.mem_of_getElem? (i := 22) rfl))) (by decide) (t := (.array .byte)) (t' := .byte) (by decide) (by decide)))
  have F5_r1_coder := F3_r1_coder.same W5
  have F5_aL_coder := F3_aL_coder.other W5 (Or.inl ne1)
  have F5_aL_value := F3_aL_value.other W5 (Or.inl ne1)
  have K5 : Keep h0 h5 [r1] := K3.wr W5 (Or.inl (List.mem_of_getElem? (i := 0) rfl))
  have N5 := Fr.snoc X5 N3 g1
  have pre6 : ∀ t, Steps p.tables e below (T5.setTop (mkF m 26 #[.val (.ref r1), .val (.ref c1), .val (.int (0 : Int32)), .val (.int (0 : Int32)), .val .null, .unset] [])) t → Steps p.tables e below (s₁.setTop (entryFrame m #[(.ref r1), (.ref c1), (.int (0 : Int32)), (.int (0 : Int32)), .null] 6)) t := fun t k => pre0 t (by
    show Steps p.tables e below (s₁.setTop (mkF m 0 #[.val (.ref r1), .val (.ref c1), .val (.int (0 : Int32)), .val (.int (0 : Int32)), .val .null, .unset] [])) _
    refine XS.aloadN X0.here hx rfl (hb hby d3_0) rfl rfl ?_
    show Steps p.tables e below (s₁.setTop (mkF m 1 #[.val (.ref r1), .val (.ref c1), .val (.int (0 : Int32)), .val (.int (0 : Int32)), .val .null, .unset] [(.ref r1)])) _
    refine st1 _ ?_
    show Steps p.tables e below (T1.setTop (mkF m 4 #[.val (.ref r1), .val (.ref c1), .val (.int (0 : Int32)), .val (.int (0 : Int32)), .val .null, .unset] [])) _
    refine XS.iloadN X1.here hx rfl (hb hby d3_4) rfl ?_
    show Steps p.tables e below (T1.setTop (mkF m 5 #[.val (.ref r1), .val (.ref c1), .val (.int (0 : Int32)), .val (.int (0 : Int32)), .val .null, .unset] [(.int (0 : Int32))])) _
    refine XS.ifNo X1.here hx rfl (hb hby d3_5) rfl ((if0 _ _).trans (teq (by decide : ((0 : Int32) = (0 : Int32)))).2) ?_
    show Steps p.tables e below (T1.setTop (mkF m 8 #[.val (.ref r1), .val (.ref c1), .val (.int (0 : Int32)), .val (.int (0 : Int32)), .val .null, .unset] [])) _
    refine XS.aloadN X1.here hx rfl (hb hby d3_8) rfl rfl ?_
    show Steps p.tables e below (T1.setTop (mkF m 9 #[.val (.ref r1), .val (.ref c1), .val (.int (0 : Int32)), .val (.int (0 : Int32)), .val .null, .unset] [(.ref r1)])) _
    refine ldcAgain (s := s) (vm0 := s.vm) X1 hx hZ hown (hw _ (List.mem_of_getElem? (i := 19) rfl)) hG (g := (mkF m 9 #[.val (.ref r1), .val (.ref c1), .val (.int (0 : Int32)), .val (.int (0 : Int32)), .val .null, .unset] [(.ref r1)])) rfl (hb hby d3_9) _ ?_
    show Steps p.tables e below (T1.setTop (mkF m 11 #[.val (.ref r1), .val (.ref c1), .val (.int (0 : Int32)), .val (.int (0 : Int32)), .val .null, .unset] [(.ref aL), (.ref r1)])) _
    refine st2 _ ?_
    show Steps p.tables e below (T2.setTop (mkF m 14 #[.val (.ref r1), .val (.ref c1), .val (.int (0 : Int32)), .val (.int (0 : Int32)), .val .null, .unset] [(.ref bL), (.ref r1)])) _
    refine st3 _ ?_
    show Steps p.tables e below (T3.setTop (mkF m 17 #[.val (.ref r1), .val (.ref c1), .val (.int (0 : Int32)), .val (.int (0 : Int32)), .val .null, .unset] [])) _
    refine XS.aloadN X3.here hx rfl (hb hby d3_17) rfl rfl ?_
    show Steps p.tables e below (T3.setTop (mkF m 18 #[.val (.ref r1), .val (.ref c1), .val (.int (0 : Int32)), .val (.int (0 : Int32)), .val .null, .unset] [(.ref r1)])) _
    refine ldcAgain (s := s) (vm0 := s.vm) X3 hx hZ hown (hw _ (List.mem_of_getElem? (i := 19) rfl)) hG (g := (mkF m 18 #[.val (.ref r1), .val (.ref c1), .val (.int (0 : Int32)), .val (.int (0 : Int32)), .val .null, .unset] [(.ref r1)])) rfl (hb hby d3_18) _ ?_
    show Steps p.tables e below (T3.setTop (mkF m 20 #[.val (.ref r1), .val (.ref c1), .val (.int (0 : Int32)), .val (.int (0 : Int32)), .val .null, .unset] [(.ref aL), (.ref r1)])) _
    refine st4 _ ?_
    show Steps p.tables e below (T4.setTop (mkF m 23 #[.val (.ref r1), .val (.ref c1), .val (.int (0 : Int32)), .val (.int (0 : Int32)), .val .null, .unset] [(.int (0 : Int32)), (.ref r1)])) _
    refine st5 _ ?_
    exact k)
  obtain ⟨fs, hr, hrun, hended, hW, hsame⟩ := X5.leave (v := none) (fun _ => rfl)
  refine ⟨_, _, pre6 _ ?_, hrun, hended, _, _, rfl, ?_, ReturnedEndW.of_narrow ⟨_, rfl⟩ hW (hsame.mono (by decide) (by decide))⟩
  · show Steps p.tables e below (T5.setTop (mkF m 26 #[.val (.ref r1), .val (.ref c1), .val (.int (0 : Int32)), .val (.int (0 : Int32)), .val .null, .unset] [])) _
    exact X5.returnOut hx Bd.returns (hb hby d3_26) hr
  · show (fun Z r1 c1 => Qem Z r1) Z r1 c1  h0 n0 _ T5.heap T5.vm _
    rw [e5]
    exact ⟨rfl, N5, K5, E5_r1, F5_r1_coder, aL, bL, kL, F5_r1_value, V5_bL, E5_aL, F5_aL_coder, F5_aL_value, (own_lit hG X5.warmed.wide)⟩
theorem pn_2 : plainName "java/lang/String" = true := by first | (simp [plainName, overriddenIn]; done) | decide +kernel
theorem ef_rm_sBF (m : MethodId) (x0 : Addr) (x1 : Addr) : entryFrame m #[(.ref x0), (.ref x1)] 2 = mkF m 0 #[.val (.ref x0), .val (.ref x1)] [] := by first | (simp [entryFrame, mkF, argsToLocals, Value.category]; done) | rfl
set_option maxRecDepth 65536 in
set_option maxHeartbeats 40000000 in
theorem rm_sBF (l : Launch) (Z : State) (a0 : Array Value) (hw : ∀ d ∈ tables_1, d.before a0 Z = true) (ws : List Jvm.Cond) (r1 : Addr) (c1 : Addr) (h0 : Heap) (n0 : Nat) (Z0 : n0 ≤ h0.size) (E1 : Exa Z h0 r1 "java/lang/String") (u2 : Value) (F1 : Fld Z h0 r1 "java/lang/String" "value" "[B" .null) (F2 : Fld Z h0 r1 "java/lang/String" "coder" "B" u2) (g1 : n0 ≤ r1) (kc : ClassId) (vsc : List Value) (dc : Value) (Kc : Arv Z h0 c1 kc .char (0 : Int32) vsc dc) (hK0 : Ext Z.heap h0) (hcH : Jvm.Lit.constHeld Z "java/lang/String" 7) (hcW : Jvm.Lit.compactW.before a0 Z = true) :
    MetFree l (⟨"java/lang/String", "<init>", "([C)V"⟩ : MethodName) (head1 (Jvm.Cond.code (⟨"java/lang/String", "<init>", "([C)V"⟩ : MethodName) jdk_42_method_3_code 2 none :: ws) ({ frames := 2, cells := 2, slots := 4, locals := 30 } : Room)) (fun a U => a = #[(.ref r1), (.ref c1)] ∧ Z.Warmed39 U.vm ∧ U.heap = h0 ∧ IB Z U.vm []) (fun _ _ _ _ _ => True) (fun _ U o U' => ∃ v L, o = .returned v ∧ (fun Z r1 c1 => Qem Z r1) Z r1 c1  h0 n0 v U'.heap U'.vm L ∧ ReturnedEndW U o U' L ({ frames := 2, cells := 2, slots := 4, locals := 30 } : Room).cells ({ frames := 2, cells := 2, slots := 4, locals := 30 } : Room).slots) := by
  refine MetFree.of_bodySF (plainFor_of_name pn_2) hisR ?_
  intro p e s m args below meth c s₁ Bd hml0 hP hK
  obtain ⟨rfl, hZ, hh, hG⟩ := hP
  have hx := Bd.exec
  have hby := Bd.bytes
  have hml : c.maxLocals = 2 := hml0
  have hown : s.vm.findClass "java/lang/String" = some m.cls := findClass_of_methodNamed Bd.named
  have hnm := (name_of_methodNamed Bd.named Bd.method).1
  have X0 : Stand p l e ({ frames := 2, cells := 2, slots := 4, locals := 30 } : Room) s m #[(.ref r1), (.ref c1)] below meth c s₁ [] 0 0 := Stand.of_body Bd
  have e0 : s₁.heap = h0 := by rw [← hh, Bd.state]; rfl
  have N0 := Fr.nil n0
  have pre0 : ∀ t, Steps p.tables e below (s₁.setTop (mkF m 0 #[.val (.ref r1), .val (.ref c1)] [])) t → Steps p.tables e below (s₁.setTop (entryFrame m #[(.ref r1), (.ref c1)] 2)) t := fun t k => castTop (ef_rm_sBF m r1 c1) k
  obtain ⟨clc, Arc, -, Szc, Nzc, -, -⟩ := Kc
  obtain ⟨_, vq1, ⟨T1, L1, k1, n1⟩, hm1, X1, hS1, hg1, ⟨Lc1, hQ1, l1, y1, z1⟩, st1⟩ := X0.specialBackS hx (y := (⟨"java/lang/String", "<init>", "([CIILjava/lang/Void;)V"⟩ : MethodName)) rfl hown (mvT hZ (hw _ (List.mem_of_getElem? (i := 12) rfl))) (mvT hZ (hw _ (List.mem_of_getElem? (i := 13) rfl))) (mvT hZ (hw _ (List.mem_of_getElem? (i := 15) rfl))) (by decide) (own_backS (W := 0) (G := fun vm => IB Z vm []) (Q := fun v h vm L => Qem Z r1 h0 n0 v h vm L) (rm_sAF l Z a0 hw [] r1 c1 h0 n0 Z0 E1 u2 F1 F2 g1 hK0 hcH hcW) hZ (hw _ (List.mem_of_getElem? (i := 15) rfl)) (hw _ (List.mem_of_getElem? (i := 3) rfl)) (by decide) (by decide)) (g := (mkF m 6 #[.val (.ref r1), .val (.ref c1)] [.null, (.int (0 : Int32)), (.int (0 : Int32)), (.ref c1), (.ref r1)])) rfl (by rw [hml]; rfl) (Steps.refl _) (a := r1) (argsL := [(.ref c1), (.int (0 : Int32)), (.int (0 : Int32)), .null]) (rest := []) (lenOf pd_2 rfl) rfl (by show 2 * 0 + _ ≤ _; exact Nat.le_of_eq rfl) (hb hby d2_6) (fun vmw hvw => ⟨rfl, e0, own_ib hG hvw, (by decide : 0 + 2 ≤ _), (by decide : 0 + 4 ≤ _)⟩)
  dsimp only [Pt.U, Pt.locs, Pt.cells, Pt.slots] at X1 hS1 hg1 l1 y1 z1 st1 hQ1
  rw [y1, z1] at X1
  have hZ1 : Z.Warmed39 (s.setVm T1.vm).vm := State.Warmed39.trans hZ hS1.1
  have hown1 : (s.setVm T1.vm).vm.findClass "java/lang/String" = some m.cls := (hS1.1.alike.findClass _ _).trans hown
  obtain ⟨rfl, N1q, hR1⟩ := hQ1
  have N1 : Fr n0 L1 := by rw [l1]; exact Fr.app N0 N1q
  have pre2 : ∀ t, Steps p.tables e below (T1.setTop (mkF m 9 #[.val (.ref r1), .val (.ref c1)] [])) t → Steps p.tables e below (s₁.setTop (entryFrame m #[(.ref r1), (.ref c1)] 2)) t := fun t k => pre0 t (by
    show Steps p.tables e below (s₁.setTop (mkF m 0 #[.val (.ref r1), .val (.ref c1)] [])) _
    refine XS.aloadN X0.here hx rfl (hb hby d2_0) rfl rfl ?_
    show Steps p.tables e below (s₁.setTop (mkF m 1 #[.val (.ref r1), .val (.ref c1)] [(.ref r1)])) _
    refine XS.aloadN X0.here hx rfl (hb hby d2_1) rfl rfl ?_
    show Steps p.tables e below (s₁.setTop (mkF m 2 #[.val (.ref r1), .val (.ref c1)] [(.ref c1), (.ref r1)])) _
    refine XT.iconstV X0.here hx rfl (0 : Int32) (hb hby d2_2) (by decide) ?_
    show Steps p.tables e below (s₁.setTop (mkF m 3 #[.val (.ref r1), .val (.ref c1)] [(.int (0 : Int32)), (.ref c1), (.ref r1)])) _
    refine XS.aloadN X0.here hx rfl (hb hby d2_3) rfl rfl ?_
    show Steps p.tables e below (s₁.setTop (mkF m 4 #[.val (.ref r1), .val (.ref c1)] [(.ref c1), (.int (0 : Int32)), (.ref c1), (.ref r1)])) _
    refine X0.arraylength hx (by rw [e0]; exact Arc.1) (State.isArrayOf_alike hZ.alike Arc.2.1) (g := (mkF m 4 #[.val (.ref r1), .val (.ref c1)] [(.ref c1), (.int (0 : Int32)), (.ref c1), (.ref r1)])) rfl rfl (hb hby d2_4) _ ?_
    rw [len_of Szc Nzc]
    show Steps p.tables e below (s₁.setTop (mkF m 5 #[.val (.ref r1), .val (.ref c1)] [(.int (0 : Int32)), (.int (0 : Int32)), (.ref c1), (.ref r1)])) _
    refine XS.aconstNull X0.here hx rfl (hb hby d2_5) ?_
    show Steps p.tables e below (s₁.setTop (mkF m 6 #[.val (.ref r1), .val (.ref c1)] [.null, (.int (0 : Int32)), (.int (0 : Int32)), (.ref c1), (.ref r1)])) _
    refine st1.trans ?_
    exact k)
  obtain ⟨fs, hr, hrun, hended, hEnd⟩ := X1.leaveW hS1 (Nat.le_refl T1.heap.size) (v := none) (fun _ => rfl) (hlocks := Bd.notSynchronized)
  refine ⟨_, _, pre2 _ ?_, hrun, hended, _, _, rfl, ?_, own_endW hEnd (by decide) (by decide)⟩
  · show Steps p.tables e below (T1.setTop (mkF m 9 #[.val (.ref r1), .val (.ref c1)] [])) _
    exact X1.returnOut hx Bd.returns (hb hby d2_9) hr
  · show (fun Z r1 c1 => Qem Z r1) Z r1 c1  h0 n0 _ T1.heap T1.vm _
    exact ⟨rfl, N1, hR1⟩
theorem ef_rm_sBA (m : MethodId) (x0 : Addr) (x1 : Addr) : entryFrame m #[(.ref x0), (.ref x1)] 2 = mkF m 0 #[.val (.ref x0), .val (.ref x1)] [] := by first | (simp [entryFrame, mkF, argsToLocals, Value.category]; done) | rfl
set_option maxRecDepth 65536 in
set_option maxHeartbeats 40000000 in
theorem rm_sBA (l : Launch) (Z : State) (a0 : Array Value) (hw : ∀ d ∈ tables_1, d.before a0 Z = true) (ws : List Jvm.Cond) (r1 : Addr) (c1 : Addr) (h0 : Heap) (n0 : Nat) (Z0 : n0 ≤ h0.size) (E1 : Exa Z h0 r1 "java/lang/String") (u2 : Value) (F1 : Fld Z h0 r1 "java/lang/String" "value" "[B" .null) (F2 : Fld Z h0 r1 "java/lang/String" "coder" "B" u2) (g1 : n0 ≤ r1) (kc : ClassId) (vsc : List Value) (dc : Value) (Kc : Arv Z h0 c1 kc .char (0 : Int32) vsc dc) (aL bL : Addr) (kL : ClassId) (ne1 : aL ≠ r1) (Ea : Exa Z h0 aL "java/lang/String") (Ca : Fld Z h0 aL "java/lang/String" "coder" "B" (.int (0 : Int32))) (Va : Fld Z h0 aL "java/lang/String" "value" "[B" (.ref bL)) (Ab : Arv Z h0 bL kL .byte (0 : Int32) [] (.int (0 : Int32))) (ne2 : bL ≠ r1) :
    MetFree l (⟨"java/lang/String", "<init>", "([C)V"⟩ : MethodName) (head1 (Jvm.Cond.code (⟨"java/lang/String", "<init>", "([C)V"⟩ : MethodName) jdk_42_method_3_code 2 none :: ws) ({ frames := 2, cells := 2, slots := 4, locals := 30 } : Room)) (fun a U => a = #[(.ref r1), (.ref c1)] ∧ Z.Warmed39 U.vm ∧ U.heap = h0 ∧ Lit (Z.setVm U.vm) "java/lang/String" 7 aL) (fun _ _ _ _ _ => True) (fun _ U o U' => ∃ v L, o = .returned v ∧ (fun Z r1 c1 => Qem Z r1) Z r1 c1  h0 n0 v U'.heap U'.vm L ∧ ReturnedEndW U o U' L ({ frames := 2, cells := 2, slots := 4, locals := 30 } : Room).cells ({ frames := 2, cells := 2, slots := 4, locals := 30 } : Room).slots) := by
  refine MetFree.of_bodySF (plainFor_of_name pn_2) hisR ?_
  intro p e s m args below meth c s₁ Bd hml0 hP hK
  obtain ⟨rfl, hZ, hh, hG⟩ := hP
  have hx := Bd.exec
  have hby := Bd.bytes
  have hml : c.maxLocals = 2 := hml0
  have hown : s.vm.findClass "java/lang/String" = some m.cls := findClass_of_methodNamed Bd.named
  have hnm := (name_of_methodNamed Bd.named Bd.method).1
  have X0 : Stand p l e ({ frames := 2, cells := 2, slots := 4, locals := 30 } : Room) s m #[(.ref r1), (.ref c1)] below meth c s₁ [] 0 0 := Stand.of_body Bd
  have e0 : s₁.heap = h0 := by rw [← hh, Bd.state]; rfl
  have N0 := Fr.nil n0
  have pre0 : ∀ t, Steps p.tables e below (s₁.setTop (mkF m 0 #[.val (.ref r1), .val (.ref c1)] [])) t → Steps p.tables e below (s₁.setTop (entryFrame m #[(.ref r1), (.ref c1)] 2)) t := fun t k => castTop (ef_rm_sBA m r1 c1) k
  obtain ⟨clc, Arc, -, Szc, Nzc, -, -⟩ := Kc
  obtain ⟨_, vq1, ⟨T1, L1, k1, n1⟩, hm1, X1, hS1, hg1, ⟨Lc1, hQ1, l1, y1, z1⟩, st1⟩ := X0.specialBackS hx (y := (⟨"java/lang/String", "<init>", "([CIILjava/lang/Void;)V"⟩ : MethodName)) rfl hown (mvT hZ (hw _ (List.mem_of_getElem? (i := 12) rfl))) (mvT hZ (hw _ (List.mem_of_getElem? (i := 13) rfl))) (mvT hZ (hw _ (List.mem_of_getElem? (i := 15) rfl))) (by decide) (own_backS (W := 0) (G := fun vm => Lit (Z.setVm vm) "java/lang/String" 7 aL) (Q := fun v h vm L => Qem Z r1 h0 n0 v h vm L) (rm_sAA l Z a0 hw [] r1 c1 h0 n0 Z0 E1 u2 F1 F2 g1 aL bL kL ne1 Ea Ca Va Ab ne2) hZ (hw _ (List.mem_of_getElem? (i := 15) rfl)) (hw _ (List.mem_of_getElem? (i := 3) rfl)) (by decide) (by decide)) (g := (mkF m 6 #[.val (.ref r1), .val (.ref c1)] [.null, (.int (0 : Int32)), (.int (0 : Int32)), (.ref c1), (.ref r1)])) rfl (by rw [hml]; rfl) (Steps.refl _) (a := r1) (argsL := [(.ref c1), (.int (0 : Int32)), (.int (0 : Int32)), .null]) (rest := []) (lenOf pd_2 rfl) rfl (by show 2 * 0 + _ ≤ _; exact Nat.le_of_eq rfl) (hb hby d2_6) (fun vmw hvw => ⟨rfl, e0, own_lit hG hvw.wide, (by decide : 0 + 2 ≤ _), (by decide : 0 + 4 ≤ _)⟩)
  dsimp only [Pt.U, Pt.locs, Pt.cells, Pt.slots] at X1 hS1 hg1 l1 y1 z1 st1 hQ1
  rw [y1, z1] at X1
  have hZ1 : Z.Warmed39 (s.setVm T1.vm).vm := State.Warmed39.trans hZ hS1.1
  have hown1 : (s.setVm T1.vm).vm.findClass "java/lang/String" = some m.cls := (hS1.1.alike.findClass _ _).trans hown
  obtain ⟨rfl, N1q, hR1⟩ := hQ1
  have N1 : Fr n0 L1 := by rw [l1]; exact Fr.app N0 N1q
  have pre2 : ∀ t, Steps p.tables e below (T1.setTop (mkF m 9 #[.val (.ref r1), .val (.ref c1)] [])) t → Steps p.tables e below (s₁.setTop (entryFrame m #[(.ref r1), (.ref c1)] 2)) t := fun t k => pre0 t (by
    show Steps p.tables e below (s₁.setTop (mkF m 0 #[.val (.ref r1), .val (.ref c1)] [])) _
    refine XS.aloadN X0.here hx rfl (hb hby d2_0) rfl rfl ?_
    show Steps p.tables e below (s₁.setTop (mkF m 1 #[.val (.ref r1), .val (.ref c1)] [(.ref r1)])) _
    refine XS.aloadN X0.here hx rfl (hb hby d2_1) rfl rfl ?_
    show Steps p.tables e below (s₁.setTop (mkF m 2 #[.val (.ref r1), .val (.ref c1)] [(.ref c1), (.ref r1)])) _
    refine XT.iconstV X0.here hx rfl (0 : Int32) (hb hby d2_2) (by decide) ?_
    show Steps p.tables e below (s₁.setTop (mkF m 3 #[.val (.ref r1), .val (.ref c1)] [(.int (0 : Int32)), (.ref c1), (.ref r1)])) _
    refine XS.aloadN X0.here hx rfl (hb hby d2_3) rfl rfl ?_
    show Steps p.tables e below (s₁.setTop (mkF m 4 #[.val (.ref r1), .val (.ref c1)] [(.ref c1), (.int (0 : Int32)), (.ref c1), (.ref r1)])) _
    refine X0.arraylength hx (by rw [e0]; exact Arc.1) (State.isArrayOf_alike hZ.alike Arc.2.1) (g := (mkF m 4 #[.val (.ref r1), .val (.ref c1)] [(.ref c1), (.int (0 : Int32)), (.ref c1), (.ref r1)])) rfl rfl (hb hby d2_4) _ ?_
    rw [len_of Szc Nzc]
    show Steps p.tables e below (s₁.setTop (mkF m 5 #[.val (.ref r1), .val (.ref c1)] [(.int (0 : Int32)), (.int (0 : Int32)), (.ref c1), (.ref r1)])) _
    refine XS.aconstNull X0.here hx rfl (hb hby d2_5) ?_
    show Steps p.tables e below (s₁.setTop (mkF m 6 #[.val (.ref r1), .val (.ref c1)] [.null, (.int (0 : Int32)), (.int (0 : Int32)), (.ref c1), (.ref r1)])) _
    refine st1.trans ?_
    exact k)
  obtain ⟨fs, hr, hrun, hended, hEnd⟩ := X1.leaveW hS1 (Nat.le_refl T1.heap.size) (v := none) (fun _ => rfl) (hlocks := Bd.notSynchronized)
  refine ⟨_, _, pre2 _ ?_, hrun, hended, _, _, rfl, ?_, own_endW hEnd (by decide) (by decide)⟩
  · show Steps p.tables e below (T1.setTop (mkF m 9 #[.val (.ref r1), .val (.ref c1)] [])) _
    exact X1.returnOut hx Bd.returns (hb hby d2_9) hr
  · show (fun Z r1 c1 => Qem Z r1) Z r1 c1  h0 n0 _ T1.heap T1.vm _
    exact ⟨rfl, N1, hR1⟩
def own_is (L x y : Int32) (cs : List Int32) : Prop := (L = (0 : Int32) ∧ cs = []) ∨ (L = (1 : Int32) ∧ cs = [x]) ∨ (L = (2 : Int32) ∧ cs = [x, y])
def own_ke (cs ds : List Int32) (k : Int32) : Prop := (k = (1 : Int32) ∧ cs = ds) ∨ (k = (0 : Int32) ∧ ¬ cs = ds)
theorem own_kel {L1 L2 x0 x1 y0 y1 : Int32} {cs ds : List Int32} (hcs : own_is L1 x0 x1 cs) (hds : own_is L2 y0 y1 ds) : cs = ds ↔ (L1 = L2 ∧ (L1 < (1 : Int32) ∨ x0 = y0) ∧ (L1 < (2 : Int32) ∨ x1 = y1)) := by
  have a1 : ¬ (1 : Int32) < 1 := by decide
  have a2 : (0 : Int32) < 1 := by decide
  have a3 : (0 : Int32) < 2 := by decide
  have a4 : (1 : Int32) < 2 := by decide
  have a5 : ¬ (2 : Int32) < 1 := by decide
  have a6 : ¬ (2 : Int32) < 2 := by decide
  have d1 : ¬ (0 : Int32) = 1 := by decide
  have d2 : ¬ (0 : Int32) = 2 := by decide
  have d3 : ¬ (1 : Int32) = 2 := by decide
  have d4 : ¬ (1 : Int32) = 0 := by decide
  have d5 : ¬ (2 : Int32) = 0 := by decide
  have d6 : ¬ (2 : Int32) = 1 := by decide
  rcases hcs with ⟨rfl, rfl⟩ | ⟨rfl, rfl⟩ | ⟨rfl, rfl⟩ <;> rcases hds with ⟨rfl, rfl⟩ | ⟨rfl, rfl⟩ | ⟨rfl, rfl⟩ <;> simp [a1, a2, a3, a4, a5, a6, d1, d2, d3, d4, d5, d6]
set_option maxRecDepth 65536 in
set_option maxHeartbeats 40000000 in
theorem own_tail {p : Program} {l : Launch} {e : Env} {s : State} {m : MethodId} {args : Array Value} {below : List Frame} {meth : Method} {c : Code} {T0 START : State} {vm0 : Vm} {locs : List Loc} {k0 : Nat} (Z : State) (a0 : Array Value) (hw : ∀ d ∈ tables_1, d.before a0 Z = true) (p1 p2 p3 p4 p5 ln1 x0 x1 y0 y1 ln2 bo1 bo2 kd : Int32) (s1 s2 : Addr) (cs ds : List Int32) (h0 : Heap) (n0 : Nat) (Z0 : n0 ≤ h0.size)
    (X0 : Stand p l e room_1 (s.setVm vm0) m args below meth c T0 locs 8 20) (hx : p.tables.exec = Jvm.exec) (hby : c.code = code) (hml : c.maxLocals = 22) (hret : meth.sig.returnType = some .boolean) (hlk : meth.locks = false) (hZ : Z.Warmed39 (s.setVm vm0).vm) (hown : (s.setVm vm0).vm.findClass "com/example/steadyhand/steadyhand/history/RecordedExecutionEqualsPinLaw" = some m.cls) (hS : s.Since vm0 k0) (hk0 : k0 ≤ h0.size) (e0 : T0.heap = h0) (N0 : Fr n0 locs) (S1 : own_str Z h0 s1 cs) (S2 : own_str Z h0 s2 ds) (hcs : own_is ln1 x0 x1 cs) (hds : own_is ln2 y0 y1 ds) (hb1 : own_bo bo1) (hb2 : own_bo bo2) (zc : Int32) (Sc : Sta Z h0 "java/lang/String" "COMPACT_STRINGS" "Z" (.int zc)) (hzc : ¬ zc = 0)
    (pre0 : ∀ t, Steps p.tables e below (T0.setTop (mkF m 157 #[.val (.int p1), .val (.int p2), .val (.int p3), .val (.int p4), .val (.int p5), .val (.int ln1), .val (.int x0), .val (.int x1), .val (.int y0), .val (.int y1), .val (.int ln2), .val (.int bo1), .val (.int bo2), .val (.int kd), .val (.ref s1), .val (.ref s2), .unset, .unset, .unset, .unset, .unset, .unset] [])) t → Steps p.tables e below START t) :
    ∃ s₂ o, Steps p.tables e below START s₂ ∧ s₂.status = .running ∧ Ended s₂ below o ∧ ∃ v L, o = .returned v ∧ (v = some (.int 1) ∧ Fr n0 L) ∧ ReturnedEndW s o s₂ L 32 1152 := by
  have O0 := own_ext_refl h0
  obtain ⟨T1, h1, X1, e1, E1, A1, D1, -, st1⟩ := newO X0 hx hZ hown (hw _ (List.mem_of_getElem? (i := 27) rfl)) (hw _ (List.mem_of_getElem? (i := 28) rfl)) (hw _ (List.mem_of_getElem? (i := 29) rfl)) e0 (g := (mkF m 157 #[.val (.int p1), .val (.int p2), .val (.int p3), .val (.int p4), .val (.int p5), .val (.int ln1), .val (.int x0), .val (.int x1), .val (.int y0), .val (.int y1), .val (.int ln2), .val (.int bo1), .val (.int bo2), .val (.int kd), .val (.ref s1), .val (.ref s2), .unset, .unset, .unset, .unset, .unset, .unset] [])) rfl (hb hby at_157) (by decide) (by decide)
  obtain ⟨b1, g1⟩ : ∃ z, z = h0.size := ⟨_, rfl⟩
  rw [← g1] at A1 D1 st1
  have z_b1 : h0.size ≤ b1 := Nat.le_trans O0.1 (Nat.le_of_eq g1.symm)
  have g_b1 : n0 ≤ b1 := Nat.le_trans Z0 z_b1
  have O1 := own_ext_trans O0 E1
  have hk1 : k0 ≤ h1.size := Nat.le_trans hk0 E1.1
  have F1_b1_key : Fld Z h1 b1 "com/example/steadyhand/steadyhand/history/RecordedExecution" "key" "Ljava/lang/String;" .null := D1 (Or.inr (hw _ (List.mem_of_getElem? (i := 40) rfl))) (ty := (.object "java/lang/String")) (by decide)
  have F1_b1_passed : Fld Z h1 b1 "com/example/steadyhand/steadyhand/history/RecordedExecution" "passed" "Z" (.int (0 : Int32)) := D1 (Or.inr (hw _ (List.mem_of_getElem? (i := 42) rfl))) (ty := .boolean) (by decide)
  obtain ⟨_, _, ⟨T2, L2, k2, n2⟩, -, X2, ⟨Lc2, hQ2, l2, y2, z2⟩, st2⟩ := X1.specialBack hx (y := (⟨"com/example/steadyhand/steadyhand/history/RecordedExecution", "<init>", "(Ljava/lang/String;Z)V"⟩ : MethodName)) rfl hown (mvT hZ (hw _ (List.mem_of_getElem? (i := 30) rfl))) (mvT hZ (hw _ (List.mem_of_getElem? (i := 31) rfl))) (mvT hZ (hw _ (List.mem_of_getElem? (i := 32) rfl))) (by decide) (backOf (W := 1) (rm_ri l Z a0 hw [] b1 s1 bo1 h1 n0 (Nat.le_trans Z0 O1.1) A1 F1_b1_key F1_b1_passed g_b1 (S1.ext O1).1 hb1) hZ (hw _ (List.mem_of_getElem? (i := 32) rfl)) (hw _ (List.mem_of_getElem? (i := 29) rfl)) (by decide) (by decide)) (g := (mkF m 165 #[.val (.int p1), .val (.int p2), .val (.int p3), .val (.int p4), .val (.int p5), .val (.int ln1), .val (.int x0), .val (.int x1), .val (.int y0), .val (.int y1), .val (.int ln2), .val (.int bo1), .val (.int bo2), .val (.int kd), .val (.ref s1), .val (.ref s2), .unset, .unset, .unset, .unset, .unset, .unset] [(.int bo1), (.ref s1), (.ref b1), (.ref b1)])) rfl (by rw [hml]; rfl) (Steps.refl _) (a := b1) (argsL := [(.ref s1), (.int bo1)]) (rest := [(.ref b1)]) (lenOf pd_3 rfl) rfl (by show 2 * 0 + _ ≤ _; exact Nat.le_of_eq rfl) (hb hby at_165) (fun _ _ => ⟨rfl, e1, (by decide : 9 + 0 ≤ _), (by decide : 22 + 0 ≤ _)⟩)
  dsimp only [Pt.U, Pt.locs, Pt.cells, Pt.slots] at X2 l2 y2 z2 st2 hQ2
  rw [y2, z2] at X2
  obtain ⟨rfl, N2q, K2c, E2c, F2c, F2d⟩ := hQ2
  have N2 : Fr n0 L2 := by rw [l2]; exact Fr.app N0 N2q
  have E2_b1 := A1.keep K2c
  have O2 := own_ext_keep O1 K2c (allS z_b1 all0)
  have hk2 : k0 ≤ T2.heap.size := Nat.le_trans hk1 K2c.1
  have pre3 : ∀ t, Steps p.tables e below (T2.setTop (mkF m 174 #[.val (.int p1), .val (.int p2), .val (.int p3), .val (.int p4), .val (.int p5), .val (.int ln1), .val (.int x0), .val (.int x1), .val (.int y0), .val (.int y1), .val (.int ln2), .val (.int bo1), .val (.int bo2), .val (.int kd), .val (.ref s1), .val (.ref s2), .val (.ref b1), .unset, .unset, .unset, .unset, .unset] [(.int ln2), (.int ln1)])) t → Steps p.tables e below START t := fun t k => pre0 t (by
    show Steps p.tables e below (T0.setTop (mkF m 157 #[.val (.int p1), .val (.int p2), .val (.int p3), .val (.int p4), .val (.int p5), .val (.int ln1), .val (.int x0), .val (.int x1), .val (.int y0), .val (.int y1), .val (.int ln2), .val (.int bo1), .val (.int bo2), .val (.int kd), .val (.ref s1), .val (.ref s2), .unset, .unset, .unset, .unset, .unset, .unset] [])) _
    refine st1 _ ?_
    show Steps p.tables e below (T1.setTop (mkF m 160 #[.val (.int p1), .val (.int p2), .val (.int p3), .val (.int p4), .val (.int p5), .val (.int ln1), .val (.int x0), .val (.int x1), .val (.int y0), .val (.int y1), .val (.int ln2), .val (.int bo1), .val (.int bo2), .val (.int kd), .val (.ref s1), .val (.ref s2), .unset, .unset, .unset, .unset, .unset, .unset] [(.ref b1)])) _
    refine XS.dup X1.here hx rfl (hb hby at_160) rfl rfl ?_
    show Steps p.tables e below (T1.setTop (mkF m 161 #[.val (.int p1), .val (.int p2), .val (.int p3), .val (.int p4), .val (.int p5), .val (.int ln1), .val (.int x0), .val (.int x1), .val (.int y0), .val (.int y1), .val (.int ln2), .val (.int bo1), .val (.int bo2), .val (.int kd), .val (.ref s1), .val (.ref s2), .unset, .unset, .unset, .unset, .unset, .unset] [(.ref b1), (.ref b1)])) _
    refine XS.aload X1.here hx rfl (hb hby at_161) rfl rfl ?_
    show Steps p.tables e below (T1.setTop (mkF m 163 #[.val (.int p1), .val (.int p2), .val (.int p3), .val (.int p4), .val (.int p5), .val (.int ln1), .val (.int x0), .val (.int x1), .val (.int y0), .val (.int y1), .val (.int ln2), .val (.int bo1), .val (.int bo2), .val (.int kd), .val (.ref s1), .val (.ref s2), .unset, .unset, .unset, .unset, .unset, .unset] [(.ref s1), (.ref b1), (.ref b1)])) _
    refine XS.iload X1.here hx rfl (hb hby at_163) rfl ?_
    show Steps p.tables e below (T1.setTop (mkF m 165 #[.val (.int p1), .val (.int p2), .val (.int p3), .val (.int p4), .val (.int p5), .val (.int ln1), .val (.int x0), .val (.int x1), .val (.int y0), .val (.int y1), .val (.int ln2), .val (.int bo1), .val (.int bo2), .val (.int kd), .val (.ref s1), .val (.ref s2), .unset, .unset, .unset, .unset, .unset, .unset] [(.int bo1), (.ref s1), (.ref b1), (.ref b1)])) _
    refine st2.trans ?_
    show Steps p.tables e below (T2.setTop (mkF m 168 #[.val (.int p1), .val (.int p2), .val (.int p3), .val (.int p4), .val (.int p5), .val (.int ln1), .val (.int x0), .val (.int x1), .val (.int y0), .val (.int y1), .val (.int ln2), .val (.int bo1), .val (.int bo2), .val (.int kd), .val (.ref s1), .val (.ref s2), .unset, .unset, .unset, .unset, .unset, .unset] [(.ref b1)])) _
    refine XS.astore X2.here hx rfl (hb hby at_168) rfl rfl (l' := #[.val (.int p1), .val (.int p2), .val (.int p3), .val (.int p4), .val (.int p5), .val (.int ln1), .val (.int x0), .val (.int x1), .val (.int y0), .val (.int y1), .val (.int ln2), .val (.int bo1), .val (.int bo2), .val (.int kd), .val (.ref s1), .val (.ref s2), .val (.ref b1), .unset, .unset, .unset, .unset, .unset]) rfl ?_
    show Steps p.tables e below (T2.setTop (mkF m 170 #[.val (.int p1), .val (.int p2), .val (.int p3), .val (.int p4), .val (.int p5), .val (.int ln1), .val (.int x0), .val (.int x1), .val (.int y0), .val (.int y1), .val (.int ln2), .val (.int bo1), .val (.int bo2), .val (.int kd), .val (.ref s1), .val (.ref s2), .val (.ref b1), .unset, .unset, .unset, .unset, .unset] [])) _
    refine XS.iload X2.here hx rfl (hb hby at_170) rfl ?_
    show Steps p.tables e below (T2.setTop (mkF m 172 #[.val (.int p1), .val (.int p2), .val (.int p3), .val (.int p4), .val (.int p5), .val (.int ln1), .val (.int x0), .val (.int x1), .val (.int y0), .val (.int y1), .val (.int ln2), .val (.int bo1), .val (.int bo2), .val (.int kd), .val (.ref s1), .val (.ref s2), .val (.ref b1), .unset, .unset, .unset, .unset, .unset] [(.int ln1)])) _
    refine XS.iload X2.here hx rfl (hb hby at_172) rfl ?_
    exact k)
  obtain ⟨ke, h_ke, preM4⟩ : ∃ ke : Int32, own_ke cs ds ke ∧ ∀ t, Steps p.tables e below (T2.setTop (mkF m 208 #[.val (.int p1), .val (.int p2), .val (.int p3), .val (.int p4), .val (.int p5), .val (.int ln1), .val (.int x0), .val (.int x1), .val (.int y0), .val (.int y1), .val (.int ln2), .val (.int bo1), .val (.int bo2), .val (.int kd), .val (.ref s1), .val (.ref s2), .val (.ref b1), .unset, .unset, .unset, .unset, .unset] [(.int ke)])) t → Steps p.tables e below START t := by
    by_cases hm174_5 : ln1 = ln2
    · have _ := 0
      by_cases hm180_6 : ln1 < (1 : Int32)
      · have _ := 0
        by_cases hm193_7 : ln1 < (2 : Int32)
        · have _ := 0
          exact ⟨(1 : Int32), Or.inl ⟨rfl, (own_kel hcs hds).mpr ⟨hm174_5, Or.inl hm180_6, Or.inl hm193_7⟩⟩, fun t k => pre3 t (by
            show Steps p.tables e below (T2.setTop (mkF m 174 #[.val (.int p1), .val (.int p2), .val (.int p3), .val (.int p4), .val (.int p5), .val (.int ln1), .val (.int x0), .val (.int x1), .val (.int y0), .val (.int y1), .val (.int ln2), .val (.int bo1), .val (.int bo2), .val (.int kd), .val (.ref s1), .val (.ref s2), .val (.ref b1), .unset, .unset, .unset, .unset, .unset] [(.int ln2), (.int ln1)])) _
            refine XS.icmpNo X2.here hx rfl (hb hby at_174) rfl (teq hm174_5).2 ?_
            show Steps p.tables e below (T2.setTop (mkF m 177 #[.val (.int p1), .val (.int p2), .val (.int p3), .val (.int p4), .val (.int p5), .val (.int ln1), .val (.int x0), .val (.int x1), .val (.int y0), .val (.int y1), .val (.int ln2), .val (.int bo1), .val (.int bo2), .val (.int kd), .val (.ref s1), .val (.ref s2), .val (.ref b1), .unset, .unset, .unset, .unset, .unset] [])) _
            refine XS.iload X2.here hx rfl (hb hby at_177) rfl ?_
            show Steps p.tables e below (T2.setTop (mkF m 179 #[.val (.int p1), .val (.int p2), .val (.int p3), .val (.int p4), .val (.int p5), .val (.int ln1), .val (.int x0), .val (.int x1), .val (.int y0), .val (.int y1), .val (.int ln2), .val (.int bo1), .val (.int bo2), .val (.int kd), .val (.ref s1), .val (.ref s2), .val (.ref b1), .unset, .unset, .unset, .unset, .unset] [(.int ln1)])) _
            refine XT.iconstV X2.here hx rfl (1 : Int32) (hb hby at_179) (by decide) ?_
            show Steps p.tables e below (T2.setTop (mkF m 180 #[.val (.int p1), .val (.int p2), .val (.int p3), .val (.int p4), .val (.int p5), .val (.int ln1), .val (.int x0), .val (.int x1), .val (.int y0), .val (.int y1), .val (.int ln2), .val (.int bo1), .val (.int bo2), .val (.int kd), .val (.ref s1), .val (.ref s2), .val (.ref b1), .unset, .unset, .unset, .unset, .unset] [(.int (1 : Int32)), (.int ln1)])) _
            refine XS.icmpYes X2.here hx rfl (pc0 := 180) (pc' := 190) rfl (hb hby at_180) rfl (tlt hm180_6).1 (by decide) (by decide) ?_
            show Steps p.tables e below (T2.setTop (mkF m 190 #[.val (.int p1), .val (.int p2), .val (.int p3), .val (.int p4), .val (.int p5), .val (.int ln1), .val (.int x0), .val (.int x1), .val (.int y0), .val (.int y1), .val (.int ln2), .val (.int bo1), .val (.int bo2), .val (.int kd), .val (.ref s1), .val (.ref s2), .val (.ref b1), .unset, .unset, .unset, .unset, .unset] [])) _
            refine XS.iload X2.here hx rfl (hb hby at_190) rfl ?_
            show Steps p.tables e below (T2.setTop (mkF m 192 #[.val (.int p1), .val (.int p2), .val (.int p3), .val (.int p4), .val (.int p5), .val (.int ln1), .val (.int x0), .val (.int x1), .val (.int y0), .val (.int y1), .val (.int ln2), .val (.int bo1), .val (.int bo2), .val (.int kd), .val (.ref s1), .val (.ref s2), .val (.ref b1), .unset, .unset, .unset, .unset, .unset] [(.int ln1)])) _
            refine XT.iconstV X2.here hx rfl (2 : Int32) (hb hby at_192) (by decide) ?_
            show Steps p.tables e below (T2.setTop (mkF m 193 #[.val (.int p1), .val (.int p2), .val (.int p3), .val (.int p4), .val (.int p5), .val (.int ln1), .val (.int x0), .val (.int x1), .val (.int y0), .val (.int y1), .val (.int ln2), .val (.int bo1), .val (.int bo2), .val (.int kd), .val (.ref s1), .val (.ref s2), .val (.ref b1), .unset, .unset, .unset, .unset, .unset] [(.int (2 : Int32)), (.int ln1)])) _
            refine XS.icmpYes X2.here hx rfl (pc0 := 193) (pc' := 203) rfl (hb hby at_193) rfl (tlt hm193_7).1 (by decide) (by decide) ?_
            show Steps p.tables e below (T2.setTop (mkF m 203 #[.val (.int p1), .val (.int p2), .val (.int p3), .val (.int p4), .val (.int p5), .val (.int ln1), .val (.int x0), .val (.int x1), .val (.int y0), .val (.int y1), .val (.int ln2), .val (.int bo1), .val (.int bo2), .val (.int kd), .val (.ref s1), .val (.ref s2), .val (.ref b1), .unset, .unset, .unset, .unset, .unset] [])) _
            refine XT.iconstV X2.here hx rfl (1 : Int32) (hb hby at_203) (by decide) ?_
            show Steps p.tables e below (T2.setTop (mkF m 204 #[.val (.int p1), .val (.int p2), .val (.int p3), .val (.int p4), .val (.int p5), .val (.int ln1), .val (.int x0), .val (.int x1), .val (.int y0), .val (.int y1), .val (.int ln2), .val (.int bo1), .val (.int bo2), .val (.int kd), .val (.ref s1), .val (.ref s2), .val (.ref b1), .unset, .unset, .unset, .unset, .unset] [(.int (1 : Int32))])) _
            refine XS.goto X2.here hx rfl (pc0 := 204) (pc' := 208) rfl (hb hby at_204) (by decide) (by decide) ?_
            exact k)⟩
        · have _ := 0
          by_cases hm200_8 : x1 = y1
          · have _ := 0
            exact ⟨(1 : Int32), Or.inl ⟨rfl, (own_kel hcs hds).mpr ⟨hm174_5, Or.inl hm180_6, Or.inr hm200_8⟩⟩, fun t k => pre3 t (by
              show Steps p.tables e below (T2.setTop (mkF m 174 #[.val (.int p1), .val (.int p2), .val (.int p3), .val (.int p4), .val (.int p5), .val (.int ln1), .val (.int x0), .val (.int x1), .val (.int y0), .val (.int y1), .val (.int ln2), .val (.int bo1), .val (.int bo2), .val (.int kd), .val (.ref s1), .val (.ref s2), .val (.ref b1), .unset, .unset, .unset, .unset, .unset] [(.int ln2), (.int ln1)])) _
              refine XS.icmpNo X2.here hx rfl (hb hby at_174) rfl (teq hm174_5).2 ?_
              show Steps p.tables e below (T2.setTop (mkF m 177 #[.val (.int p1), .val (.int p2), .val (.int p3), .val (.int p4), .val (.int p5), .val (.int ln1), .val (.int x0), .val (.int x1), .val (.int y0), .val (.int y1), .val (.int ln2), .val (.int bo1), .val (.int bo2), .val (.int kd), .val (.ref s1), .val (.ref s2), .val (.ref b1), .unset, .unset, .unset, .unset, .unset] [])) _
              refine XS.iload X2.here hx rfl (hb hby at_177) rfl ?_
              show Steps p.tables e below (T2.setTop (mkF m 179 #[.val (.int p1), .val (.int p2), .val (.int p3), .val (.int p4), .val (.int p5), .val (.int ln1), .val (.int x0), .val (.int x1), .val (.int y0), .val (.int y1), .val (.int ln2), .val (.int bo1), .val (.int bo2), .val (.int kd), .val (.ref s1), .val (.ref s2), .val (.ref b1), .unset, .unset, .unset, .unset, .unset] [(.int ln1)])) _
              refine XT.iconstV X2.here hx rfl (1 : Int32) (hb hby at_179) (by decide) ?_
              show Steps p.tables e below (T2.setTop (mkF m 180 #[.val (.int p1), .val (.int p2), .val (.int p3), .val (.int p4), .val (.int p5), .val (.int ln1), .val (.int x0), .val (.int x1), .val (.int y0), .val (.int y1), .val (.int ln2), .val (.int bo1), .val (.int bo2), .val (.int kd), .val (.ref s1), .val (.ref s2), .val (.ref b1), .unset, .unset, .unset, .unset, .unset] [(.int (1 : Int32)), (.int ln1)])) _
              refine XS.icmpYes X2.here hx rfl (pc0 := 180) (pc' := 190) rfl (hb hby at_180) rfl (tlt hm180_6).1 (by decide) (by decide) ?_
              show Steps p.tables e below (T2.setTop (mkF m 190 #[.val (.int p1), .val (.int p2), .val (.int p3), .val (.int p4), .val (.int p5), .val (.int ln1), .val (.int x0), .val (.int x1), .val (.int y0), .val (.int y1), .val (.int ln2), .val (.int bo1), .val (.int bo2), .val (.int kd), .val (.ref s1), .val (.ref s2), .val (.ref b1), .unset, .unset, .unset, .unset, .unset] [])) _
              refine XS.iload X2.here hx rfl (hb hby at_190) rfl ?_
              show Steps p.tables e below (T2.setTop (mkF m 192 #[.val (.int p1), .val (.int p2), .val (.int p3), .val (.int p4), .val (.int p5), .val (.int ln1), .val (.int x0), .val (.int x1), .val (.int y0), .val (.int y1), .val (.int ln2), .val (.int bo1), .val (.int bo2), .val (.int kd), .val (.ref s1), .val (.ref s2), .val (.ref b1), .unset, .unset, .unset, .unset, .unset] [(.int ln1)])) _
              refine XT.iconstV X2.here hx rfl (2 : Int32) (hb hby at_192) (by decide) ?_
              show Steps p.tables e below (T2.setTop (mkF m 193 #[.val (.int p1), .val (.int p2), .val (.int p3), .val (.int p4), .val (.int p5), .val (.int ln1), .val (.int x0), .val (.int x1), .val (.int y0), .val (.int y1), .val (.int ln2), .val (.int bo1), .val (.int bo2), .val (.int kd), .val (.ref s1), .val (.ref s2), .val (.ref b1), .unset, .unset, .unset, .unset, .unset] [(.int (2 : Int32)), (.int ln1)])) _
              refine XS.icmpNo X2.here hx rfl (hb hby at_193) rfl (flt hm193_7).1 ?_
              show Steps p.tables e below (T2.setTop (mkF m 196 #[.val (.int p1), .val (.int p2), .val (.int p3), .val (.int p4), .val (.int p5), .val (.int ln1), .val (.int x0), .val (.int x1), .val (.int y0), .val (.int y1), .val (.int ln2), .val (.int bo1), .val (.int bo2), .val (.int kd), .val (.ref s1), .val (.ref s2), .val (.ref b1), .unset, .unset, .unset, .unset, .unset] [])) _
              refine XS.iload X2.here hx rfl (hb hby at_196) rfl ?_
              show Steps p.tables e below (T2.setTop (mkF m 198 #[.val (.int p1), .val (.int p2), .val (.int p3), .val (.int p4), .val (.int p5), .val (.int ln1), .val (.int x0), .val (.int x1), .val (.int y0), .val (.int y1), .val (.int ln2), .val (.int bo1), .val (.int bo2), .val (.int kd), .val (.ref s1), .val (.ref s2), .val (.ref b1), .unset, .unset, .unset, .unset, .unset] [(.int x1)])) _
              refine XS.iload X2.here hx rfl (hb hby at_198) rfl ?_
              show Steps p.tables e below (T2.setTop (mkF m 200 #[.val (.int p1), .val (.int p2), .val (.int p3), .val (.int p4), .val (.int p5), .val (.int ln1), .val (.int x0), .val (.int x1), .val (.int y0), .val (.int y1), .val (.int ln2), .val (.int bo1), .val (.int bo2), .val (.int kd), .val (.ref s1), .val (.ref s2), .val (.ref b1), .unset, .unset, .unset, .unset, .unset] [(.int y1), (.int x1)])) _
              refine XS.icmpNo X2.here hx rfl (hb hby at_200) rfl (teq hm200_8).2 ?_
              show Steps p.tables e below (T2.setTop (mkF m 203 #[.val (.int p1), .val (.int p2), .val (.int p3), .val (.int p4), .val (.int p5), .val (.int ln1), .val (.int x0), .val (.int x1), .val (.int y0), .val (.int y1), .val (.int ln2), .val (.int bo1), .val (.int bo2), .val (.int kd), .val (.ref s1), .val (.ref s2), .val (.ref b1), .unset, .unset, .unset, .unset, .unset] [])) _
              refine XT.iconstV X2.here hx rfl (1 : Int32) (hb hby at_203) (by decide) ?_
              show Steps p.tables e below (T2.setTop (mkF m 204 #[.val (.int p1), .val (.int p2), .val (.int p3), .val (.int p4), .val (.int p5), .val (.int ln1), .val (.int x0), .val (.int x1), .val (.int y0), .val (.int y1), .val (.int ln2), .val (.int bo1), .val (.int bo2), .val (.int kd), .val (.ref s1), .val (.ref s2), .val (.ref b1), .unset, .unset, .unset, .unset, .unset] [(.int (1 : Int32))])) _
              refine XS.goto X2.here hx rfl (pc0 := 204) (pc' := 208) rfl (hb hby at_204) (by decide) (by decide) ?_
              exact k)⟩
          · have _ := 0
            exact ⟨(0 : Int32), Or.inr ⟨rfl, fun q => ((own_kel hcs hds).mp q).2.2.elim hm193_7 hm200_8⟩, fun t k => pre3 t (by
              show Steps p.tables e below (T2.setTop (mkF m 174 #[.val (.int p1), .val (.int p2), .val (.int p3), .val (.int p4), .val (.int p5), .val (.int ln1), .val (.int x0), .val (.int x1), .val (.int y0), .val (.int y1), .val (.int ln2), .val (.int bo1), .val (.int bo2), .val (.int kd), .val (.ref s1), .val (.ref s2), .val (.ref b1), .unset, .unset, .unset, .unset, .unset] [(.int ln2), (.int ln1)])) _
              refine XS.icmpNo X2.here hx rfl (hb hby at_174) rfl (teq hm174_5).2 ?_
              show Steps p.tables e below (T2.setTop (mkF m 177 #[.val (.int p1), .val (.int p2), .val (.int p3), .val (.int p4), .val (.int p5), .val (.int ln1), .val (.int x0), .val (.int x1), .val (.int y0), .val (.int y1), .val (.int ln2), .val (.int bo1), .val (.int bo2), .val (.int kd), .val (.ref s1), .val (.ref s2), .val (.ref b1), .unset, .unset, .unset, .unset, .unset] [])) _
              refine XS.iload X2.here hx rfl (hb hby at_177) rfl ?_
              show Steps p.tables e below (T2.setTop (mkF m 179 #[.val (.int p1), .val (.int p2), .val (.int p3), .val (.int p4), .val (.int p5), .val (.int ln1), .val (.int x0), .val (.int x1), .val (.int y0), .val (.int y1), .val (.int ln2), .val (.int bo1), .val (.int bo2), .val (.int kd), .val (.ref s1), .val (.ref s2), .val (.ref b1), .unset, .unset, .unset, .unset, .unset] [(.int ln1)])) _
              refine XT.iconstV X2.here hx rfl (1 : Int32) (hb hby at_179) (by decide) ?_
              show Steps p.tables e below (T2.setTop (mkF m 180 #[.val (.int p1), .val (.int p2), .val (.int p3), .val (.int p4), .val (.int p5), .val (.int ln1), .val (.int x0), .val (.int x1), .val (.int y0), .val (.int y1), .val (.int ln2), .val (.int bo1), .val (.int bo2), .val (.int kd), .val (.ref s1), .val (.ref s2), .val (.ref b1), .unset, .unset, .unset, .unset, .unset] [(.int (1 : Int32)), (.int ln1)])) _
              refine XS.icmpYes X2.here hx rfl (pc0 := 180) (pc' := 190) rfl (hb hby at_180) rfl (tlt hm180_6).1 (by decide) (by decide) ?_
              show Steps p.tables e below (T2.setTop (mkF m 190 #[.val (.int p1), .val (.int p2), .val (.int p3), .val (.int p4), .val (.int p5), .val (.int ln1), .val (.int x0), .val (.int x1), .val (.int y0), .val (.int y1), .val (.int ln2), .val (.int bo1), .val (.int bo2), .val (.int kd), .val (.ref s1), .val (.ref s2), .val (.ref b1), .unset, .unset, .unset, .unset, .unset] [])) _
              refine XS.iload X2.here hx rfl (hb hby at_190) rfl ?_
              show Steps p.tables e below (T2.setTop (mkF m 192 #[.val (.int p1), .val (.int p2), .val (.int p3), .val (.int p4), .val (.int p5), .val (.int ln1), .val (.int x0), .val (.int x1), .val (.int y0), .val (.int y1), .val (.int ln2), .val (.int bo1), .val (.int bo2), .val (.int kd), .val (.ref s1), .val (.ref s2), .val (.ref b1), .unset, .unset, .unset, .unset, .unset] [(.int ln1)])) _
              refine XT.iconstV X2.here hx rfl (2 : Int32) (hb hby at_192) (by decide) ?_
              show Steps p.tables e below (T2.setTop (mkF m 193 #[.val (.int p1), .val (.int p2), .val (.int p3), .val (.int p4), .val (.int p5), .val (.int ln1), .val (.int x0), .val (.int x1), .val (.int y0), .val (.int y1), .val (.int ln2), .val (.int bo1), .val (.int bo2), .val (.int kd), .val (.ref s1), .val (.ref s2), .val (.ref b1), .unset, .unset, .unset, .unset, .unset] [(.int (2 : Int32)), (.int ln1)])) _
              refine XS.icmpNo X2.here hx rfl (hb hby at_193) rfl (flt hm193_7).1 ?_
              show Steps p.tables e below (T2.setTop (mkF m 196 #[.val (.int p1), .val (.int p2), .val (.int p3), .val (.int p4), .val (.int p5), .val (.int ln1), .val (.int x0), .val (.int x1), .val (.int y0), .val (.int y1), .val (.int ln2), .val (.int bo1), .val (.int bo2), .val (.int kd), .val (.ref s1), .val (.ref s2), .val (.ref b1), .unset, .unset, .unset, .unset, .unset] [])) _
              refine XS.iload X2.here hx rfl (hb hby at_196) rfl ?_
              show Steps p.tables e below (T2.setTop (mkF m 198 #[.val (.int p1), .val (.int p2), .val (.int p3), .val (.int p4), .val (.int p5), .val (.int ln1), .val (.int x0), .val (.int x1), .val (.int y0), .val (.int y1), .val (.int ln2), .val (.int bo1), .val (.int bo2), .val (.int kd), .val (.ref s1), .val (.ref s2), .val (.ref b1), .unset, .unset, .unset, .unset, .unset] [(.int x1)])) _
              refine XS.iload X2.here hx rfl (hb hby at_198) rfl ?_
              show Steps p.tables e below (T2.setTop (mkF m 200 #[.val (.int p1), .val (.int p2), .val (.int p3), .val (.int p4), .val (.int p5), .val (.int ln1), .val (.int x0), .val (.int x1), .val (.int y0), .val (.int y1), .val (.int ln2), .val (.int bo1), .val (.int bo2), .val (.int kd), .val (.ref s1), .val (.ref s2), .val (.ref b1), .unset, .unset, .unset, .unset, .unset] [(.int y1), (.int x1)])) _
              refine XS.icmpYes X2.here hx rfl (pc0 := 200) (pc' := 207) rfl (hb hby at_200) rfl (feq hm200_8).2 (by decide) (by decide) ?_
              show Steps p.tables e below (T2.setTop (mkF m 207 #[.val (.int p1), .val (.int p2), .val (.int p3), .val (.int p4), .val (.int p5), .val (.int ln1), .val (.int x0), .val (.int x1), .val (.int y0), .val (.int y1), .val (.int ln2), .val (.int bo1), .val (.int bo2), .val (.int kd), .val (.ref s1), .val (.ref s2), .val (.ref b1), .unset, .unset, .unset, .unset, .unset] [])) _
              refine XT.iconstV X2.here hx rfl (0 : Int32) (hb hby at_207) (by decide) ?_
              exact k)⟩
      · have _ := 0
        by_cases hm187_9 : x0 = y0
        · have _ := 0
          by_cases hm193_10 : ln1 < (2 : Int32)
          · have _ := 0
            exact ⟨(1 : Int32), Or.inl ⟨rfl, (own_kel hcs hds).mpr ⟨hm174_5, Or.inr hm187_9, Or.inl hm193_10⟩⟩, fun t k => pre3 t (by
              show Steps p.tables e below (T2.setTop (mkF m 174 #[.val (.int p1), .val (.int p2), .val (.int p3), .val (.int p4), .val (.int p5), .val (.int ln1), .val (.int x0), .val (.int x1), .val (.int y0), .val (.int y1), .val (.int ln2), .val (.int bo1), .val (.int bo2), .val (.int kd), .val (.ref s1), .val (.ref s2), .val (.ref b1), .unset, .unset, .unset, .unset, .unset] [(.int ln2), (.int ln1)])) _
              refine XS.icmpNo X2.here hx rfl (hb hby at_174) rfl (teq hm174_5).2 ?_
              show Steps p.tables e below (T2.setTop (mkF m 177 #[.val (.int p1), .val (.int p2), .val (.int p3), .val (.int p4), .val (.int p5), .val (.int ln1), .val (.int x0), .val (.int x1), .val (.int y0), .val (.int y1), .val (.int ln2), .val (.int bo1), .val (.int bo2), .val (.int kd), .val (.ref s1), .val (.ref s2), .val (.ref b1), .unset, .unset, .unset, .unset, .unset] [])) _
              refine XS.iload X2.here hx rfl (hb hby at_177) rfl ?_
              show Steps p.tables e below (T2.setTop (mkF m 179 #[.val (.int p1), .val (.int p2), .val (.int p3), .val (.int p4), .val (.int p5), .val (.int ln1), .val (.int x0), .val (.int x1), .val (.int y0), .val (.int y1), .val (.int ln2), .val (.int bo1), .val (.int bo2), .val (.int kd), .val (.ref s1), .val (.ref s2), .val (.ref b1), .unset, .unset, .unset, .unset, .unset] [(.int ln1)])) _
              refine XT.iconstV X2.here hx rfl (1 : Int32) (hb hby at_179) (by decide) ?_
              show Steps p.tables e below (T2.setTop (mkF m 180 #[.val (.int p1), .val (.int p2), .val (.int p3), .val (.int p4), .val (.int p5), .val (.int ln1), .val (.int x0), .val (.int x1), .val (.int y0), .val (.int y1), .val (.int ln2), .val (.int bo1), .val (.int bo2), .val (.int kd), .val (.ref s1), .val (.ref s2), .val (.ref b1), .unset, .unset, .unset, .unset, .unset] [(.int (1 : Int32)), (.int ln1)])) _
              refine XS.icmpNo X2.here hx rfl (hb hby at_180) rfl (flt hm180_6).1 ?_
              show Steps p.tables e below (T2.setTop (mkF m 183 #[.val (.int p1), .val (.int p2), .val (.int p3), .val (.int p4), .val (.int p5), .val (.int ln1), .val (.int x0), .val (.int x1), .val (.int y0), .val (.int y1), .val (.int ln2), .val (.int bo1), .val (.int bo2), .val (.int kd), .val (.ref s1), .val (.ref s2), .val (.ref b1), .unset, .unset, .unset, .unset, .unset] [])) _
              refine XS.iload X2.here hx rfl (hb hby at_183) rfl ?_
              show Steps p.tables e below (T2.setTop (mkF m 185 #[.val (.int p1), .val (.int p2), .val (.int p3), .val (.int p4), .val (.int p5), .val (.int ln1), .val (.int x0), .val (.int x1), .val (.int y0), .val (.int y1), .val (.int ln2), .val (.int bo1), .val (.int bo2), .val (.int kd), .val (.ref s1), .val (.ref s2), .val (.ref b1), .unset, .unset, .unset, .unset, .unset] [(.int x0)])) _
              refine XS.iload X2.here hx rfl (hb hby at_185) rfl ?_
              show Steps p.tables e below (T2.setTop (mkF m 187 #[.val (.int p1), .val (.int p2), .val (.int p3), .val (.int p4), .val (.int p5), .val (.int ln1), .val (.int x0), .val (.int x1), .val (.int y0), .val (.int y1), .val (.int ln2), .val (.int bo1), .val (.int bo2), .val (.int kd), .val (.ref s1), .val (.ref s2), .val (.ref b1), .unset, .unset, .unset, .unset, .unset] [(.int y0), (.int x0)])) _
              refine XS.icmpNo X2.here hx rfl (hb hby at_187) rfl (teq hm187_9).2 ?_
              show Steps p.tables e below (T2.setTop (mkF m 190 #[.val (.int p1), .val (.int p2), .val (.int p3), .val (.int p4), .val (.int p5), .val (.int ln1), .val (.int x0), .val (.int x1), .val (.int y0), .val (.int y1), .val (.int ln2), .val (.int bo1), .val (.int bo2), .val (.int kd), .val (.ref s1), .val (.ref s2), .val (.ref b1), .unset, .unset, .unset, .unset, .unset] [])) _
              refine XS.iload X2.here hx rfl (hb hby at_190) rfl ?_
              show Steps p.tables e below (T2.setTop (mkF m 192 #[.val (.int p1), .val (.int p2), .val (.int p3), .val (.int p4), .val (.int p5), .val (.int ln1), .val (.int x0), .val (.int x1), .val (.int y0), .val (.int y1), .val (.int ln2), .val (.int bo1), .val (.int bo2), .val (.int kd), .val (.ref s1), .val (.ref s2), .val (.ref b1), .unset, .unset, .unset, .unset, .unset] [(.int ln1)])) _
              refine XT.iconstV X2.here hx rfl (2 : Int32) (hb hby at_192) (by decide) ?_
              show Steps p.tables e below (T2.setTop (mkF m 193 #[.val (.int p1), .val (.int p2), .val (.int p3), .val (.int p4), .val (.int p5), .val (.int ln1), .val (.int x0), .val (.int x1), .val (.int y0), .val (.int y1), .val (.int ln2), .val (.int bo1), .val (.int bo2), .val (.int kd), .val (.ref s1), .val (.ref s2), .val (.ref b1), .unset, .unset, .unset, .unset, .unset] [(.int (2 : Int32)), (.int ln1)])) _
              refine XS.icmpYes X2.here hx rfl (pc0 := 193) (pc' := 203) rfl (hb hby at_193) rfl (tlt hm193_10).1 (by decide) (by decide) ?_
              show Steps p.tables e below (T2.setTop (mkF m 203 #[.val (.int p1), .val (.int p2), .val (.int p3), .val (.int p4), .val (.int p5), .val (.int ln1), .val (.int x0), .val (.int x1), .val (.int y0), .val (.int y1), .val (.int ln2), .val (.int bo1), .val (.int bo2), .val (.int kd), .val (.ref s1), .val (.ref s2), .val (.ref b1), .unset, .unset, .unset, .unset, .unset] [])) _
              refine XT.iconstV X2.here hx rfl (1 : Int32) (hb hby at_203) (by decide) ?_
              show Steps p.tables e below (T2.setTop (mkF m 204 #[.val (.int p1), .val (.int p2), .val (.int p3), .val (.int p4), .val (.int p5), .val (.int ln1), .val (.int x0), .val (.int x1), .val (.int y0), .val (.int y1), .val (.int ln2), .val (.int bo1), .val (.int bo2), .val (.int kd), .val (.ref s1), .val (.ref s2), .val (.ref b1), .unset, .unset, .unset, .unset, .unset] [(.int (1 : Int32))])) _
              refine XS.goto X2.here hx rfl (pc0 := 204) (pc' := 208) rfl (hb hby at_204) (by decide) (by decide) ?_
              exact k)⟩
          · have _ := 0
            by_cases hm200_11 : x1 = y1
            · have _ := 0
              exact ⟨(1 : Int32), Or.inl ⟨rfl, (own_kel hcs hds).mpr ⟨hm174_5, Or.inr hm187_9, Or.inr hm200_11⟩⟩, fun t k => pre3 t (by
                show Steps p.tables e below (T2.setTop (mkF m 174 #[.val (.int p1), .val (.int p2), .val (.int p3), .val (.int p4), .val (.int p5), .val (.int ln1), .val (.int x0), .val (.int x1), .val (.int y0), .val (.int y1), .val (.int ln2), .val (.int bo1), .val (.int bo2), .val (.int kd), .val (.ref s1), .val (.ref s2), .val (.ref b1), .unset, .unset, .unset, .unset, .unset] [(.int ln2), (.int ln1)])) _
                refine XS.icmpNo X2.here hx rfl (hb hby at_174) rfl (teq hm174_5).2 ?_
                show Steps p.tables e below (T2.setTop (mkF m 177 #[.val (.int p1), .val (.int p2), .val (.int p3), .val (.int p4), .val (.int p5), .val (.int ln1), .val (.int x0), .val (.int x1), .val (.int y0), .val (.int y1), .val (.int ln2), .val (.int bo1), .val (.int bo2), .val (.int kd), .val (.ref s1), .val (.ref s2), .val (.ref b1), .unset, .unset, .unset, .unset, .unset] [])) _
                refine XS.iload X2.here hx rfl (hb hby at_177) rfl ?_
                show Steps p.tables e below (T2.setTop (mkF m 179 #[.val (.int p1), .val (.int p2), .val (.int p3), .val (.int p4), .val (.int p5), .val (.int ln1), .val (.int x0), .val (.int x1), .val (.int y0), .val (.int y1), .val (.int ln2), .val (.int bo1), .val (.int bo2), .val (.int kd), .val (.ref s1), .val (.ref s2), .val (.ref b1), .unset, .unset, .unset, .unset, .unset] [(.int ln1)])) _
                refine XT.iconstV X2.here hx rfl (1 : Int32) (hb hby at_179) (by decide) ?_
                show Steps p.tables e below (T2.setTop (mkF m 180 #[.val (.int p1), .val (.int p2), .val (.int p3), .val (.int p4), .val (.int p5), .val (.int ln1), .val (.int x0), .val (.int x1), .val (.int y0), .val (.int y1), .val (.int ln2), .val (.int bo1), .val (.int bo2), .val (.int kd), .val (.ref s1), .val (.ref s2), .val (.ref b1), .unset, .unset, .unset, .unset, .unset] [(.int (1 : Int32)), (.int ln1)])) _
                refine XS.icmpNo X2.here hx rfl (hb hby at_180) rfl (flt hm180_6).1 ?_
                show Steps p.tables e below (T2.setTop (mkF m 183 #[.val (.int p1), .val (.int p2), .val (.int p3), .val (.int p4), .val (.int p5), .val (.int ln1), .val (.int x0), .val (.int x1), .val (.int y0), .val (.int y1), .val (.int ln2), .val (.int bo1), .val (.int bo2), .val (.int kd), .val (.ref s1), .val (.ref s2), .val (.ref b1), .unset, .unset, .unset, .unset, .unset] [])) _
                refine XS.iload X2.here hx rfl (hb hby at_183) rfl ?_
                show Steps p.tables e below (T2.setTop (mkF m 185 #[.val (.int p1), .val (.int p2), .val (.int p3), .val (.int p4), .val (.int p5), .val (.int ln1), .val (.int x0), .val (.int x1), .val (.int y0), .val (.int y1), .val (.int ln2), .val (.int bo1), .val (.int bo2), .val (.int kd), .val (.ref s1), .val (.ref s2), .val (.ref b1), .unset, .unset, .unset, .unset, .unset] [(.int x0)])) _
                refine XS.iload X2.here hx rfl (hb hby at_185) rfl ?_
                show Steps p.tables e below (T2.setTop (mkF m 187 #[.val (.int p1), .val (.int p2), .val (.int p3), .val (.int p4), .val (.int p5), .val (.int ln1), .val (.int x0), .val (.int x1), .val (.int y0), .val (.int y1), .val (.int ln2), .val (.int bo1), .val (.int bo2), .val (.int kd), .val (.ref s1), .val (.ref s2), .val (.ref b1), .unset, .unset, .unset, .unset, .unset] [(.int y0), (.int x0)])) _
                refine XS.icmpNo X2.here hx rfl (hb hby at_187) rfl (teq hm187_9).2 ?_
                show Steps p.tables e below (T2.setTop (mkF m 190 #[.val (.int p1), .val (.int p2), .val (.int p3), .val (.int p4), .val (.int p5), .val (.int ln1), .val (.int x0), .val (.int x1), .val (.int y0), .val (.int y1), .val (.int ln2), .val (.int bo1), .val (.int bo2), .val (.int kd), .val (.ref s1), .val (.ref s2), .val (.ref b1), .unset, .unset, .unset, .unset, .unset] [])) _
                refine XS.iload X2.here hx rfl (hb hby at_190) rfl ?_
                show Steps p.tables e below (T2.setTop (mkF m 192 #[.val (.int p1), .val (.int p2), .val (.int p3), .val (.int p4), .val (.int p5), .val (.int ln1), .val (.int x0), .val (.int x1), .val (.int y0), .val (.int y1), .val (.int ln2), .val (.int bo1), .val (.int bo2), .val (.int kd), .val (.ref s1), .val (.ref s2), .val (.ref b1), .unset, .unset, .unset, .unset, .unset] [(.int ln1)])) _
                refine XT.iconstV X2.here hx rfl (2 : Int32) (hb hby at_192) (by decide) ?_
                show Steps p.tables e below (T2.setTop (mkF m 193 #[.val (.int p1), .val (.int p2), .val (.int p3), .val (.int p4), .val (.int p5), .val (.int ln1), .val (.int x0), .val (.int x1), .val (.int y0), .val (.int y1), .val (.int ln2), .val (.int bo1), .val (.int bo2), .val (.int kd), .val (.ref s1), .val (.ref s2), .val (.ref b1), .unset, .unset, .unset, .unset, .unset] [(.int (2 : Int32)), (.int ln1)])) _
                refine XS.icmpNo X2.here hx rfl (hb hby at_193) rfl (flt hm193_10).1 ?_
                show Steps p.tables e below (T2.setTop (mkF m 196 #[.val (.int p1), .val (.int p2), .val (.int p3), .val (.int p4), .val (.int p5), .val (.int ln1), .val (.int x0), .val (.int x1), .val (.int y0), .val (.int y1), .val (.int ln2), .val (.int bo1), .val (.int bo2), .val (.int kd), .val (.ref s1), .val (.ref s2), .val (.ref b1), .unset, .unset, .unset, .unset, .unset] [])) _
                refine XS.iload X2.here hx rfl (hb hby at_196) rfl ?_
                show Steps p.tables e below (T2.setTop (mkF m 198 #[.val (.int p1), .val (.int p2), .val (.int p3), .val (.int p4), .val (.int p5), .val (.int ln1), .val (.int x0), .val (.int x1), .val (.int y0), .val (.int y1), .val (.int ln2), .val (.int bo1), .val (.int bo2), .val (.int kd), .val (.ref s1), .val (.ref s2), .val (.ref b1), .unset, .unset, .unset, .unset, .unset] [(.int x1)])) _
                refine XS.iload X2.here hx rfl (hb hby at_198) rfl ?_
                show Steps p.tables e below (T2.setTop (mkF m 200 #[.val (.int p1), .val (.int p2), .val (.int p3), .val (.int p4), .val (.int p5), .val (.int ln1), .val (.int x0), .val (.int x1), .val (.int y0), .val (.int y1), .val (.int ln2), .val (.int bo1), .val (.int bo2), .val (.int kd), .val (.ref s1), .val (.ref s2), .val (.ref b1), .unset, .unset, .unset, .unset, .unset] [(.int y1), (.int x1)])) _
                refine XS.icmpNo X2.here hx rfl (hb hby at_200) rfl (teq hm200_11).2 ?_
                show Steps p.tables e below (T2.setTop (mkF m 203 #[.val (.int p1), .val (.int p2), .val (.int p3), .val (.int p4), .val (.int p5), .val (.int ln1), .val (.int x0), .val (.int x1), .val (.int y0), .val (.int y1), .val (.int ln2), .val (.int bo1), .val (.int bo2), .val (.int kd), .val (.ref s1), .val (.ref s2), .val (.ref b1), .unset, .unset, .unset, .unset, .unset] [])) _
                refine XT.iconstV X2.here hx rfl (1 : Int32) (hb hby at_203) (by decide) ?_
                show Steps p.tables e below (T2.setTop (mkF m 204 #[.val (.int p1), .val (.int p2), .val (.int p3), .val (.int p4), .val (.int p5), .val (.int ln1), .val (.int x0), .val (.int x1), .val (.int y0), .val (.int y1), .val (.int ln2), .val (.int bo1), .val (.int bo2), .val (.int kd), .val (.ref s1), .val (.ref s2), .val (.ref b1), .unset, .unset, .unset, .unset, .unset] [(.int (1 : Int32))])) _
                refine XS.goto X2.here hx rfl (pc0 := 204) (pc' := 208) rfl (hb hby at_204) (by decide) (by decide) ?_
                exact k)⟩
            · have _ := 0
              exact ⟨(0 : Int32), Or.inr ⟨rfl, fun q => ((own_kel hcs hds).mp q).2.2.elim hm193_10 hm200_11⟩, fun t k => pre3 t (by
                show Steps p.tables e below (T2.setTop (mkF m 174 #[.val (.int p1), .val (.int p2), .val (.int p3), .val (.int p4), .val (.int p5), .val (.int ln1), .val (.int x0), .val (.int x1), .val (.int y0), .val (.int y1), .val (.int ln2), .val (.int bo1), .val (.int bo2), .val (.int kd), .val (.ref s1), .val (.ref s2), .val (.ref b1), .unset, .unset, .unset, .unset, .unset] [(.int ln2), (.int ln1)])) _
                refine XS.icmpNo X2.here hx rfl (hb hby at_174) rfl (teq hm174_5).2 ?_
                show Steps p.tables e below (T2.setTop (mkF m 177 #[.val (.int p1), .val (.int p2), .val (.int p3), .val (.int p4), .val (.int p5), .val (.int ln1), .val (.int x0), .val (.int x1), .val (.int y0), .val (.int y1), .val (.int ln2), .val (.int bo1), .val (.int bo2), .val (.int kd), .val (.ref s1), .val (.ref s2), .val (.ref b1), .unset, .unset, .unset, .unset, .unset] [])) _
                refine XS.iload X2.here hx rfl (hb hby at_177) rfl ?_
                show Steps p.tables e below (T2.setTop (mkF m 179 #[.val (.int p1), .val (.int p2), .val (.int p3), .val (.int p4), .val (.int p5), .val (.int ln1), .val (.int x0), .val (.int x1), .val (.int y0), .val (.int y1), .val (.int ln2), .val (.int bo1), .val (.int bo2), .val (.int kd), .val (.ref s1), .val (.ref s2), .val (.ref b1), .unset, .unset, .unset, .unset, .unset] [(.int ln1)])) _
                refine XT.iconstV X2.here hx rfl (1 : Int32) (hb hby at_179) (by decide) ?_
                show Steps p.tables e below (T2.setTop (mkF m 180 #[.val (.int p1), .val (.int p2), .val (.int p3), .val (.int p4), .val (.int p5), .val (.int ln1), .val (.int x0), .val (.int x1), .val (.int y0), .val (.int y1), .val (.int ln2), .val (.int bo1), .val (.int bo2), .val (.int kd), .val (.ref s1), .val (.ref s2), .val (.ref b1), .unset, .unset, .unset, .unset, .unset] [(.int (1 : Int32)), (.int ln1)])) _
                refine XS.icmpNo X2.here hx rfl (hb hby at_180) rfl (flt hm180_6).1 ?_
                show Steps p.tables e below (T2.setTop (mkF m 183 #[.val (.int p1), .val (.int p2), .val (.int p3), .val (.int p4), .val (.int p5), .val (.int ln1), .val (.int x0), .val (.int x1), .val (.int y0), .val (.int y1), .val (.int ln2), .val (.int bo1), .val (.int bo2), .val (.int kd), .val (.ref s1), .val (.ref s2), .val (.ref b1), .unset, .unset, .unset, .unset, .unset] [])) _
                refine XS.iload X2.here hx rfl (hb hby at_183) rfl ?_
                show Steps p.tables e below (T2.setTop (mkF m 185 #[.val (.int p1), .val (.int p2), .val (.int p3), .val (.int p4), .val (.int p5), .val (.int ln1), .val (.int x0), .val (.int x1), .val (.int y0), .val (.int y1), .val (.int ln2), .val (.int bo1), .val (.int bo2), .val (.int kd), .val (.ref s1), .val (.ref s2), .val (.ref b1), .unset, .unset, .unset, .unset, .unset] [(.int x0)])) _
                refine XS.iload X2.here hx rfl (hb hby at_185) rfl ?_
                show Steps p.tables e below (T2.setTop (mkF m 187 #[.val (.int p1), .val (.int p2), .val (.int p3), .val (.int p4), .val (.int p5), .val (.int ln1), .val (.int x0), .val (.int x1), .val (.int y0), .val (.int y1), .val (.int ln2), .val (.int bo1), .val (.int bo2), .val (.int kd), .val (.ref s1), .val (.ref s2), .val (.ref b1), .unset, .unset, .unset, .unset, .unset] [(.int y0), (.int x0)])) _
                refine XS.icmpNo X2.here hx rfl (hb hby at_187) rfl (teq hm187_9).2 ?_
                show Steps p.tables e below (T2.setTop (mkF m 190 #[.val (.int p1), .val (.int p2), .val (.int p3), .val (.int p4), .val (.int p5), .val (.int ln1), .val (.int x0), .val (.int x1), .val (.int y0), .val (.int y1), .val (.int ln2), .val (.int bo1), .val (.int bo2), .val (.int kd), .val (.ref s1), .val (.ref s2), .val (.ref b1), .unset, .unset, .unset, .unset, .unset] [])) _
                refine XS.iload X2.here hx rfl (hb hby at_190) rfl ?_
                show Steps p.tables e below (T2.setTop (mkF m 192 #[.val (.int p1), .val (.int p2), .val (.int p3), .val (.int p4), .val (.int p5), .val (.int ln1), .val (.int x0), .val (.int x1), .val (.int y0), .val (.int y1), .val (.int ln2), .val (.int bo1), .val (.int bo2), .val (.int kd), .val (.ref s1), .val (.ref s2), .val (.ref b1), .unset, .unset, .unset, .unset, .unset] [(.int ln1)])) _
                refine XT.iconstV X2.here hx rfl (2 : Int32) (hb hby at_192) (by decide) ?_
                show Steps p.tables e below (T2.setTop (mkF m 193 #[.val (.int p1), .val (.int p2), .val (.int p3), .val (.int p4), .val (.int p5), .val (.int ln1), .val (.int x0), .val (.int x1), .val (.int y0), .val (.int y1), .val (.int ln2), .val (.int bo1), .val (.int bo2), .val (.int kd), .val (.ref s1), .val (.ref s2), .val (.ref b1), .unset, .unset, .unset, .unset, .unset] [(.int (2 : Int32)), (.int ln1)])) _
                refine XS.icmpNo X2.here hx rfl (hb hby at_193) rfl (flt hm193_10).1 ?_
                show Steps p.tables e below (T2.setTop (mkF m 196 #[.val (.int p1), .val (.int p2), .val (.int p3), .val (.int p4), .val (.int p5), .val (.int ln1), .val (.int x0), .val (.int x1), .val (.int y0), .val (.int y1), .val (.int ln2), .val (.int bo1), .val (.int bo2), .val (.int kd), .val (.ref s1), .val (.ref s2), .val (.ref b1), .unset, .unset, .unset, .unset, .unset] [])) _
                refine XS.iload X2.here hx rfl (hb hby at_196) rfl ?_
                show Steps p.tables e below (T2.setTop (mkF m 198 #[.val (.int p1), .val (.int p2), .val (.int p3), .val (.int p4), .val (.int p5), .val (.int ln1), .val (.int x0), .val (.int x1), .val (.int y0), .val (.int y1), .val (.int ln2), .val (.int bo1), .val (.int bo2), .val (.int kd), .val (.ref s1), .val (.ref s2), .val (.ref b1), .unset, .unset, .unset, .unset, .unset] [(.int x1)])) _
                refine XS.iload X2.here hx rfl (hb hby at_198) rfl ?_
                show Steps p.tables e below (T2.setTop (mkF m 200 #[.val (.int p1), .val (.int p2), .val (.int p3), .val (.int p4), .val (.int p5), .val (.int ln1), .val (.int x0), .val (.int x1), .val (.int y0), .val (.int y1), .val (.int ln2), .val (.int bo1), .val (.int bo2), .val (.int kd), .val (.ref s1), .val (.ref s2), .val (.ref b1), .unset, .unset, .unset, .unset, .unset] [(.int y1), (.int x1)])) _
                refine XS.icmpYes X2.here hx rfl (pc0 := 200) (pc' := 207) rfl (hb hby at_200) rfl (feq hm200_11).2 (by decide) (by decide) ?_
                show Steps p.tables e below (T2.setTop (mkF m 207 #[.val (.int p1), .val (.int p2), .val (.int p3), .val (.int p4), .val (.int p5), .val (.int ln1), .val (.int x0), .val (.int x1), .val (.int y0), .val (.int y1), .val (.int ln2), .val (.int bo1), .val (.int bo2), .val (.int kd), .val (.ref s1), .val (.ref s2), .val (.ref b1), .unset, .unset, .unset, .unset, .unset] [])) _
                refine XT.iconstV X2.here hx rfl (0 : Int32) (hb hby at_207) (by decide) ?_
                exact k)⟩
        · have _ := 0
          exact ⟨(0 : Int32), Or.inr ⟨rfl, fun q => ((own_kel hcs hds).mp q).2.1.elim hm180_6 hm187_9⟩, fun t k => pre3 t (by
            show Steps p.tables e below (T2.setTop (mkF m 174 #[.val (.int p1), .val (.int p2), .val (.int p3), .val (.int p4), .val (.int p5), .val (.int ln1), .val (.int x0), .val (.int x1), .val (.int y0), .val (.int y1), .val (.int ln2), .val (.int bo1), .val (.int bo2), .val (.int kd), .val (.ref s1), .val (.ref s2), .val (.ref b1), .unset, .unset, .unset, .unset, .unset] [(.int ln2), (.int ln1)])) _
            refine XS.icmpNo X2.here hx rfl (hb hby at_174) rfl (teq hm174_5).2 ?_
            show Steps p.tables e below (T2.setTop (mkF m 177 #[.val (.int p1), .val (.int p2), .val (.int p3), .val (.int p4), .val (.int p5), .val (.int ln1), .val (.int x0), .val (.int x1), .val (.int y0), .val (.int y1), .val (.int ln2), .val (.int bo1), .val (.int bo2), .val (.int kd), .val (.ref s1), .val (.ref s2), .val (.ref b1), .unset, .unset, .unset, .unset, .unset] [])) _
            refine XS.iload X2.here hx rfl (hb hby at_177) rfl ?_
            show Steps p.tables e below (T2.setTop (mkF m 179 #[.val (.int p1), .val (.int p2), .val (.int p3), .val (.int p4), .val (.int p5), .val (.int ln1), .val (.int x0), .val (.int x1), .val (.int y0), .val (.int y1), .val (.int ln2), .val (.int bo1), .val (.int bo2), .val (.int kd), .val (.ref s1), .val (.ref s2), .val (.ref b1), .unset, .unset, .unset, .unset, .unset] [(.int ln1)])) _
            refine XT.iconstV X2.here hx rfl (1 : Int32) (hb hby at_179) (by decide) ?_
            show Steps p.tables e below (T2.setTop (mkF m 180 #[.val (.int p1), .val (.int p2), .val (.int p3), .val (.int p4), .val (.int p5), .val (.int ln1), .val (.int x0), .val (.int x1), .val (.int y0), .val (.int y1), .val (.int ln2), .val (.int bo1), .val (.int bo2), .val (.int kd), .val (.ref s1), .val (.ref s2), .val (.ref b1), .unset, .unset, .unset, .unset, .unset] [(.int (1 : Int32)), (.int ln1)])) _
            refine XS.icmpNo X2.here hx rfl (hb hby at_180) rfl (flt hm180_6).1 ?_
            show Steps p.tables e below (T2.setTop (mkF m 183 #[.val (.int p1), .val (.int p2), .val (.int p3), .val (.int p4), .val (.int p5), .val (.int ln1), .val (.int x0), .val (.int x1), .val (.int y0), .val (.int y1), .val (.int ln2), .val (.int bo1), .val (.int bo2), .val (.int kd), .val (.ref s1), .val (.ref s2), .val (.ref b1), .unset, .unset, .unset, .unset, .unset] [])) _
            refine XS.iload X2.here hx rfl (hb hby at_183) rfl ?_
            show Steps p.tables e below (T2.setTop (mkF m 185 #[.val (.int p1), .val (.int p2), .val (.int p3), .val (.int p4), .val (.int p5), .val (.int ln1), .val (.int x0), .val (.int x1), .val (.int y0), .val (.int y1), .val (.int ln2), .val (.int bo1), .val (.int bo2), .val (.int kd), .val (.ref s1), .val (.ref s2), .val (.ref b1), .unset, .unset, .unset, .unset, .unset] [(.int x0)])) _
            refine XS.iload X2.here hx rfl (hb hby at_185) rfl ?_
            show Steps p.tables e below (T2.setTop (mkF m 187 #[.val (.int p1), .val (.int p2), .val (.int p3), .val (.int p4), .val (.int p5), .val (.int ln1), .val (.int x0), .val (.int x1), .val (.int y0), .val (.int y1), .val (.int ln2), .val (.int bo1), .val (.int bo2), .val (.int kd), .val (.ref s1), .val (.ref s2), .val (.ref b1), .unset, .unset, .unset, .unset, .unset] [(.int y0), (.int x0)])) _
            refine XS.icmpYes X2.here hx rfl (pc0 := 187) (pc' := 207) rfl (hb hby at_187) rfl (feq hm187_9).2 (by decide) (by decide) ?_
            show Steps p.tables e below (T2.setTop (mkF m 207 #[.val (.int p1), .val (.int p2), .val (.int p3), .val (.int p4), .val (.int p5), .val (.int ln1), .val (.int x0), .val (.int x1), .val (.int y0), .val (.int y1), .val (.int ln2), .val (.int bo1), .val (.int bo2), .val (.int kd), .val (.ref s1), .val (.ref s2), .val (.ref b1), .unset, .unset, .unset, .unset, .unset] [])) _
            refine XT.iconstV X2.here hx rfl (0 : Int32) (hb hby at_207) (by decide) ?_
            exact k)⟩
    · have _ := 0
      exact ⟨(0 : Int32), Or.inr ⟨rfl, fun q => hm174_5 ((own_kel hcs hds).mp q).1⟩, fun t k => pre3 t (by
        show Steps p.tables e below (T2.setTop (mkF m 174 #[.val (.int p1), .val (.int p2), .val (.int p3), .val (.int p4), .val (.int p5), .val (.int ln1), .val (.int x0), .val (.int x1), .val (.int y0), .val (.int y1), .val (.int ln2), .val (.int bo1), .val (.int bo2), .val (.int kd), .val (.ref s1), .val (.ref s2), .val (.ref b1), .unset, .unset, .unset, .unset, .unset] [(.int ln2), (.int ln1)])) _
        refine XS.icmpYes X2.here hx rfl (pc0 := 174) (pc' := 207) rfl (hb hby at_174) rfl (feq hm174_5).2 (by decide) (by decide) ?_
        show Steps p.tables e below (T2.setTop (mkF m 207 #[.val (.int p1), .val (.int p2), .val (.int p3), .val (.int p4), .val (.int p5), .val (.int ln1), .val (.int x0), .val (.int x1), .val (.int y0), .val (.int y1), .val (.int ln2), .val (.int bo1), .val (.int bo2), .val (.int kd), .val (.ref s1), .val (.ref s2), .val (.ref b1), .unset, .unset, .unset, .unset, .unset] [])) _
        refine XT.iconstV X2.here hx rfl (0 : Int32) (hb hby at_207) (by decide) ?_
        exact k)⟩
  rcases h_ke with ⟨rfl, hke⟩ | ⟨rfl, hke⟩
  · have _ := 0
    obtain ⟨cq12, kq12, q12a, q12b, q12c⟩ := isOf hZ rfl E2c
    obtain ⟨_, _, ⟨T12, L12, k12, n12⟩, -, X12, ⟨Lc12, hQ12, l12, y12, z12⟩, st12⟩ := X2.virtualBack hx (y := (⟨"com/example/steadyhand/steadyhand/history/RecordedExecution", "equals", "(Ljava/lang/Object;)Z"⟩ : MethodName)) (z := (⟨"com/example/steadyhand/steadyhand/history/RecordedExecution", "equals", "(Ljava/lang/Object;)Z"⟩ : MethodName)) hown (mvT hZ (hw _ (List.mem_of_getElem? (i := 43) rfl))) (mvT hZ (hw _ (List.mem_of_getElem? (i := 44) rfl))) (notFace_of_selects (args := #[]) (mvT hZ (hw _ (List.mem_of_getElem? (i := 46) rfl)))) (mvT hZ (hw _ (List.mem_of_getElem? (i := 46) rfl))) (mvT hZ (hw _ (List.mem_of_getElem? (i := 45) rfl))) (by decide) (backOf (W := 0) (rm_eq l Z a0 hw [] b1 b1 T2.heap n0 (Nat.le_trans Z0 O2.1) E2c E2c s1 s1 bo1 bo1 F2c F2c F2d F2d cs cs (S1.ext O2) (S1.ext O2) zc (Sc.ext O2) hzc (1 : Int32) (by simp [own_eq])) hZ (hw _ (List.mem_of_getElem? (i := 47) rfl)) (hw _ (List.mem_of_getElem? (i := 29) rfl)) (by decide) (by decide)) q12a q12c (g := (mkF m 214 #[.val (.int p1), .val (.int p2), .val (.int p3), .val (.int p4), .val (.int p5), .val (.int ln1), .val (.int x0), .val (.int x1), .val (.int y0), .val (.int y1), .val (.int ln2), .val (.int bo1), .val (.int bo2), .val (.int kd), .val (.ref s1), .val (.ref s2), .val (.ref b1), .val (.int (1 : Int32)), .unset, .unset, .unset, .unset] [(.ref b1), (.ref b1)])) rfl (by rw [hml]; rfl) (Steps.refl _) (argsL := [(.ref b1)]) (rest := []) (lenOf pd_1 rfl) rfl (by show 2 * 0 + _ ≤ _; exact Nat.le_of_eq rfl) (hb hby at_214) (fun _ _ => ⟨rfl, rfl, (by decide : 9 + 0 ≤ _), (by decide : 22 + 0 ≤ _)⟩)
    dsimp only [Pt.U, Pt.locs, Pt.cells, Pt.slots] at X12 l12 y12 z12 st12 hQ12
    rw [y12, z12] at X12
    obtain ⟨rfl, N12q, e12⟩ := hQ12
    have N12 : Fr n0 L12 := by rw [l12]; exact Fr.app N2 N12q
    have pre13 : ∀ t, Steps p.tables e below (T12.setTop (mkF m 225 #[.val (.int p1), .val (.int p2), .val (.int p3), .val (.int p4), .val (.int p5), .val (.int ln1), .val (.int x0), .val (.int x1), .val (.int y0), .val (.int y1), .val (.int ln2), .val (.int bo1), .val (.int bo2), .val (.int kd), .val (.ref s1), .val (.ref s2), .val (.ref b1), .val (.int (1 : Int32)), .unset, .unset, .unset, .unset] [(.int (1 : Int32)), (.int kd)])) t → Steps p.tables e below START t := fun t k => preM4 t (by
      show Steps p.tables e below (T2.setTop (mkF m 208 #[.val (.int p1), .val (.int p2), .val (.int p3), .val (.int p4), .val (.int p5), .val (.int ln1), .val (.int x0), .val (.int x1), .val (.int y0), .val (.int y1), .val (.int ln2), .val (.int bo1), .val (.int bo2), .val (.int kd), .val (.ref s1), .val (.ref s2), .val (.ref b1), .unset, .unset, .unset, .unset, .unset] [(.int (1 : Int32))])) _
      refine XS.istore X2.here hx rfl (hb hby at_208) rfl (l' := #[.val (.int p1), .val (.int p2), .val (.int p3), .val (.int p4), .val (.int p5), .val (.int ln1), .val (.int x0), .val (.int x1), .val (.int y0), .val (.int y1), .val (.int ln2), .val (.int bo1), .val (.int bo2), .val (.int kd), .val (.ref s1), .val (.ref s2), .val (.ref b1), .val (.int (1 : Int32)), .unset, .unset, .unset, .unset]) rfl ?_
      show Steps p.tables e below (T2.setTop (mkF m 210 #[.val (.int p1), .val (.int p2), .val (.int p3), .val (.int p4), .val (.int p5), .val (.int ln1), .val (.int x0), .val (.int x1), .val (.int y0), .val (.int y1), .val (.int ln2), .val (.int bo1), .val (.int bo2), .val (.int kd), .val (.ref s1), .val (.ref s2), .val (.ref b1), .val (.int (1 : Int32)), .unset, .unset, .unset, .unset] [])) _
      refine XS.aload X2.here hx rfl (hb hby at_210) rfl rfl ?_
      show Steps p.tables e below (T2.setTop (mkF m 212 #[.val (.int p1), .val (.int p2), .val (.int p3), .val (.int p4), .val (.int p5), .val (.int ln1), .val (.int x0), .val (.int x1), .val (.int y0), .val (.int y1), .val (.int ln2), .val (.int bo1), .val (.int bo2), .val (.int kd), .val (.ref s1), .val (.ref s2), .val (.ref b1), .val (.int (1 : Int32)), .unset, .unset, .unset, .unset] [(.ref b1)])) _
      refine XS.aload X2.here hx rfl (hb hby at_212) rfl rfl ?_
      show Steps p.tables e below (T2.setTop (mkF m 214 #[.val (.int p1), .val (.int p2), .val (.int p3), .val (.int p4), .val (.int p5), .val (.int ln1), .val (.int x0), .val (.int x1), .val (.int y0), .val (.int y1), .val (.int ln2), .val (.int bo1), .val (.int bo2), .val (.int kd), .val (.ref s1), .val (.ref s2), .val (.ref b1), .val (.int (1 : Int32)), .unset, .unset, .unset, .unset] [(.ref b1), (.ref b1)])) _
      refine st12.trans ?_
      show Steps p.tables e below (T12.setTop (mkF m 217 #[.val (.int p1), .val (.int p2), .val (.int p3), .val (.int p4), .val (.int p5), .val (.int ln1), .val (.int x0), .val (.int x1), .val (.int y0), .val (.int y1), .val (.int ln2), .val (.int bo1), .val (.int bo2), .val (.int kd), .val (.ref s1), .val (.ref s2), .val (.ref b1), .val (.int (1 : Int32)), .unset, .unset, .unset, .unset] [(.int (1 : Int32))])) _
      refine XS.ifYes X12.here hx rfl (pc0 := 217) (pc' := 222) rfl (hb hby at_217) rfl ((if0 _ _).trans (feq (by decide : ¬ ((1 : Int32) = (0 : Int32)))).2) (by decide) (by decide) ?_
      show Steps p.tables e below (T12.setTop (mkF m 222 #[.val (.int p1), .val (.int p2), .val (.int p3), .val (.int p4), .val (.int p5), .val (.int ln1), .val (.int x0), .val (.int x1), .val (.int y0), .val (.int y1), .val (.int ln2), .val (.int bo1), .val (.int bo2), .val (.int kd), .val (.ref s1), .val (.ref s2), .val (.ref b1), .val (.int (1 : Int32)), .unset, .unset, .unset, .unset] [])) _
      refine XS.iload X12.here hx rfl (hb hby at_222) rfl ?_
      show Steps p.tables e below (T12.setTop (mkF m 224 #[.val (.int p1), .val (.int p2), .val (.int p3), .val (.int p4), .val (.int p5), .val (.int ln1), .val (.int x0), .val (.int x1), .val (.int y0), .val (.int y1), .val (.int ln2), .val (.int bo1), .val (.int bo2), .val (.int kd), .val (.ref s1), .val (.ref s2), .val (.ref b1), .val (.int (1 : Int32)), .unset, .unset, .unset, .unset] [(.int kd)])) _
      refine XT.iconstV X12.here hx rfl (1 : Int32) (hb hby at_224) (by decide) ?_
      exact k)
    by_cases hc225_14 : (1 : Int32) < kd
    · have _ := 0
      have pre15 : ∀ t, Steps p.tables e below (T12.setTop (mkF m 301 #[.val (.int p1), .val (.int p2), .val (.int p3), .val (.int p4), .val (.int p5), .val (.int ln1), .val (.int x0), .val (.int x1), .val (.int y0), .val (.int y1), .val (.int ln2), .val (.int bo1), .val (.int bo2), .val (.int kd), .val (.ref s1), .val (.ref s2), .val (.ref b1), .val (.int (1 : Int32)), .unset, .unset, .unset, .unset] [(.int (2 : Int32)), (.int kd)])) t → Steps p.tables e below START t := fun t k => pre13 t (by
        show Steps p.tables e below (T12.setTop (mkF m 225 #[.val (.int p1), .val (.int p2), .val (.int p3), .val (.int p4), .val (.int p5), .val (.int ln1), .val (.int x0), .val (.int x1), .val (.int y0), .val (.int y1), .val (.int ln2), .val (.int bo1), .val (.int bo2), .val (.int kd), .val (.ref s1), .val (.ref s2), .val (.ref b1), .val (.int (1 : Int32)), .unset, .unset, .unset, .unset] [(.int (1 : Int32)), (.int kd)])) _
        refine XS.icmpYes X12.here hx rfl (pc0 := 225) (pc' := 298) rfl (hb hby at_225) rfl (tlt hc225_14).2.2.1 (by decide) (by decide) ?_
        show Steps p.tables e below (T12.setTop (mkF m 298 #[.val (.int p1), .val (.int p2), .val (.int p3), .val (.int p4), .val (.int p5), .val (.int ln1), .val (.int x0), .val (.int x1), .val (.int y0), .val (.int y1), .val (.int ln2), .val (.int bo1), .val (.int bo2), .val (.int kd), .val (.ref s1), .val (.ref s2), .val (.ref b1), .val (.int (1 : Int32)), .unset, .unset, .unset, .unset] [])) _
        refine XS.iload X12.here hx rfl (hb hby at_298) rfl ?_
        show Steps p.tables e below (T12.setTop (mkF m 300 #[.val (.int p1), .val (.int p2), .val (.int p3), .val (.int p4), .val (.int p5), .val (.int ln1), .val (.int x0), .val (.int x1), .val (.int y0), .val (.int y1), .val (.int ln2), .val (.int bo1), .val (.int bo2), .val (.int kd), .val (.ref s1), .val (.ref s2), .val (.ref b1), .val (.int (1 : Int32)), .unset, .unset, .unset, .unset] [(.int kd)])) _
        refine XT.iconstV X12.here hx rfl (2 : Int32) (hb hby at_300) (by decide) ?_
        exact k)
      by_cases hc301_16 : kd = (2 : Int32)
      · have _ := 0
        obtain ⟨cq17, kq17, q17a, q17b, q17c⟩ := isOf hZ e12 E2c
        obtain ⟨_, _, ⟨T17, L17, k17, n17⟩, -, X17, ⟨Lc17, hQ17, l17, y17, z17⟩, st17⟩ := X12.virtualBack hx (y := (⟨"com/example/steadyhand/steadyhand/history/RecordedExecution", "equals", "(Ljava/lang/Object;)Z"⟩ : MethodName)) (z := (⟨"com/example/steadyhand/steadyhand/history/RecordedExecution", "equals", "(Ljava/lang/Object;)Z"⟩ : MethodName)) hown (mvT hZ (hw _ (List.mem_of_getElem? (i := 43) rfl))) (mvT hZ (hw _ (List.mem_of_getElem? (i := 44) rfl))) (notFace_of_selects (args := #[]) (mvT hZ (hw _ (List.mem_of_getElem? (i := 46) rfl)))) (mvT hZ (hw _ (List.mem_of_getElem? (i := 46) rfl))) (mvT hZ (hw _ (List.mem_of_getElem? (i := 45) rfl))) (by decide) (backOf (W := 0) (rm_eqS l Z a0 hw [] b1 s2 T2.heap n0 (Nat.le_trans Z0 O2.1) (S2.ext O2).1) hZ (hw _ (List.mem_of_getElem? (i := 47) rfl)) (hw _ (List.mem_of_getElem? (i := 29) rfl)) (by decide) (by decide)) q17a q17c (g := (mkF m 312 #[.val (.int p1), .val (.int p2), .val (.int p3), .val (.int p4), .val (.int p5), .val (.int ln1), .val (.int x0), .val (.int x1), .val (.int y0), .val (.int y1), .val (.int ln2), .val (.int bo1), .val (.int bo2), .val (.int kd), .val (.ref s1), .val (.ref s2), .val (.ref b1), .val (.int (1 : Int32)), .val (.ref s2), .unset, .unset, .unset] [(.ref s2), (.ref b1)])) rfl (by rw [hml]; rfl) (Steps.refl _) (argsL := [(.ref s2)]) (rest := []) (lenOf pd_1 rfl) rfl (by show 2 * 0 + _ ≤ _; exact Nat.le_of_eq rfl) (hb hby at_312) (fun _ _ => ⟨rfl, e12, (by decide : 9 + 0 ≤ _), (by decide : 22 + 0 ≤ _)⟩)
        dsimp only [Pt.U, Pt.locs, Pt.cells, Pt.slots] at X17 l17 y17 z17 st17 hQ17
        rw [y17, z17] at X17
        obtain ⟨rfl, N17q, e17⟩ := hQ17
        have N17 : Fr n0 L17 := by rw [l17]; exact Fr.app N12 N17q
        have pre18 : ∀ t, Steps p.tables e below (T17.setTop (mkF m 323 #[.val (.int p1), .val (.int p2), .val (.int p3), .val (.int p4), .val (.int p5), .val (.int ln1), .val (.int x0), .val (.int x1), .val (.int y0), .val (.int y1), .val (.int ln2), .val (.int bo1), .val (.int bo2), .val (.int kd), .val (.ref s1), .val (.ref s2), .val (.ref b1), .val (.int (1 : Int32)), .val (.ref s2), .unset, .unset, .unset] [(.int (1 : Int32))])) t → Steps p.tables e below START t := fun t k => pre15 t (by
          show Steps p.tables e below (T12.setTop (mkF m 301 #[.val (.int p1), .val (.int p2), .val (.int p3), .val (.int p4), .val (.int p5), .val (.int ln1), .val (.int x0), .val (.int x1), .val (.int y0), .val (.int y1), .val (.int ln2), .val (.int bo1), .val (.int bo2), .val (.int kd), .val (.ref s1), .val (.ref s2), .val (.ref b1), .val (.int (1 : Int32)), .unset, .unset, .unset, .unset] [(.int (2 : Int32)), (.int kd)])) _
          refine XS.icmpNo X12.here hx rfl (hb hby at_301) rfl (teq hc301_16).2 ?_
          show Steps p.tables e below (T12.setTop (mkF m 304 #[.val (.int p1), .val (.int p2), .val (.int p3), .val (.int p4), .val (.int p5), .val (.int ln1), .val (.int x0), .val (.int x1), .val (.int y0), .val (.int y1), .val (.int ln2), .val (.int bo1), .val (.int bo2), .val (.int kd), .val (.ref s1), .val (.ref s2), .val (.ref b1), .val (.int (1 : Int32)), .unset, .unset, .unset, .unset] [])) _
          refine XS.aload X12.here hx rfl (hb hby at_304) rfl rfl ?_
          show Steps p.tables e below (T12.setTop (mkF m 306 #[.val (.int p1), .val (.int p2), .val (.int p3), .val (.int p4), .val (.int p5), .val (.int ln1), .val (.int x0), .val (.int x1), .val (.int y0), .val (.int y1), .val (.int ln2), .val (.int bo1), .val (.int bo2), .val (.int kd), .val (.ref s1), .val (.ref s2), .val (.ref b1), .val (.int (1 : Int32)), .unset, .unset, .unset, .unset] [(.ref s2)])) _
          refine XS.astore X12.here hx rfl (hb hby at_306) rfl rfl (l' := #[.val (.int p1), .val (.int p2), .val (.int p3), .val (.int p4), .val (.int p5), .val (.int ln1), .val (.int x0), .val (.int x1), .val (.int y0), .val (.int y1), .val (.int ln2), .val (.int bo1), .val (.int bo2), .val (.int kd), .val (.ref s1), .val (.ref s2), .val (.ref b1), .val (.int (1 : Int32)), .val (.ref s2), .unset, .unset, .unset]) rfl ?_
          show Steps p.tables e below (T12.setTop (mkF m 308 #[.val (.int p1), .val (.int p2), .val (.int p3), .val (.int p4), .val (.int p5), .val (.int ln1), .val (.int x0), .val (.int x1), .val (.int y0), .val (.int y1), .val (.int ln2), .val (.int bo1), .val (.int bo2), .val (.int kd), .val (.ref s1), .val (.ref s2), .val (.ref b1), .val (.int (1 : Int32)), .val (.ref s2), .unset, .unset, .unset] [])) _
          refine XS.aload X12.here hx rfl (hb hby at_308) rfl rfl ?_
          show Steps p.tables e below (T12.setTop (mkF m 310 #[.val (.int p1), .val (.int p2), .val (.int p3), .val (.int p4), .val (.int p5), .val (.int ln1), .val (.int x0), .val (.int x1), .val (.int y0), .val (.int y1), .val (.int ln2), .val (.int bo1), .val (.int bo2), .val (.int kd), .val (.ref s1), .val (.ref s2), .val (.ref b1), .val (.int (1 : Int32)), .val (.ref s2), .unset, .unset, .unset] [(.ref b1)])) _
          refine XS.aload X12.here hx rfl (hb hby at_310) rfl rfl ?_
          show Steps p.tables e below (T12.setTop (mkF m 312 #[.val (.int p1), .val (.int p2), .val (.int p3), .val (.int p4), .val (.int p5), .val (.int ln1), .val (.int x0), .val (.int x1), .val (.int y0), .val (.int y1), .val (.int ln2), .val (.int bo1), .val (.int bo2), .val (.int kd), .val (.ref s1), .val (.ref s2), .val (.ref b1), .val (.int (1 : Int32)), .val (.ref s2), .unset, .unset, .unset] [(.ref s2), (.ref b1)])) _
          refine st17.trans ?_
          show Steps p.tables e below (T17.setTop (mkF m 315 #[.val (.int p1), .val (.int p2), .val (.int p3), .val (.int p4), .val (.int p5), .val (.int ln1), .val (.int x0), .val (.int x1), .val (.int y0), .val (.int y1), .val (.int ln2), .val (.int bo1), .val (.int bo2), .val (.int kd), .val (.ref s1), .val (.ref s2), .val (.ref b1), .val (.int (1 : Int32)), .val (.ref s2), .unset, .unset, .unset] [(.int (0 : Int32))])) _
          refine XS.ifNo X17.here hx rfl (hb hby at_315) rfl ((if0 _ _).trans (teq (by decide : ((0 : Int32) = (0 : Int32)))).2) ?_
          show Steps p.tables e below (T17.setTop (mkF m 318 #[.val (.int p1), .val (.int p2), .val (.int p3), .val (.int p4), .val (.int p5), .val (.int ln1), .val (.int x0), .val (.int x1), .val (.int y0), .val (.int y1), .val (.int ln2), .val (.int bo1), .val (.int bo2), .val (.int kd), .val (.ref s1), .val (.ref s2), .val (.ref b1), .val (.int (1 : Int32)), .val (.ref s2), .unset, .unset, .unset] [])) _
          refine XT.iconstV X17.here hx rfl (1 : Int32) (hb hby at_318) (by decide) ?_
          show Steps p.tables e below (T17.setTop (mkF m 319 #[.val (.int p1), .val (.int p2), .val (.int p3), .val (.int p4), .val (.int p5), .val (.int ln1), .val (.int x0), .val (.int x1), .val (.int y0), .val (.int y1), .val (.int ln2), .val (.int bo1), .val (.int bo2), .val (.int kd), .val (.ref s1), .val (.ref s2), .val (.ref b1), .val (.int (1 : Int32)), .val (.ref s2), .unset, .unset, .unset] [(.int (1 : Int32))])) _
          refine XS.goto X17.here hx rfl (pc0 := 319) (pc' := 323) rfl (hb hby at_319) (by decide) (by decide) ?_
          exact k)
        obtain ⟨fs, hr, hrun, hended, hEnd⟩ := X17.leaveW hS (by rw [e17]; exact hk2) (v := some (.int (1 : Int32))) (fun h => by rw [hret] at h; cases h) (hlocks := hlk)
        refine ⟨_, _, pre18 _ ?_, hrun, hended, _, _, rfl, ?_, own_endW hEnd (by decide) (by decide)⟩
        · show Steps p.tables e below (T17.setTop (mkF m 323 #[.val (.int p1), .val (.int p2), .val (.int p3), .val (.int p4), .val (.int p5), .val (.int ln1), .val (.int x0), .val (.int x1), .val (.int y0), .val (.int y1), .val (.int ln2), .val (.int bo1), .val (.int bo2), .val (.int kd), .val (.ref s1), .val (.ref s2), .val (.ref b1), .val (.int (1 : Int32)), .val (.ref s2), .unset, .unset, .unset] [(.int (1 : Int32))])) _
          exact retOut X17 hx hret rfl (Or.inl ⟨rfl, by simp, _, rfl⟩) (hb hby at_323) hr
        · exact ⟨rfl, N17⟩
      · have _ := 0
        obtain ⟨cq19, kq19, q19a, q19b, q19c⟩ := isOf hZ e12 E2c
        obtain ⟨_, _, ⟨T19, L19, k19, n19⟩, -, X19, ⟨Lc19, hQ19, l19, y19, z19⟩, st19⟩ := X12.virtualBack hx (y := (⟨"com/example/steadyhand/steadyhand/history/RecordedExecution", "equals", "(Ljava/lang/Object;)Z"⟩ : MethodName)) (z := (⟨"com/example/steadyhand/steadyhand/history/RecordedExecution", "equals", "(Ljava/lang/Object;)Z"⟩ : MethodName)) hown (mvT hZ (hw _ (List.mem_of_getElem? (i := 43) rfl))) (mvT hZ (hw _ (List.mem_of_getElem? (i := 44) rfl))) (notFace_of_selects (args := #[]) (mvT hZ (hw _ (List.mem_of_getElem? (i := 46) rfl)))) (mvT hZ (hw _ (List.mem_of_getElem? (i := 46) rfl))) (mvT hZ (hw _ (List.mem_of_getElem? (i := 45) rfl))) (by decide) (backOf (W := 0) (rm_eqN l Z a0 hw [] b1 T2.heap n0 (Nat.le_trans Z0 O2.1)) hZ (hw _ (List.mem_of_getElem? (i := 47) rfl)) (hw _ (List.mem_of_getElem? (i := 29) rfl)) (by decide) (by decide)) q19a q19c (g := (mkF m 331 #[.val (.int p1), .val (.int p2), .val (.int p3), .val (.int p4), .val (.int p5), .val (.int ln1), .val (.int x0), .val (.int x1), .val (.int y0), .val (.int y1), .val (.int ln2), .val (.int bo1), .val (.int bo2), .val (.int kd), .val (.ref s1), .val (.ref s2), .val (.ref b1), .val (.int (1 : Int32)), .val .null, .unset, .unset, .unset] [.null, (.ref b1)])) rfl (by rw [hml]; rfl) (Steps.refl _) (argsL := [.null]) (rest := []) (lenOf pd_1 rfl) rfl (by show 2 * 0 + _ ≤ _; exact Nat.le_of_eq rfl) (hb hby at_331) (fun _ _ => ⟨rfl, e12, (by decide : 9 + 0 ≤ _), (by decide : 22 + 0 ≤ _)⟩)
        dsimp only [Pt.U, Pt.locs, Pt.cells, Pt.slots] at X19 l19 y19 z19 st19 hQ19
        rw [y19, z19] at X19
        obtain ⟨rfl, N19q, e19⟩ := hQ19
        have N19 : Fr n0 L19 := by rw [l19]; exact Fr.app N12 N19q
        have pre20 : ∀ t, Steps p.tables e below (T19.setTop (mkF m 342 #[.val (.int p1), .val (.int p2), .val (.int p3), .val (.int p4), .val (.int p5), .val (.int ln1), .val (.int x0), .val (.int x1), .val (.int y0), .val (.int y1), .val (.int ln2), .val (.int bo1), .val (.int bo2), .val (.int kd), .val (.ref s1), .val (.ref s2), .val (.ref b1), .val (.int (1 : Int32)), .val .null, .unset, .unset, .unset] [(.int (1 : Int32))])) t → Steps p.tables e below START t := fun t k => pre15 t (by
          show Steps p.tables e below (T12.setTop (mkF m 301 #[.val (.int p1), .val (.int p2), .val (.int p3), .val (.int p4), .val (.int p5), .val (.int ln1), .val (.int x0), .val (.int x1), .val (.int y0), .val (.int y1), .val (.int ln2), .val (.int bo1), .val (.int bo2), .val (.int kd), .val (.ref s1), .val (.ref s2), .val (.ref b1), .val (.int (1 : Int32)), .unset, .unset, .unset, .unset] [(.int (2 : Int32)), (.int kd)])) _
          refine XS.icmpYes X12.here hx rfl (pc0 := 301) (pc' := 324) rfl (hb hby at_301) rfl (feq hc301_16).2 (by decide) (by decide) ?_
          show Steps p.tables e below (T12.setTop (mkF m 324 #[.val (.int p1), .val (.int p2), .val (.int p3), .val (.int p4), .val (.int p5), .val (.int ln1), .val (.int x0), .val (.int x1), .val (.int y0), .val (.int y1), .val (.int ln2), .val (.int bo1), .val (.int bo2), .val (.int kd), .val (.ref s1), .val (.ref s2), .val (.ref b1), .val (.int (1 : Int32)), .unset, .unset, .unset, .unset] [])) _
          refine XS.aconstNull X12.here hx rfl (hb hby at_324) ?_
          show Steps p.tables e below (T12.setTop (mkF m 325 #[.val (.int p1), .val (.int p2), .val (.int p3), .val (.int p4), .val (.int p5), .val (.int ln1), .val (.int x0), .val (.int x1), .val (.int y0), .val (.int y1), .val (.int ln2), .val (.int bo1), .val (.int bo2), .val (.int kd), .val (.ref s1), .val (.ref s2), .val (.ref b1), .val (.int (1 : Int32)), .unset, .unset, .unset, .unset] [.null])) _
          refine XS.astore X12.here hx rfl (hb hby at_325) rfl rfl (l' := #[.val (.int p1), .val (.int p2), .val (.int p3), .val (.int p4), .val (.int p5), .val (.int ln1), .val (.int x0), .val (.int x1), .val (.int y0), .val (.int y1), .val (.int ln2), .val (.int bo1), .val (.int bo2), .val (.int kd), .val (.ref s1), .val (.ref s2), .val (.ref b1), .val (.int (1 : Int32)), .val .null, .unset, .unset, .unset]) rfl ?_
          show Steps p.tables e below (T12.setTop (mkF m 327 #[.val (.int p1), .val (.int p2), .val (.int p3), .val (.int p4), .val (.int p5), .val (.int ln1), .val (.int x0), .val (.int x1), .val (.int y0), .val (.int y1), .val (.int ln2), .val (.int bo1), .val (.int bo2), .val (.int kd), .val (.ref s1), .val (.ref s2), .val (.ref b1), .val (.int (1 : Int32)), .val .null, .unset, .unset, .unset] [])) _
          refine XS.aload X12.here hx rfl (hb hby at_327) rfl rfl ?_
          show Steps p.tables e below (T12.setTop (mkF m 329 #[.val (.int p1), .val (.int p2), .val (.int p3), .val (.int p4), .val (.int p5), .val (.int ln1), .val (.int x0), .val (.int x1), .val (.int y0), .val (.int y1), .val (.int ln2), .val (.int bo1), .val (.int bo2), .val (.int kd), .val (.ref s1), .val (.ref s2), .val (.ref b1), .val (.int (1 : Int32)), .val .null, .unset, .unset, .unset] [(.ref b1)])) _
          refine XS.aload X12.here hx rfl (hb hby at_329) rfl rfl ?_
          show Steps p.tables e below (T12.setTop (mkF m 331 #[.val (.int p1), .val (.int p2), .val (.int p3), .val (.int p4), .val (.int p5), .val (.int ln1), .val (.int x0), .val (.int x1), .val (.int y0), .val (.int y1), .val (.int ln2), .val (.int bo1), .val (.int bo2), .val (.int kd), .val (.ref s1), .val (.ref s2), .val (.ref b1), .val (.int (1 : Int32)), .val .null, .unset, .unset, .unset] [.null, (.ref b1)])) _
          refine st19.trans ?_
          show Steps p.tables e below (T19.setTop (mkF m 334 #[.val (.int p1), .val (.int p2), .val (.int p3), .val (.int p4), .val (.int p5), .val (.int ln1), .val (.int x0), .val (.int x1), .val (.int y0), .val (.int y1), .val (.int ln2), .val (.int bo1), .val (.int bo2), .val (.int kd), .val (.ref s1), .val (.ref s2), .val (.ref b1), .val (.int (1 : Int32)), .val .null, .unset, .unset, .unset] [(.int (0 : Int32))])) _
          refine XS.ifNo X19.here hx rfl (hb hby at_334) rfl ((if0 _ _).trans (teq (by decide : ((0 : Int32) = (0 : Int32)))).2) ?_
          show Steps p.tables e below (T19.setTop (mkF m 337 #[.val (.int p1), .val (.int p2), .val (.int p3), .val (.int p4), .val (.int p5), .val (.int ln1), .val (.int x0), .val (.int x1), .val (.int y0), .val (.int y1), .val (.int ln2), .val (.int bo1), .val (.int bo2), .val (.int kd), .val (.ref s1), .val (.ref s2), .val (.ref b1), .val (.int (1 : Int32)), .val .null, .unset, .unset, .unset] [])) _
          refine XT.iconstV X19.here hx rfl (1 : Int32) (hb hby at_337) (by decide) ?_
          show Steps p.tables e below (T19.setTop (mkF m 338 #[.val (.int p1), .val (.int p2), .val (.int p3), .val (.int p4), .val (.int p5), .val (.int ln1), .val (.int x0), .val (.int x1), .val (.int y0), .val (.int y1), .val (.int ln2), .val (.int bo1), .val (.int bo2), .val (.int kd), .val (.ref s1), .val (.ref s2), .val (.ref b1), .val (.int (1 : Int32)), .val .null, .unset, .unset, .unset] [(.int (1 : Int32))])) _
          refine XS.goto X19.here hx rfl (pc0 := 338) (pc' := 342) rfl (hb hby at_338) (by decide) (by decide) ?_
          exact k)
        obtain ⟨fs, hr, hrun, hended, hEnd⟩ := X19.leaveW hS (by rw [e19]; exact hk2) (v := some (.int (1 : Int32))) (fun h => by rw [hret] at h; cases h) (hlocks := hlk)
        refine ⟨_, _, pre20 _ ?_, hrun, hended, _, _, rfl, ?_, own_endW hEnd (by decide) (by decide)⟩
        · show Steps p.tables e below (T19.setTop (mkF m 342 #[.val (.int p1), .val (.int p2), .val (.int p3), .val (.int p4), .val (.int p5), .val (.int ln1), .val (.int x0), .val (.int x1), .val (.int y0), .val (.int y1), .val (.int ln2), .val (.int bo1), .val (.int bo2), .val (.int kd), .val (.ref s1), .val (.ref s2), .val (.ref b1), .val (.int (1 : Int32)), .val .null, .unset, .unset, .unset] [(.int (1 : Int32))])) _
          exact retOut X19 hx hret rfl (Or.inl ⟨rfl, by simp, _, rfl⟩) (hb hby at_342) hr
        · exact ⟨rfl, N19⟩
    · have _ := 0
      obtain ⟨T21, h21, X21, e21, E21, A21, D21, -, st21⟩ := newO X12 hx hZ hown (hw _ (List.mem_of_getElem? (i := 27) rfl)) (hw _ (List.mem_of_getElem? (i := 28) rfl)) (hw _ (List.mem_of_getElem? (i := 29) rfl)) e12 (g := (mkF m 228 #[.val (.int p1), .val (.int p2), .val (.int p3), .val (.int p4), .val (.int p5), .val (.int ln1), .val (.int x0), .val (.int x1), .val (.int y0), .val (.int y1), .val (.int ln2), .val (.int bo1), .val (.int bo2), .val (.int kd), .val (.ref s1), .val (.ref s2), .val (.ref b1), .val (.int (1 : Int32)), .unset, .unset, .unset, .unset] [])) rfl (hb hby at_228) (by decide) (by decide)
      obtain ⟨b21, g21⟩ : ∃ z, z = T2.heap.size := ⟨_, rfl⟩
      rw [← g21] at A21 D21 st21
      have ne_b1_b21 : b1 ≠ b21 := Nat.ne_of_lt (Nat.lt_of_lt_of_le E2c.lt (Nat.le_of_eq g21.symm))
      have z_b21 : h0.size ≤ b21 := Nat.le_trans O2.1 (Nat.le_of_eq g21.symm)
      have g_b21 : n0 ≤ b21 := Nat.le_trans Z0 z_b21
      have E21_b1 := E2c.ext E21
      have F21_b1_key := F2c.ext E21
      have F21_b1_passed := F2d.ext E21
      have O21 := own_ext_trans O2 E21
      have hk21 : k0 ≤ h21.size := Nat.le_trans hk2 E21.1
      have F21_b21_key : Fld Z h21 b21 "com/example/steadyhand/steadyhand/history/RecordedExecution" "key" "Ljava/lang/String;" .null := D21 (Or.inr (hw _ (List.mem_of_getElem? (i := 40) rfl))) (ty := (.object "java/lang/String")) (by decide)
      have F21_b21_passed : Fld Z h21 b21 "com/example/steadyhand/steadyhand/history/RecordedExecution" "passed" "Z" (.int (0 : Int32)) := D21 (Or.inr (hw _ (List.mem_of_getElem? (i := 42) rfl))) (ty := .boolean) (by decide)
      obtain ⟨_, _, ⟨T22, L22, k22, n22⟩, -, X22, ⟨Lc22, hQ22, l22, y22, z22⟩, st22⟩ := X21.specialBack hx (y := (⟨"com/example/steadyhand/steadyhand/history/RecordedExecution", "<init>", "(Ljava/lang/String;Z)V"⟩ : MethodName)) rfl hown (mvT hZ (hw _ (List.mem_of_getElem? (i := 30) rfl))) (mvT hZ (hw _ (List.mem_of_getElem? (i := 31) rfl))) (mvT hZ (hw _ (List.mem_of_getElem? (i := 32) rfl))) (by decide) (backOf (W := 1) (rm_ri l Z a0 hw [] b21 s2 bo2 h21 n0 (Nat.le_trans Z0 O21.1) A21 F21_b21_key F21_b21_passed g_b21 (S2.ext O21).1 hb2) hZ (hw _ (List.mem_of_getElem? (i := 32) rfl)) (hw _ (List.mem_of_getElem? (i := 29) rfl)) (by decide) (by decide)) (g := (mkF m 236 #[.val (.int p1), .val (.int p2), .val (.int p3), .val (.int p4), .val (.int p5), .val (.int ln1), .val (.int x0), .val (.int x1), .val (.int y0), .val (.int y1), .val (.int ln2), .val (.int bo1), .val (.int bo2), .val (.int kd), .val (.ref s1), .val (.ref s2), .val (.ref b1), .val (.int (1 : Int32)), .unset, .unset, .unset, .unset] [(.int bo2), (.ref s2), (.ref b21), (.ref b21)])) rfl (by rw [hml]; rfl) (Steps.refl _) (a := b21) (argsL := [(.ref s2), (.int bo2)]) (rest := [(.ref b21)]) (lenOf pd_3 rfl) rfl (by show 2 * 0 + _ ≤ _; exact Nat.le_of_eq rfl) (hb hby at_236) (fun _ _ => ⟨rfl, e21, (by decide : 10 + 0 ≤ _), (by decide : 24 + 0 ≤ _)⟩)
      dsimp only [Pt.U, Pt.locs, Pt.cells, Pt.slots] at X22 l22 y22 z22 st22 hQ22
      rw [y22, z22] at X22
      obtain ⟨rfl, N22q, K22c, E22c, F22c, F22d⟩ := hQ22
      have N22 : Fr n0 L22 := by rw [l22]; exact Fr.app N12 N22q
      have E22_b1 := E21_b1.keep K22c
      have E22_b21 := A21.keep K22c
      have F22_b1_key := F21_b1_key.keep K22c (ninS ne_b1_b21 nin0)
      have F22_b1_passed := F21_b1_passed.keep K22c (ninS ne_b1_b21 nin0)
      have O22 := own_ext_keep O21 K22c (allS z_b21 all0)
      have hk22 : k0 ≤ T22.heap.size := Nat.le_trans hk21 K22c.1
      have pre23 : ∀ t, Steps p.tables e below (T22.setTop (mkF m 250 #[.val (.int p1), .val (.int p2), .val (.int p3), .val (.int p4), .val (.int p5), .val (.int ln1), .val (.int x0), .val (.int x1), .val (.int y0), .val (.int y1), .val (.int ln2), .val (.int bo1), .val (.int bo2), .val (.int kd), .val (.ref s1), .val (.ref s2), .val (.ref b1), .val (.int (1 : Int32)), .val (.ref b21), .unset, .unset, .unset] [(.int bo2), (.int bo1)])) t → Steps p.tables e below START t := fun t k => pre13 t (by
        show Steps p.tables e below (T12.setTop (mkF m 225 #[.val (.int p1), .val (.int p2), .val (.int p3), .val (.int p4), .val (.int p5), .val (.int ln1), .val (.int x0), .val (.int x1), .val (.int y0), .val (.int y1), .val (.int ln2), .val (.int bo1), .val (.int bo2), .val (.int kd), .val (.ref s1), .val (.ref s2), .val (.ref b1), .val (.int (1 : Int32)), .unset, .unset, .unset, .unset] [(.int (1 : Int32)), (.int kd)])) _
        refine XS.icmpNo X12.here hx rfl (hb hby at_225) rfl (flt hc225_14).2.2.1 ?_
        show Steps p.tables e below (T12.setTop (mkF m 228 #[.val (.int p1), .val (.int p2), .val (.int p3), .val (.int p4), .val (.int p5), .val (.int ln1), .val (.int x0), .val (.int x1), .val (.int y0), .val (.int y1), .val (.int ln2), .val (.int bo1), .val (.int bo2), .val (.int kd), .val (.ref s1), .val (.ref s2), .val (.ref b1), .val (.int (1 : Int32)), .unset, .unset, .unset, .unset] [])) _
        refine st21 _ ?_
        show Steps p.tables e below (T21.setTop (mkF m 231 #[.val (.int p1), .val (.int p2), .val (.int p3), .val (.int p4), .val (.int p5), .val (.int ln1), .val (.int x0), .val (.int x1), .val (.int y0), .val (.int y1), .val (.int ln2), .val (.int bo1), .val (.int bo2), .val (.int kd), .val (.ref s1), .val (.ref s2), .val (.ref b1), .val (.int (1 : Int32)), .unset, .unset, .unset, .unset] [(.ref b21)])) _
        refine XS.dup X21.here hx rfl (hb hby at_231) rfl rfl ?_
        show Steps p.tables e below (T21.setTop (mkF m 232 #[.val (.int p1), .val (.int p2), .val (.int p3), .val (.int p4), .val (.int p5), .val (.int ln1), .val (.int x0), .val (.int x1), .val (.int y0), .val (.int y1), .val (.int ln2), .val (.int bo1), .val (.int bo2), .val (.int kd), .val (.ref s1), .val (.ref s2), .val (.ref b1), .val (.int (1 : Int32)), .unset, .unset, .unset, .unset] [(.ref b21), (.ref b21)])) _
        refine XS.aload X21.here hx rfl (hb hby at_232) rfl rfl ?_
        show Steps p.tables e below (T21.setTop (mkF m 234 #[.val (.int p1), .val (.int p2), .val (.int p3), .val (.int p4), .val (.int p5), .val (.int ln1), .val (.int x0), .val (.int x1), .val (.int y0), .val (.int y1), .val (.int ln2), .val (.int bo1), .val (.int bo2), .val (.int kd), .val (.ref s1), .val (.ref s2), .val (.ref b1), .val (.int (1 : Int32)), .unset, .unset, .unset, .unset] [(.ref s2), (.ref b21), (.ref b21)])) _
        refine XS.iload X21.here hx rfl (hb hby at_234) rfl ?_
        show Steps p.tables e below (T21.setTop (mkF m 236 #[.val (.int p1), .val (.int p2), .val (.int p3), .val (.int p4), .val (.int p5), .val (.int ln1), .val (.int x0), .val (.int x1), .val (.int y0), .val (.int y1), .val (.int ln2), .val (.int bo1), .val (.int bo2), .val (.int kd), .val (.ref s1), .val (.ref s2), .val (.ref b1), .val (.int (1 : Int32)), .unset, .unset, .unset, .unset] [(.int bo2), (.ref s2), (.ref b21), (.ref b21)])) _
        refine st22.trans ?_
        show Steps p.tables e below (T22.setTop (mkF m 239 #[.val (.int p1), .val (.int p2), .val (.int p3), .val (.int p4), .val (.int p5), .val (.int ln1), .val (.int x0), .val (.int x1), .val (.int y0), .val (.int y1), .val (.int ln2), .val (.int bo1), .val (.int bo2), .val (.int kd), .val (.ref s1), .val (.ref s2), .val (.ref b1), .val (.int (1 : Int32)), .unset, .unset, .unset, .unset] [(.ref b21)])) _
        refine XS.astore X22.here hx rfl (hb hby at_239) rfl rfl (l' := #[.val (.int p1), .val (.int p2), .val (.int p3), .val (.int p4), .val (.int p5), .val (.int ln1), .val (.int x0), .val (.int x1), .val (.int y0), .val (.int y1), .val (.int ln2), .val (.int bo1), .val (.int bo2), .val (.int kd), .val (.ref s1), .val (.ref s2), .val (.ref b1), .val (.int (1 : Int32)), .val (.ref b21), .unset, .unset, .unset]) rfl ?_
        show Steps p.tables e below (T22.setTop (mkF m 241 #[.val (.int p1), .val (.int p2), .val (.int p3), .val (.int p4), .val (.int p5), .val (.int ln1), .val (.int x0), .val (.int x1), .val (.int y0), .val (.int y1), .val (.int ln2), .val (.int bo1), .val (.int bo2), .val (.int kd), .val (.ref s1), .val (.ref s2), .val (.ref b1), .val (.int (1 : Int32)), .val (.ref b21), .unset, .unset, .unset] [])) _
        refine XS.iload X22.here hx rfl (hb hby at_241) rfl ?_
        show Steps p.tables e below (T22.setTop (mkF m 243 #[.val (.int p1), .val (.int p2), .val (.int p3), .val (.int p4), .val (.int p5), .val (.int ln1), .val (.int x0), .val (.int x1), .val (.int y0), .val (.int y1), .val (.int ln2), .val (.int bo1), .val (.int bo2), .val (.int kd), .val (.ref s1), .val (.ref s2), .val (.ref b1), .val (.int (1 : Int32)), .val (.ref b21), .unset, .unset, .unset] [(.int (1 : Int32))])) _
        refine XS.ifNo X22.here hx rfl (hb hby at_243) rfl ((if0 _ _).trans (feq (by decide : ¬ ((1 : Int32) = (0 : Int32)))).1) ?_
        show Steps p.tables e below (T22.setTop (mkF m 246 #[.val (.int p1), .val (.int p2), .val (.int p3), .val (.int p4), .val (.int p5), .val (.int ln1), .val (.int x0), .val (.int x1), .val (.int y0), .val (.int y1), .val (.int ln2), .val (.int bo1), .val (.int bo2), .val (.int kd), .val (.ref s1), .val (.ref s2), .val (.ref b1), .val (.int (1 : Int32)), .val (.ref b21), .unset, .unset, .unset] [])) _
        refine XS.iload X22.here hx rfl (hb hby at_246) rfl ?_
        show Steps p.tables e below (T22.setTop (mkF m 248 #[.val (.int p1), .val (.int p2), .val (.int p3), .val (.int p4), .val (.int p5), .val (.int ln1), .val (.int x0), .val (.int x1), .val (.int y0), .val (.int y1), .val (.int ln2), .val (.int bo1), .val (.int bo2), .val (.int kd), .val (.ref s1), .val (.ref s2), .val (.ref b1), .val (.int (1 : Int32)), .val (.ref b21), .unset, .unset, .unset] [(.int bo1)])) _
        refine XS.iload X22.here hx rfl (hb hby at_248) rfl ?_
        exact k)
      by_cases hc250_24 : bo1 = bo2
      · have _ := 0
        obtain ⟨cq25, kq25, q25a, q25b, q25c⟩ := isOf hZ rfl E22_b1
        obtain ⟨_, _, ⟨T25, L25, k25, n25⟩, -, X25, ⟨Lc25, hQ25, l25, y25, z25⟩, st25⟩ := X22.virtualBack hx (y := (⟨"com/example/steadyhand/steadyhand/history/RecordedExecution", "equals", "(Ljava/lang/Object;)Z"⟩ : MethodName)) (z := (⟨"com/example/steadyhand/steadyhand/history/RecordedExecution", "equals", "(Ljava/lang/Object;)Z"⟩ : MethodName)) hown (mvT hZ (hw _ (List.mem_of_getElem? (i := 43) rfl))) (mvT hZ (hw _ (List.mem_of_getElem? (i := 44) rfl))) (notFace_of_selects (args := #[]) (mvT hZ (hw _ (List.mem_of_getElem? (i := 46) rfl)))) (mvT hZ (hw _ (List.mem_of_getElem? (i := 46) rfl))) (mvT hZ (hw _ (List.mem_of_getElem? (i := 45) rfl))) (by decide) (backOf (W := 0) (rm_eq l Z a0 hw [] b1 b21 T22.heap n0 (Nat.le_trans Z0 O22.1) E22_b1 E22c s1 s2 bo1 bo2 F22_b1_key F22c F22_b1_passed F22d cs ds (S1.ext O22) (S2.ext O22) zc (Sc.ext O22) hzc (1 : Int32) (by simp [own_eq, hke, hc250_24])) hZ (hw _ (List.mem_of_getElem? (i := 47) rfl)) (hw _ (List.mem_of_getElem? (i := 29) rfl)) (by decide) (by decide)) q25a q25c (g := (mkF m 264 #[.val (.int p1), .val (.int p2), .val (.int p3), .val (.int p4), .val (.int p5), .val (.int ln1), .val (.int x0), .val (.int x1), .val (.int y0), .val (.int y1), .val (.int ln2), .val (.int bo1), .val (.int bo2), .val (.int kd), .val (.ref s1), .val (.ref s2), .val (.ref b1), .val (.int (1 : Int32)), .val (.ref b21), .val (.int (1 : Int32)), .unset, .unset] [(.ref b21), (.ref b1)])) rfl (by rw [hml]; rfl) (Steps.refl _) (argsL := [(.ref b21)]) (rest := []) (lenOf pd_1 rfl) rfl (by show 2 * 0 + _ ≤ _; exact Nat.le_of_eq rfl) (hb hby at_264) (fun _ _ => ⟨rfl, rfl, (by decide : 10 + 0 ≤ _), (by decide : 24 + 0 ≤ _)⟩)
        dsimp only [Pt.U, Pt.locs, Pt.cells, Pt.slots] at X25 l25 y25 z25 st25 hQ25
        rw [y25, z25] at X25
        obtain ⟨rfl, N25q, e25⟩ := hQ25
        have N25 : Fr n0 L25 := by rw [l25]; exact Fr.app N22 N25q
        obtain ⟨cq26, kq26, q26a, q26b, q26c⟩ := isOf hZ e25 E22c
        obtain ⟨_, _, ⟨T26, L26, k26, n26⟩, -, X26, ⟨Lc26, hQ26, l26, y26, z26⟩, st26⟩ := X25.virtualBack hx (y := (⟨"com/example/steadyhand/steadyhand/history/RecordedExecution", "equals", "(Ljava/lang/Object;)Z"⟩ : MethodName)) (z := (⟨"com/example/steadyhand/steadyhand/history/RecordedExecution", "equals", "(Ljava/lang/Object;)Z"⟩ : MethodName)) hown (mvT hZ (hw _ (List.mem_of_getElem? (i := 43) rfl))) (mvT hZ (hw _ (List.mem_of_getElem? (i := 44) rfl))) (notFace_of_selects (args := #[]) (mvT hZ (hw _ (List.mem_of_getElem? (i := 46) rfl)))) (mvT hZ (hw _ (List.mem_of_getElem? (i := 46) rfl))) (mvT hZ (hw _ (List.mem_of_getElem? (i := 45) rfl))) (by decide) (backOf (W := 0) (rm_eq l Z a0 hw [] b21 b1 T22.heap n0 (Nat.le_trans Z0 O22.1) E22c E22_b1 s2 s1 bo2 bo1 F22c F22_b1_key F22d F22_b1_passed ds cs (S2.ext O22) (S1.ext O22) zc (Sc.ext O22) hzc (1 : Int32) (by simp [own_eq, hke.symm, hc250_24.symm])) hZ (hw _ (List.mem_of_getElem? (i := 47) rfl)) (hw _ (List.mem_of_getElem? (i := 29) rfl)) (by decide) (by decide)) q26a q26c (g := (mkF m 273 #[.val (.int p1), .val (.int p2), .val (.int p3), .val (.int p4), .val (.int p5), .val (.int ln1), .val (.int x0), .val (.int x1), .val (.int y0), .val (.int y1), .val (.int ln2), .val (.int bo1), .val (.int bo2), .val (.int kd), .val (.ref s1), .val (.ref s2), .val (.ref b1), .val (.int (1 : Int32)), .val (.ref b21), .val (.int (1 : Int32)), .val (.int (1 : Int32)), .unset] [(.ref b1), (.ref b21)])) rfl (by rw [hml]; rfl) (Steps.refl _) (argsL := [(.ref b1)]) (rest := []) (lenOf pd_1 rfl) rfl (by show 2 * 0 + _ ≤ _; exact Nat.le_of_eq rfl) (hb hby at_273) (fun _ _ => ⟨rfl, e25, (by decide : 10 + 0 ≤ _), (by decide : 24 + 0 ≤ _)⟩)
        dsimp only [Pt.U, Pt.locs, Pt.cells, Pt.slots] at X26 l26 y26 z26 st26 hQ26
        rw [y26, z26] at X26
        obtain ⟨rfl, N26q, e26⟩ := hQ26
        have N26 : Fr n0 L26 := by rw [l26]; exact Fr.app N25 N26q
        have pre27 : ∀ t, Steps p.tables e below (T26.setTop (mkF m 280 #[.val (.int p1), .val (.int p2), .val (.int p3), .val (.int p4), .val (.int p5), .val (.int ln1), .val (.int x0), .val (.int x1), .val (.int y0), .val (.int y1), .val (.int ln2), .val (.int bo1), .val (.int bo2), .val (.int kd), .val (.ref s1), .val (.ref s2), .val (.ref b1), .val (.int (1 : Int32)), .val (.ref b21), .val (.int (1 : Int32)), .val (.int (1 : Int32)), .val (.int (1 : Int32))] [(.int (1 : Int32))])) t → Steps p.tables e below START t := fun t k => pre23 t (by
          show Steps p.tables e below (T22.setTop (mkF m 250 #[.val (.int p1), .val (.int p2), .val (.int p3), .val (.int p4), .val (.int p5), .val (.int ln1), .val (.int x0), .val (.int x1), .val (.int y0), .val (.int y1), .val (.int ln2), .val (.int bo1), .val (.int bo2), .val (.int kd), .val (.ref s1), .val (.ref s2), .val (.ref b1), .val (.int (1 : Int32)), .val (.ref b21), .unset, .unset, .unset] [(.int bo2), (.int bo1)])) _
          refine XS.icmpNo X22.here hx rfl (hb hby at_250) rfl (teq hc250_24).2 ?_
          show Steps p.tables e below (T22.setTop (mkF m 253 #[.val (.int p1), .val (.int p2), .val (.int p3), .val (.int p4), .val (.int p5), .val (.int ln1), .val (.int x0), .val (.int x1), .val (.int y0), .val (.int y1), .val (.int ln2), .val (.int bo1), .val (.int bo2), .val (.int kd), .val (.ref s1), .val (.ref s2), .val (.ref b1), .val (.int (1 : Int32)), .val (.ref b21), .unset, .unset, .unset] [])) _
          refine XT.iconstV X22.here hx rfl (1 : Int32) (hb hby at_253) (by decide) ?_
          show Steps p.tables e below (T22.setTop (mkF m 254 #[.val (.int p1), .val (.int p2), .val (.int p3), .val (.int p4), .val (.int p5), .val (.int ln1), .val (.int x0), .val (.int x1), .val (.int y0), .val (.int y1), .val (.int ln2), .val (.int bo1), .val (.int bo2), .val (.int kd), .val (.ref s1), .val (.ref s2), .val (.ref b1), .val (.int (1 : Int32)), .val (.ref b21), .unset, .unset, .unset] [(.int (1 : Int32))])) _
          refine XS.goto X22.here hx rfl (pc0 := 254) (pc' := 258) rfl (hb hby at_254) (by decide) (by decide) ?_
          show Steps p.tables e below (T22.setTop (mkF m 258 #[.val (.int p1), .val (.int p2), .val (.int p3), .val (.int p4), .val (.int p5), .val (.int ln1), .val (.int x0), .val (.int x1), .val (.int y0), .val (.int y1), .val (.int ln2), .val (.int bo1), .val (.int bo2), .val (.int kd), .val (.ref s1), .val (.ref s2), .val (.ref b1), .val (.int (1 : Int32)), .val (.ref b21), .unset, .unset, .unset] [(.int (1 : Int32))])) _
          refine XS.istore X22.here hx rfl (hb hby at_258) rfl (l' := #[.val (.int p1), .val (.int p2), .val (.int p3), .val (.int p4), .val (.int p5), .val (.int ln1), .val (.int x0), .val (.int x1), .val (.int y0), .val (.int y1), .val (.int ln2), .val (.int bo1), .val (.int bo2), .val (.int kd), .val (.ref s1), .val (.ref s2), .val (.ref b1), .val (.int (1 : Int32)), .val (.ref b21), .val (.int (1 : Int32)), .unset, .unset]) rfl ?_
          show Steps p.tables e below (T22.setTop (mkF m 260 #[.val (.int p1), .val (.int p2), .val (.int p3), .val (.int p4), .val (.int p5), .val (.int ln1), .val (.int x0), .val (.int x1), .val (.int y0), .val (.int y1), .val (.int ln2), .val (.int bo1), .val (.int bo2), .val (.int kd), .val (.ref s1), .val (.ref s2), .val (.ref b1), .val (.int (1 : Int32)), .val (.ref b21), .val (.int (1 : Int32)), .unset, .unset] [])) _
          refine XS.aload X22.here hx rfl (hb hby at_260) rfl rfl ?_
          show Steps p.tables e below (T22.setTop (mkF m 262 #[.val (.int p1), .val (.int p2), .val (.int p3), .val (.int p4), .val (.int p5), .val (.int ln1), .val (.int x0), .val (.int x1), .val (.int y0), .val (.int y1), .val (.int ln2), .val (.int bo1), .val (.int bo2), .val (.int kd), .val (.ref s1), .val (.ref s2), .val (.ref b1), .val (.int (1 : Int32)), .val (.ref b21), .val (.int (1 : Int32)), .unset, .unset] [(.ref b1)])) _
          refine XS.aload X22.here hx rfl (hb hby at_262) rfl rfl ?_
          show Steps p.tables e below (T22.setTop (mkF m 264 #[.val (.int p1), .val (.int p2), .val (.int p3), .val (.int p4), .val (.int p5), .val (.int ln1), .val (.int x0), .val (.int x1), .val (.int y0), .val (.int y1), .val (.int ln2), .val (.int bo1), .val (.int bo2), .val (.int kd), .val (.ref s1), .val (.ref s2), .val (.ref b1), .val (.int (1 : Int32)), .val (.ref b21), .val (.int (1 : Int32)), .unset, .unset] [(.ref b21), (.ref b1)])) _
          refine st25.trans ?_
          show Steps p.tables e below (T25.setTop (mkF m 267 #[.val (.int p1), .val (.int p2), .val (.int p3), .val (.int p4), .val (.int p5), .val (.int ln1), .val (.int x0), .val (.int x1), .val (.int y0), .val (.int y1), .val (.int ln2), .val (.int bo1), .val (.int bo2), .val (.int kd), .val (.ref s1), .val (.ref s2), .val (.ref b1), .val (.int (1 : Int32)), .val (.ref b21), .val (.int (1 : Int32)), .unset, .unset] [(.int (1 : Int32))])) _
          refine XS.istore X25.here hx rfl (hb hby at_267) rfl (l' := #[.val (.int p1), .val (.int p2), .val (.int p3), .val (.int p4), .val (.int p5), .val (.int ln1), .val (.int x0), .val (.int x1), .val (.int y0), .val (.int y1), .val (.int ln2), .val (.int bo1), .val (.int bo2), .val (.int kd), .val (.ref s1), .val (.ref s2), .val (.ref b1), .val (.int (1 : Int32)), .val (.ref b21), .val (.int (1 : Int32)), .val (.int (1 : Int32)), .unset]) rfl ?_
          show Steps p.tables e below (T25.setTop (mkF m 269 #[.val (.int p1), .val (.int p2), .val (.int p3), .val (.int p4), .val (.int p5), .val (.int ln1), .val (.int x0), .val (.int x1), .val (.int y0), .val (.int y1), .val (.int ln2), .val (.int bo1), .val (.int bo2), .val (.int kd), .val (.ref s1), .val (.ref s2), .val (.ref b1), .val (.int (1 : Int32)), .val (.ref b21), .val (.int (1 : Int32)), .val (.int (1 : Int32)), .unset] [])) _
          refine XS.aload X25.here hx rfl (hb hby at_269) rfl rfl ?_
          show Steps p.tables e below (T25.setTop (mkF m 271 #[.val (.int p1), .val (.int p2), .val (.int p3), .val (.int p4), .val (.int p5), .val (.int ln1), .val (.int x0), .val (.int x1), .val (.int y0), .val (.int y1), .val (.int ln2), .val (.int bo1), .val (.int bo2), .val (.int kd), .val (.ref s1), .val (.ref s2), .val (.ref b1), .val (.int (1 : Int32)), .val (.ref b21), .val (.int (1 : Int32)), .val (.int (1 : Int32)), .unset] [(.ref b21)])) _
          refine XS.aload X25.here hx rfl (hb hby at_271) rfl rfl ?_
          show Steps p.tables e below (T25.setTop (mkF m 273 #[.val (.int p1), .val (.int p2), .val (.int p3), .val (.int p4), .val (.int p5), .val (.int ln1), .val (.int x0), .val (.int x1), .val (.int y0), .val (.int y1), .val (.int ln2), .val (.int bo1), .val (.int bo2), .val (.int kd), .val (.ref s1), .val (.ref s2), .val (.ref b1), .val (.int (1 : Int32)), .val (.ref b21), .val (.int (1 : Int32)), .val (.int (1 : Int32)), .unset] [(.ref b1), (.ref b21)])) _
          refine st26.trans ?_
          show Steps p.tables e below (T26.setTop (mkF m 276 #[.val (.int p1), .val (.int p2), .val (.int p3), .val (.int p4), .val (.int p5), .val (.int ln1), .val (.int x0), .val (.int x1), .val (.int y0), .val (.int y1), .val (.int ln2), .val (.int bo1), .val (.int bo2), .val (.int kd), .val (.ref s1), .val (.ref s2), .val (.ref b1), .val (.int (1 : Int32)), .val (.ref b21), .val (.int (1 : Int32)), .val (.int (1 : Int32)), .unset] [(.int (1 : Int32))])) _
          refine XS.istore X26.here hx rfl (hb hby at_276) rfl (l' := #[.val (.int p1), .val (.int p2), .val (.int p3), .val (.int p4), .val (.int p5), .val (.int ln1), .val (.int x0), .val (.int x1), .val (.int y0), .val (.int y1), .val (.int ln2), .val (.int bo1), .val (.int bo2), .val (.int kd), .val (.ref s1), .val (.ref s2), .val (.ref b1), .val (.int (1 : Int32)), .val (.ref b21), .val (.int (1 : Int32)), .val (.int (1 : Int32)), .val (.int (1 : Int32))]) rfl ?_
          show Steps p.tables e below (T26.setTop (mkF m 278 #[.val (.int p1), .val (.int p2), .val (.int p3), .val (.int p4), .val (.int p5), .val (.int ln1), .val (.int x0), .val (.int x1), .val (.int y0), .val (.int y1), .val (.int ln2), .val (.int bo1), .val (.int bo2), .val (.int kd), .val (.ref s1), .val (.ref s2), .val (.ref b1), .val (.int (1 : Int32)), .val (.ref b21), .val (.int (1 : Int32)), .val (.int (1 : Int32)), .val (.int (1 : Int32))] [])) _
          refine XS.iload X26.here hx rfl (hb hby at_278) rfl ?_
          exact k)
        have pre28 : ∀ t, Steps p.tables e below (T26.setTop (mkF m 297 #[.val (.int p1), .val (.int p2), .val (.int p3), .val (.int p4), .val (.int p5), .val (.int ln1), .val (.int x0), .val (.int x1), .val (.int y0), .val (.int y1), .val (.int ln2), .val (.int bo1), .val (.int bo2), .val (.int kd), .val (.ref s1), .val (.ref s2), .val (.ref b1), .val (.int (1 : Int32)), .val (.ref b21), .val (.int (1 : Int32)), .val (.int (1 : Int32)), .val (.int (1 : Int32))] [(.int (1 : Int32))])) t → Steps p.tables e below START t := fun t k => pre27 t (by
          show Steps p.tables e below (T26.setTop (mkF m 280 #[.val (.int p1), .val (.int p2), .val (.int p3), .val (.int p4), .val (.int p5), .val (.int ln1), .val (.int x0), .val (.int x1), .val (.int y0), .val (.int y1), .val (.int ln2), .val (.int bo1), .val (.int bo2), .val (.int kd), .val (.ref s1), .val (.ref s2), .val (.ref b1), .val (.int (1 : Int32)), .val (.ref b21), .val (.int (1 : Int32)), .val (.int (1 : Int32)), .val (.int (1 : Int32))] [(.int (1 : Int32))])) _
          refine XS.iload X26.here hx rfl (hb hby at_280) rfl ?_
          show Steps p.tables e below (T26.setTop (mkF m 282 #[.val (.int p1), .val (.int p2), .val (.int p3), .val (.int p4), .val (.int p5), .val (.int ln1), .val (.int x0), .val (.int x1), .val (.int y0), .val (.int y1), .val (.int ln2), .val (.int bo1), .val (.int bo2), .val (.int kd), .val (.ref s1), .val (.ref s2), .val (.ref b1), .val (.int (1 : Int32)), .val (.ref b21), .val (.int (1 : Int32)), .val (.int (1 : Int32)), .val (.int (1 : Int32))] [(.int (1 : Int32)), (.int (1 : Int32))])) _
          refine XS.icmpNo X26.here hx rfl (hb hby at_282) rfl (teq (by decide : ((1 : Int32) = (1 : Int32)))).2 ?_
          show Steps p.tables e below (T26.setTop (mkF m 285 #[.val (.int p1), .val (.int p2), .val (.int p3), .val (.int p4), .val (.int p5), .val (.int ln1), .val (.int x0), .val (.int x1), .val (.int y0), .val (.int y1), .val (.int ln2), .val (.int bo1), .val (.int bo2), .val (.int kd), .val (.ref s1), .val (.ref s2), .val (.ref b1), .val (.int (1 : Int32)), .val (.ref b21), .val (.int (1 : Int32)), .val (.int (1 : Int32)), .val (.int (1 : Int32))] [])) _
          refine XS.iload X26.here hx rfl (hb hby at_285) rfl ?_
          show Steps p.tables e below (T26.setTop (mkF m 287 #[.val (.int p1), .val (.int p2), .val (.int p3), .val (.int p4), .val (.int p5), .val (.int ln1), .val (.int x0), .val (.int x1), .val (.int y0), .val (.int y1), .val (.int ln2), .val (.int bo1), .val (.int bo2), .val (.int kd), .val (.ref s1), .val (.ref s2), .val (.ref b1), .val (.int (1 : Int32)), .val (.ref b21), .val (.int (1 : Int32)), .val (.int (1 : Int32)), .val (.int (1 : Int32))] [(.int (1 : Int32))])) _
          refine XS.iload X26.here hx rfl (hb hby at_287) rfl ?_
          show Steps p.tables e below (T26.setTop (mkF m 289 #[.val (.int p1), .val (.int p2), .val (.int p3), .val (.int p4), .val (.int p5), .val (.int ln1), .val (.int x0), .val (.int x1), .val (.int y0), .val (.int y1), .val (.int ln2), .val (.int bo1), .val (.int bo2), .val (.int kd), .val (.ref s1), .val (.ref s2), .val (.ref b1), .val (.int (1 : Int32)), .val (.ref b21), .val (.int (1 : Int32)), .val (.int (1 : Int32)), .val (.int (1 : Int32))] [(.int (1 : Int32)), (.int (1 : Int32))])) _
          refine XS.icmpNo X26.here hx rfl (hb hby at_289) rfl (teq (by decide : ((1 : Int32) = (1 : Int32)))).2 ?_
          show Steps p.tables e below (T26.setTop (mkF m 292 #[.val (.int p1), .val (.int p2), .val (.int p3), .val (.int p4), .val (.int p5), .val (.int ln1), .val (.int x0), .val (.int x1), .val (.int y0), .val (.int y1), .val (.int ln2), .val (.int bo1), .val (.int bo2), .val (.int kd), .val (.ref s1), .val (.ref s2), .val (.ref b1), .val (.int (1 : Int32)), .val (.ref b21), .val (.int (1 : Int32)), .val (.int (1 : Int32)), .val (.int (1 : Int32))] [])) _
          refine XT.iconstV X26.here hx rfl (1 : Int32) (hb hby at_292) (by decide) ?_
          show Steps p.tables e below (T26.setTop (mkF m 293 #[.val (.int p1), .val (.int p2), .val (.int p3), .val (.int p4), .val (.int p5), .val (.int ln1), .val (.int x0), .val (.int x1), .val (.int y0), .val (.int y1), .val (.int ln2), .val (.int bo1), .val (.int bo2), .val (.int kd), .val (.ref s1), .val (.ref s2), .val (.ref b1), .val (.int (1 : Int32)), .val (.ref b21), .val (.int (1 : Int32)), .val (.int (1 : Int32)), .val (.int (1 : Int32))] [(.int (1 : Int32))])) _
          refine XS.goto X26.here hx rfl (pc0 := 293) (pc' := 297) rfl (hb hby at_293) (by decide) (by decide) ?_
          exact k)
        obtain ⟨fs, hr, hrun, hended, hEnd⟩ := X26.leaveW hS (by rw [e26]; exact hk22) (v := some (.int (1 : Int32))) (fun h => by rw [hret] at h; cases h) (hlocks := hlk)
        refine ⟨_, _, pre28 _ ?_, hrun, hended, _, _, rfl, ?_, own_endW hEnd (by decide) (by decide)⟩
        · show Steps p.tables e below (T26.setTop (mkF m 297 #[.val (.int p1), .val (.int p2), .val (.int p3), .val (.int p4), .val (.int p5), .val (.int ln1), .val (.int x0), .val (.int x1), .val (.int y0), .val (.int y1), .val (.int ln2), .val (.int bo1), .val (.int bo2), .val (.int kd), .val (.ref s1), .val (.ref s2), .val (.ref b1), .val (.int (1 : Int32)), .val (.ref b21), .val (.int (1 : Int32)), .val (.int (1 : Int32)), .val (.int (1 : Int32))] [(.int (1 : Int32))])) _
          exact retOut X26 hx hret rfl (Or.inl ⟨rfl, by simp, _, rfl⟩) (hb hby at_297) hr
        · exact ⟨rfl, N26⟩
      · have _ := 0
        obtain ⟨cq29, kq29, q29a, q29b, q29c⟩ := isOf hZ rfl E22_b1
        obtain ⟨_, _, ⟨T29, L29, k29, n29⟩, -, X29, ⟨Lc29, hQ29, l29, y29, z29⟩, st29⟩ := X22.virtualBack hx (y := (⟨"com/example/steadyhand/steadyhand/history/RecordedExecution", "equals", "(Ljava/lang/Object;)Z"⟩ : MethodName)) (z := (⟨"com/example/steadyhand/steadyhand/history/RecordedExecution", "equals", "(Ljava/lang/Object;)Z"⟩ : MethodName)) hown (mvT hZ (hw _ (List.mem_of_getElem? (i := 43) rfl))) (mvT hZ (hw _ (List.mem_of_getElem? (i := 44) rfl))) (notFace_of_selects (args := #[]) (mvT hZ (hw _ (List.mem_of_getElem? (i := 46) rfl)))) (mvT hZ (hw _ (List.mem_of_getElem? (i := 46) rfl))) (mvT hZ (hw _ (List.mem_of_getElem? (i := 45) rfl))) (by decide) (backOf (W := 0) (rm_eq l Z a0 hw [] b1 b21 T22.heap n0 (Nat.le_trans Z0 O22.1) E22_b1 E22c s1 s2 bo1 bo2 F22_b1_key F22c F22_b1_passed F22d cs ds (S1.ext O22) (S2.ext O22) zc (Sc.ext O22) hzc (0 : Int32) (by simp [own_eq, hke, hc250_24])) hZ (hw _ (List.mem_of_getElem? (i := 47) rfl)) (hw _ (List.mem_of_getElem? (i := 29) rfl)) (by decide) (by decide)) q29a q29c (g := (mkF m 264 #[.val (.int p1), .val (.int p2), .val (.int p3), .val (.int p4), .val (.int p5), .val (.int ln1), .val (.int x0), .val (.int x1), .val (.int y0), .val (.int y1), .val (.int ln2), .val (.int bo1), .val (.int bo2), .val (.int kd), .val (.ref s1), .val (.ref s2), .val (.ref b1), .val (.int (1 : Int32)), .val (.ref b21), .val (.int (0 : Int32)), .unset, .unset] [(.ref b21), (.ref b1)])) rfl (by rw [hml]; rfl) (Steps.refl _) (argsL := [(.ref b21)]) (rest := []) (lenOf pd_1 rfl) rfl (by show 2 * 0 + _ ≤ _; exact Nat.le_of_eq rfl) (hb hby at_264) (fun _ _ => ⟨rfl, rfl, (by decide : 10 + 0 ≤ _), (by decide : 24 + 0 ≤ _)⟩)
        dsimp only [Pt.U, Pt.locs, Pt.cells, Pt.slots] at X29 l29 y29 z29 st29 hQ29
        rw [y29, z29] at X29
        obtain ⟨rfl, N29q, e29⟩ := hQ29
        have N29 : Fr n0 L29 := by rw [l29]; exact Fr.app N22 N29q
        obtain ⟨cq30, kq30, q30a, q30b, q30c⟩ := isOf hZ e29 E22c
        obtain ⟨_, _, ⟨T30, L30, k30, n30⟩, -, X30, ⟨Lc30, hQ30, l30, y30, z30⟩, st30⟩ := X29.virtualBack hx (y := (⟨"com/example/steadyhand/steadyhand/history/RecordedExecution", "equals", "(Ljava/lang/Object;)Z"⟩ : MethodName)) (z := (⟨"com/example/steadyhand/steadyhand/history/RecordedExecution", "equals", "(Ljava/lang/Object;)Z"⟩ : MethodName)) hown (mvT hZ (hw _ (List.mem_of_getElem? (i := 43) rfl))) (mvT hZ (hw _ (List.mem_of_getElem? (i := 44) rfl))) (notFace_of_selects (args := #[]) (mvT hZ (hw _ (List.mem_of_getElem? (i := 46) rfl)))) (mvT hZ (hw _ (List.mem_of_getElem? (i := 46) rfl))) (mvT hZ (hw _ (List.mem_of_getElem? (i := 45) rfl))) (by decide) (backOf (W := 0) (rm_eq l Z a0 hw [] b21 b1 T22.heap n0 (Nat.le_trans Z0 O22.1) E22c E22_b1 s2 s1 bo2 bo1 F22c F22_b1_key F22d F22_b1_passed ds cs (S2.ext O22) (S1.ext O22) zc (Sc.ext O22) hzc (0 : Int32) (by simp [own_eq, hke.symm, Ne.symm hc250_24])) hZ (hw _ (List.mem_of_getElem? (i := 47) rfl)) (hw _ (List.mem_of_getElem? (i := 29) rfl)) (by decide) (by decide)) q30a q30c (g := (mkF m 273 #[.val (.int p1), .val (.int p2), .val (.int p3), .val (.int p4), .val (.int p5), .val (.int ln1), .val (.int x0), .val (.int x1), .val (.int y0), .val (.int y1), .val (.int ln2), .val (.int bo1), .val (.int bo2), .val (.int kd), .val (.ref s1), .val (.ref s2), .val (.ref b1), .val (.int (1 : Int32)), .val (.ref b21), .val (.int (0 : Int32)), .val (.int (0 : Int32)), .unset] [(.ref b1), (.ref b21)])) rfl (by rw [hml]; rfl) (Steps.refl _) (argsL := [(.ref b1)]) (rest := []) (lenOf pd_1 rfl) rfl (by show 2 * 0 + _ ≤ _; exact Nat.le_of_eq rfl) (hb hby at_273) (fun _ _ => ⟨rfl, e29, (by decide : 10 + 0 ≤ _), (by decide : 24 + 0 ≤ _)⟩)
        dsimp only [Pt.U, Pt.locs, Pt.cells, Pt.slots] at X30 l30 y30 z30 st30 hQ30
        rw [y30, z30] at X30
        obtain ⟨rfl, N30q, e30⟩ := hQ30
        have N30 : Fr n0 L30 := by rw [l30]; exact Fr.app N29 N30q
        have pre31 : ∀ t, Steps p.tables e below (T30.setTop (mkF m 282 #[.val (.int p1), .val (.int p2), .val (.int p3), .val (.int p4), .val (.int p5), .val (.int ln1), .val (.int x0), .val (.int x1), .val (.int y0), .val (.int y1), .val (.int ln2), .val (.int bo1), .val (.int bo2), .val (.int kd), .val (.ref s1), .val (.ref s2), .val (.ref b1), .val (.int (1 : Int32)), .val (.ref b21), .val (.int (0 : Int32)), .val (.int (0 : Int32)), .val (.int (0 : Int32))] [(.int (0 : Int32)), (.int (0 : Int32))])) t → Steps p.tables e below START t := fun t k => pre23 t (by
          show Steps p.tables e below (T22.setTop (mkF m 250 #[.val (.int p1), .val (.int p2), .val (.int p3), .val (.int p4), .val (.int p5), .val (.int ln1), .val (.int x0), .val (.int x1), .val (.int y0), .val (.int y1), .val (.int ln2), .val (.int bo1), .val (.int bo2), .val (.int kd), .val (.ref s1), .val (.ref s2), .val (.ref b1), .val (.int (1 : Int32)), .val (.ref b21), .unset, .unset, .unset] [(.int bo2), (.int bo1)])) _
          refine XS.icmpYes X22.here hx rfl (pc0 := 250) (pc' := 257) rfl (hb hby at_250) rfl (feq hc250_24).2 (by decide) (by decide) ?_
          show Steps p.tables e below (T22.setTop (mkF m 257 #[.val (.int p1), .val (.int p2), .val (.int p3), .val (.int p4), .val (.int p5), .val (.int ln1), .val (.int x0), .val (.int x1), .val (.int y0), .val (.int y1), .val (.int ln2), .val (.int bo1), .val (.int bo2), .val (.int kd), .val (.ref s1), .val (.ref s2), .val (.ref b1), .val (.int (1 : Int32)), .val (.ref b21), .unset, .unset, .unset] [])) _
          refine XT.iconstV X22.here hx rfl (0 : Int32) (hb hby at_257) (by decide) ?_
          show Steps p.tables e below (T22.setTop (mkF m 258 #[.val (.int p1), .val (.int p2), .val (.int p3), .val (.int p4), .val (.int p5), .val (.int ln1), .val (.int x0), .val (.int x1), .val (.int y0), .val (.int y1), .val (.int ln2), .val (.int bo1), .val (.int bo2), .val (.int kd), .val (.ref s1), .val (.ref s2), .val (.ref b1), .val (.int (1 : Int32)), .val (.ref b21), .unset, .unset, .unset] [(.int (0 : Int32))])) _
          refine XS.istore X22.here hx rfl (hb hby at_258) rfl (l' := #[.val (.int p1), .val (.int p2), .val (.int p3), .val (.int p4), .val (.int p5), .val (.int ln1), .val (.int x0), .val (.int x1), .val (.int y0), .val (.int y1), .val (.int ln2), .val (.int bo1), .val (.int bo2), .val (.int kd), .val (.ref s1), .val (.ref s2), .val (.ref b1), .val (.int (1 : Int32)), .val (.ref b21), .val (.int (0 : Int32)), .unset, .unset]) rfl ?_
          show Steps p.tables e below (T22.setTop (mkF m 260 #[.val (.int p1), .val (.int p2), .val (.int p3), .val (.int p4), .val (.int p5), .val (.int ln1), .val (.int x0), .val (.int x1), .val (.int y0), .val (.int y1), .val (.int ln2), .val (.int bo1), .val (.int bo2), .val (.int kd), .val (.ref s1), .val (.ref s2), .val (.ref b1), .val (.int (1 : Int32)), .val (.ref b21), .val (.int (0 : Int32)), .unset, .unset] [])) _
          refine XS.aload X22.here hx rfl (hb hby at_260) rfl rfl ?_
          show Steps p.tables e below (T22.setTop (mkF m 262 #[.val (.int p1), .val (.int p2), .val (.int p3), .val (.int p4), .val (.int p5), .val (.int ln1), .val (.int x0), .val (.int x1), .val (.int y0), .val (.int y1), .val (.int ln2), .val (.int bo1), .val (.int bo2), .val (.int kd), .val (.ref s1), .val (.ref s2), .val (.ref b1), .val (.int (1 : Int32)), .val (.ref b21), .val (.int (0 : Int32)), .unset, .unset] [(.ref b1)])) _
          refine XS.aload X22.here hx rfl (hb hby at_262) rfl rfl ?_
          show Steps p.tables e below (T22.setTop (mkF m 264 #[.val (.int p1), .val (.int p2), .val (.int p3), .val (.int p4), .val (.int p5), .val (.int ln1), .val (.int x0), .val (.int x1), .val (.int y0), .val (.int y1), .val (.int ln2), .val (.int bo1), .val (.int bo2), .val (.int kd), .val (.ref s1), .val (.ref s2), .val (.ref b1), .val (.int (1 : Int32)), .val (.ref b21), .val (.int (0 : Int32)), .unset, .unset] [(.ref b21), (.ref b1)])) _
          refine st29.trans ?_
          show Steps p.tables e below (T29.setTop (mkF m 267 #[.val (.int p1), .val (.int p2), .val (.int p3), .val (.int p4), .val (.int p5), .val (.int ln1), .val (.int x0), .val (.int x1), .val (.int y0), .val (.int y1), .val (.int ln2), .val (.int bo1), .val (.int bo2), .val (.int kd), .val (.ref s1), .val (.ref s2), .val (.ref b1), .val (.int (1 : Int32)), .val (.ref b21), .val (.int (0 : Int32)), .unset, .unset] [(.int (0 : Int32))])) _
          refine XS.istore X29.here hx rfl (hb hby at_267) rfl (l' := #[.val (.int p1), .val (.int p2), .val (.int p3), .val (.int p4), .val (.int p5), .val (.int ln1), .val (.int x0), .val (.int x1), .val (.int y0), .val (.int y1), .val (.int ln2), .val (.int bo1), .val (.int bo2), .val (.int kd), .val (.ref s1), .val (.ref s2), .val (.ref b1), .val (.int (1 : Int32)), .val (.ref b21), .val (.int (0 : Int32)), .val (.int (0 : Int32)), .unset]) rfl ?_
          show Steps p.tables e below (T29.setTop (mkF m 269 #[.val (.int p1), .val (.int p2), .val (.int p3), .val (.int p4), .val (.int p5), .val (.int ln1), .val (.int x0), .val (.int x1), .val (.int y0), .val (.int y1), .val (.int ln2), .val (.int bo1), .val (.int bo2), .val (.int kd), .val (.ref s1), .val (.ref s2), .val (.ref b1), .val (.int (1 : Int32)), .val (.ref b21), .val (.int (0 : Int32)), .val (.int (0 : Int32)), .unset] [])) _
          refine XS.aload X29.here hx rfl (hb hby at_269) rfl rfl ?_
          show Steps p.tables e below (T29.setTop (mkF m 271 #[.val (.int p1), .val (.int p2), .val (.int p3), .val (.int p4), .val (.int p5), .val (.int ln1), .val (.int x0), .val (.int x1), .val (.int y0), .val (.int y1), .val (.int ln2), .val (.int bo1), .val (.int bo2), .val (.int kd), .val (.ref s1), .val (.ref s2), .val (.ref b1), .val (.int (1 : Int32)), .val (.ref b21), .val (.int (0 : Int32)), .val (.int (0 : Int32)), .unset] [(.ref b21)])) _
          refine XS.aload X29.here hx rfl (hb hby at_271) rfl rfl ?_
          show Steps p.tables e below (T29.setTop (mkF m 273 #[.val (.int p1), .val (.int p2), .val (.int p3), .val (.int p4), .val (.int p5), .val (.int ln1), .val (.int x0), .val (.int x1), .val (.int y0), .val (.int y1), .val (.int ln2), .val (.int bo1), .val (.int bo2), .val (.int kd), .val (.ref s1), .val (.ref s2), .val (.ref b1), .val (.int (1 : Int32)), .val (.ref b21), .val (.int (0 : Int32)), .val (.int (0 : Int32)), .unset] [(.ref b1), (.ref b21)])) _
          refine st30.trans ?_
          show Steps p.tables e below (T30.setTop (mkF m 276 #[.val (.int p1), .val (.int p2), .val (.int p3), .val (.int p4), .val (.int p5), .val (.int ln1), .val (.int x0), .val (.int x1), .val (.int y0), .val (.int y1), .val (.int ln2), .val (.int bo1), .val (.int bo2), .val (.int kd), .val (.ref s1), .val (.ref s2), .val (.ref b1), .val (.int (1 : Int32)), .val (.ref b21), .val (.int (0 : Int32)), .val (.int (0 : Int32)), .unset] [(.int (0 : Int32))])) _
          refine XS.istore X30.here hx rfl (hb hby at_276) rfl (l' := #[.val (.int p1), .val (.int p2), .val (.int p3), .val (.int p4), .val (.int p5), .val (.int ln1), .val (.int x0), .val (.int x1), .val (.int y0), .val (.int y1), .val (.int ln2), .val (.int bo1), .val (.int bo2), .val (.int kd), .val (.ref s1), .val (.ref s2), .val (.ref b1), .val (.int (1 : Int32)), .val (.ref b21), .val (.int (0 : Int32)), .val (.int (0 : Int32)), .val (.int (0 : Int32))]) rfl ?_
          show Steps p.tables e below (T30.setTop (mkF m 278 #[.val (.int p1), .val (.int p2), .val (.int p3), .val (.int p4), .val (.int p5), .val (.int ln1), .val (.int x0), .val (.int x1), .val (.int y0), .val (.int y1), .val (.int ln2), .val (.int bo1), .val (.int bo2), .val (.int kd), .val (.ref s1), .val (.ref s2), .val (.ref b1), .val (.int (1 : Int32)), .val (.ref b21), .val (.int (0 : Int32)), .val (.int (0 : Int32)), .val (.int (0 : Int32))] [])) _
          refine XS.iload X30.here hx rfl (hb hby at_278) rfl ?_
          show Steps p.tables e below (T30.setTop (mkF m 280 #[.val (.int p1), .val (.int p2), .val (.int p3), .val (.int p4), .val (.int p5), .val (.int ln1), .val (.int x0), .val (.int x1), .val (.int y0), .val (.int y1), .val (.int ln2), .val (.int bo1), .val (.int bo2), .val (.int kd), .val (.ref s1), .val (.ref s2), .val (.ref b1), .val (.int (1 : Int32)), .val (.ref b21), .val (.int (0 : Int32)), .val (.int (0 : Int32)), .val (.int (0 : Int32))] [(.int (0 : Int32))])) _
          refine XS.iload X30.here hx rfl (hb hby at_280) rfl ?_
          exact k)
        have pre32 : ∀ t, Steps p.tables e below (T30.setTop (mkF m 297 #[.val (.int p1), .val (.int p2), .val (.int p3), .val (.int p4), .val (.int p5), .val (.int ln1), .val (.int x0), .val (.int x1), .val (.int y0), .val (.int y1), .val (.int ln2), .val (.int bo1), .val (.int bo2), .val (.int kd), .val (.ref s1), .val (.ref s2), .val (.ref b1), .val (.int (1 : Int32)), .val (.ref b21), .val (.int (0 : Int32)), .val (.int (0 : Int32)), .val (.int (0 : Int32))] [(.int (1 : Int32))])) t → Steps p.tables e below START t := fun t k => pre31 t (by
          show Steps p.tables e below (T30.setTop (mkF m 282 #[.val (.int p1), .val (.int p2), .val (.int p3), .val (.int p4), .val (.int p5), .val (.int ln1), .val (.int x0), .val (.int x1), .val (.int y0), .val (.int y1), .val (.int ln2), .val (.int bo1), .val (.int bo2), .val (.int kd), .val (.ref s1), .val (.ref s2), .val (.ref b1), .val (.int (1 : Int32)), .val (.ref b21), .val (.int (0 : Int32)), .val (.int (0 : Int32)), .val (.int (0 : Int32))] [(.int (0 : Int32)), (.int (0 : Int32))])) _
          refine XS.icmpNo X30.here hx rfl (hb hby at_282) rfl (teq (by decide : ((0 : Int32) = (0 : Int32)))).2 ?_
          show Steps p.tables e below (T30.setTop (mkF m 285 #[.val (.int p1), .val (.int p2), .val (.int p3), .val (.int p4), .val (.int p5), .val (.int ln1), .val (.int x0), .val (.int x1), .val (.int y0), .val (.int y1), .val (.int ln2), .val (.int bo1), .val (.int bo2), .val (.int kd), .val (.ref s1), .val (.ref s2), .val (.ref b1), .val (.int (1 : Int32)), .val (.ref b21), .val (.int (0 : Int32)), .val (.int (0 : Int32)), .val (.int (0 : Int32))] [])) _
          refine XS.iload X30.here hx rfl (hb hby at_285) rfl ?_
          show Steps p.tables e below (T30.setTop (mkF m 287 #[.val (.int p1), .val (.int p2), .val (.int p3), .val (.int p4), .val (.int p5), .val (.int ln1), .val (.int x0), .val (.int x1), .val (.int y0), .val (.int y1), .val (.int ln2), .val (.int bo1), .val (.int bo2), .val (.int kd), .val (.ref s1), .val (.ref s2), .val (.ref b1), .val (.int (1 : Int32)), .val (.ref b21), .val (.int (0 : Int32)), .val (.int (0 : Int32)), .val (.int (0 : Int32))] [(.int (0 : Int32))])) _
          refine XS.iload X30.here hx rfl (hb hby at_287) rfl ?_
          show Steps p.tables e below (T30.setTop (mkF m 289 #[.val (.int p1), .val (.int p2), .val (.int p3), .val (.int p4), .val (.int p5), .val (.int ln1), .val (.int x0), .val (.int x1), .val (.int y0), .val (.int y1), .val (.int ln2), .val (.int bo1), .val (.int bo2), .val (.int kd), .val (.ref s1), .val (.ref s2), .val (.ref b1), .val (.int (1 : Int32)), .val (.ref b21), .val (.int (0 : Int32)), .val (.int (0 : Int32)), .val (.int (0 : Int32))] [(.int (0 : Int32)), (.int (0 : Int32))])) _
          refine XS.icmpNo X30.here hx rfl (hb hby at_289) rfl (teq (by decide : ((0 : Int32) = (0 : Int32)))).2 ?_
          show Steps p.tables e below (T30.setTop (mkF m 292 #[.val (.int p1), .val (.int p2), .val (.int p3), .val (.int p4), .val (.int p5), .val (.int ln1), .val (.int x0), .val (.int x1), .val (.int y0), .val (.int y1), .val (.int ln2), .val (.int bo1), .val (.int bo2), .val (.int kd), .val (.ref s1), .val (.ref s2), .val (.ref b1), .val (.int (1 : Int32)), .val (.ref b21), .val (.int (0 : Int32)), .val (.int (0 : Int32)), .val (.int (0 : Int32))] [])) _
          refine XT.iconstV X30.here hx rfl (1 : Int32) (hb hby at_292) (by decide) ?_
          show Steps p.tables e below (T30.setTop (mkF m 293 #[.val (.int p1), .val (.int p2), .val (.int p3), .val (.int p4), .val (.int p5), .val (.int ln1), .val (.int x0), .val (.int x1), .val (.int y0), .val (.int y1), .val (.int ln2), .val (.int bo1), .val (.int bo2), .val (.int kd), .val (.ref s1), .val (.ref s2), .val (.ref b1), .val (.int (1 : Int32)), .val (.ref b21), .val (.int (0 : Int32)), .val (.int (0 : Int32)), .val (.int (0 : Int32))] [(.int (1 : Int32))])) _
          refine XS.goto X30.here hx rfl (pc0 := 293) (pc' := 297) rfl (hb hby at_293) (by decide) (by decide) ?_
          exact k)
        obtain ⟨fs, hr, hrun, hended, hEnd⟩ := X30.leaveW hS (by rw [e30]; exact hk22) (v := some (.int (1 : Int32))) (fun h => by rw [hret] at h; cases h) (hlocks := hlk)
        refine ⟨_, _, pre32 _ ?_, hrun, hended, _, _, rfl, ?_, own_endW hEnd (by decide) (by decide)⟩
        · show Steps p.tables e below (T30.setTop (mkF m 297 #[.val (.int p1), .val (.int p2), .val (.int p3), .val (.int p4), .val (.int p5), .val (.int ln1), .val (.int x0), .val (.int x1), .val (.int y0), .val (.int y1), .val (.int ln2), .val (.int bo1), .val (.int bo2), .val (.int kd), .val (.ref s1), .val (.ref s2), .val (.ref b1), .val (.int (1 : Int32)), .val (.ref b21), .val (.int (0 : Int32)), .val (.int (0 : Int32)), .val (.int (0 : Int32))] [(.int (1 : Int32))])) _
          exact retOut X30 hx hret rfl (Or.inl ⟨rfl, by simp, _, rfl⟩) (hb hby at_297) hr
        · exact ⟨rfl, N30⟩
  · have _ := 0
    obtain ⟨cq33, kq33, q33a, q33b, q33c⟩ := isOf hZ rfl E2c
    obtain ⟨_, _, ⟨T33, L33, k33, n33⟩, -, X33, ⟨Lc33, hQ33, l33, y33, z33⟩, st33⟩ := X2.virtualBack hx (y := (⟨"com/example/steadyhand/steadyhand/history/RecordedExecution", "equals", "(Ljava/lang/Object;)Z"⟩ : MethodName)) (z := (⟨"com/example/steadyhand/steadyhand/history/RecordedExecution", "equals", "(Ljava/lang/Object;)Z"⟩ : MethodName)) hown (mvT hZ (hw _ (List.mem_of_getElem? (i := 43) rfl))) (mvT hZ (hw _ (List.mem_of_getElem? (i := 44) rfl))) (notFace_of_selects (args := #[]) (mvT hZ (hw _ (List.mem_of_getElem? (i := 46) rfl)))) (mvT hZ (hw _ (List.mem_of_getElem? (i := 46) rfl))) (mvT hZ (hw _ (List.mem_of_getElem? (i := 45) rfl))) (by decide) (backOf (W := 0) (rm_eq l Z a0 hw [] b1 b1 T2.heap n0 (Nat.le_trans Z0 O2.1) E2c E2c s1 s1 bo1 bo1 F2c F2c F2d F2d cs cs (S1.ext O2) (S1.ext O2) zc (Sc.ext O2) hzc (1 : Int32) (by simp [own_eq])) hZ (hw _ (List.mem_of_getElem? (i := 47) rfl)) (hw _ (List.mem_of_getElem? (i := 29) rfl)) (by decide) (by decide)) q33a q33c (g := (mkF m 214 #[.val (.int p1), .val (.int p2), .val (.int p3), .val (.int p4), .val (.int p5), .val (.int ln1), .val (.int x0), .val (.int x1), .val (.int y0), .val (.int y1), .val (.int ln2), .val (.int bo1), .val (.int bo2), .val (.int kd), .val (.ref s1), .val (.ref s2), .val (.ref b1), .val (.int (0 : Int32)), .unset, .unset, .unset, .unset] [(.ref b1), (.ref b1)])) rfl (by rw [hml]; rfl) (Steps.refl _) (argsL := [(.ref b1)]) (rest := []) (lenOf pd_1 rfl) rfl (by show 2 * 0 + _ ≤ _; exact Nat.le_of_eq rfl) (hb hby at_214) (fun _ _ => ⟨rfl, rfl, (by decide : 9 + 0 ≤ _), (by decide : 22 + 0 ≤ _)⟩)
    dsimp only [Pt.U, Pt.locs, Pt.cells, Pt.slots] at X33 l33 y33 z33 st33 hQ33
    rw [y33, z33] at X33
    obtain ⟨rfl, N33q, e33⟩ := hQ33
    have N33 : Fr n0 L33 := by rw [l33]; exact Fr.app N2 N33q
    have pre34 : ∀ t, Steps p.tables e below (T33.setTop (mkF m 225 #[.val (.int p1), .val (.int p2), .val (.int p3), .val (.int p4), .val (.int p5), .val (.int ln1), .val (.int x0), .val (.int x1), .val (.int y0), .val (.int y1), .val (.int ln2), .val (.int bo1), .val (.int bo2), .val (.int kd), .val (.ref s1), .val (.ref s2), .val (.ref b1), .val (.int (0 : Int32)), .unset, .unset, .unset, .unset] [(.int (1 : Int32)), (.int kd)])) t → Steps p.tables e below START t := fun t k => preM4 t (by
      show Steps p.tables e below (T2.setTop (mkF m 208 #[.val (.int p1), .val (.int p2), .val (.int p3), .val (.int p4), .val (.int p5), .val (.int ln1), .val (.int x0), .val (.int x1), .val (.int y0), .val (.int y1), .val (.int ln2), .val (.int bo1), .val (.int bo2), .val (.int kd), .val (.ref s1), .val (.ref s2), .val (.ref b1), .unset, .unset, .unset, .unset, .unset] [(.int (0 : Int32))])) _
      refine XS.istore X2.here hx rfl (hb hby at_208) rfl (l' := #[.val (.int p1), .val (.int p2), .val (.int p3), .val (.int p4), .val (.int p5), .val (.int ln1), .val (.int x0), .val (.int x1), .val (.int y0), .val (.int y1), .val (.int ln2), .val (.int bo1), .val (.int bo2), .val (.int kd), .val (.ref s1), .val (.ref s2), .val (.ref b1), .val (.int (0 : Int32)), .unset, .unset, .unset, .unset]) rfl ?_
      show Steps p.tables e below (T2.setTop (mkF m 210 #[.val (.int p1), .val (.int p2), .val (.int p3), .val (.int p4), .val (.int p5), .val (.int ln1), .val (.int x0), .val (.int x1), .val (.int y0), .val (.int y1), .val (.int ln2), .val (.int bo1), .val (.int bo2), .val (.int kd), .val (.ref s1), .val (.ref s2), .val (.ref b1), .val (.int (0 : Int32)), .unset, .unset, .unset, .unset] [])) _
      refine XS.aload X2.here hx rfl (hb hby at_210) rfl rfl ?_
      show Steps p.tables e below (T2.setTop (mkF m 212 #[.val (.int p1), .val (.int p2), .val (.int p3), .val (.int p4), .val (.int p5), .val (.int ln1), .val (.int x0), .val (.int x1), .val (.int y0), .val (.int y1), .val (.int ln2), .val (.int bo1), .val (.int bo2), .val (.int kd), .val (.ref s1), .val (.ref s2), .val (.ref b1), .val (.int (0 : Int32)), .unset, .unset, .unset, .unset] [(.ref b1)])) _
      refine XS.aload X2.here hx rfl (hb hby at_212) rfl rfl ?_
      show Steps p.tables e below (T2.setTop (mkF m 214 #[.val (.int p1), .val (.int p2), .val (.int p3), .val (.int p4), .val (.int p5), .val (.int ln1), .val (.int x0), .val (.int x1), .val (.int y0), .val (.int y1), .val (.int ln2), .val (.int bo1), .val (.int bo2), .val (.int kd), .val (.ref s1), .val (.ref s2), .val (.ref b1), .val (.int (0 : Int32)), .unset, .unset, .unset, .unset] [(.ref b1), (.ref b1)])) _
      refine st33.trans ?_
      show Steps p.tables e below (T33.setTop (mkF m 217 #[.val (.int p1), .val (.int p2), .val (.int p3), .val (.int p4), .val (.int p5), .val (.int ln1), .val (.int x0), .val (.int x1), .val (.int y0), .val (.int y1), .val (.int ln2), .val (.int bo1), .val (.int bo2), .val (.int kd), .val (.ref s1), .val (.ref s2), .val (.ref b1), .val (.int (0 : Int32)), .unset, .unset, .unset, .unset] [(.int (1 : Int32))])) _
      refine XS.ifYes X33.here hx rfl (pc0 := 217) (pc' := 222) rfl (hb hby at_217) rfl ((if0 _ _).trans (feq (by decide : ¬ ((1 : Int32) = (0 : Int32)))).2) (by decide) (by decide) ?_
      show Steps p.tables e below (T33.setTop (mkF m 222 #[.val (.int p1), .val (.int p2), .val (.int p3), .val (.int p4), .val (.int p5), .val (.int ln1), .val (.int x0), .val (.int x1), .val (.int y0), .val (.int y1), .val (.int ln2), .val (.int bo1), .val (.int bo2), .val (.int kd), .val (.ref s1), .val (.ref s2), .val (.ref b1), .val (.int (0 : Int32)), .unset, .unset, .unset, .unset] [])) _
      refine XS.iload X33.here hx rfl (hb hby at_222) rfl ?_
      show Steps p.tables e below (T33.setTop (mkF m 224 #[.val (.int p1), .val (.int p2), .val (.int p3), .val (.int p4), .val (.int p5), .val (.int ln1), .val (.int x0), .val (.int x1), .val (.int y0), .val (.int y1), .val (.int ln2), .val (.int bo1), .val (.int bo2), .val (.int kd), .val (.ref s1), .val (.ref s2), .val (.ref b1), .val (.int (0 : Int32)), .unset, .unset, .unset, .unset] [(.int kd)])) _
      refine XT.iconstV X33.here hx rfl (1 : Int32) (hb hby at_224) (by decide) ?_
      exact k)
    by_cases hc225_35 : (1 : Int32) < kd
    · have _ := 0
      have pre36 : ∀ t, Steps p.tables e below (T33.setTop (mkF m 301 #[.val (.int p1), .val (.int p2), .val (.int p3), .val (.int p4), .val (.int p5), .val (.int ln1), .val (.int x0), .val (.int x1), .val (.int y0), .val (.int y1), .val (.int ln2), .val (.int bo1), .val (.int bo2), .val (.int kd), .val (.ref s1), .val (.ref s2), .val (.ref b1), .val (.int (0 : Int32)), .unset, .unset, .unset, .unset] [(.int (2 : Int32)), (.int kd)])) t → Steps p.tables e below START t := fun t k => pre34 t (by
        show Steps p.tables e below (T33.setTop (mkF m 225 #[.val (.int p1), .val (.int p2), .val (.int p3), .val (.int p4), .val (.int p5), .val (.int ln1), .val (.int x0), .val (.int x1), .val (.int y0), .val (.int y1), .val (.int ln2), .val (.int bo1), .val (.int bo2), .val (.int kd), .val (.ref s1), .val (.ref s2), .val (.ref b1), .val (.int (0 : Int32)), .unset, .unset, .unset, .unset] [(.int (1 : Int32)), (.int kd)])) _
        refine XS.icmpYes X33.here hx rfl (pc0 := 225) (pc' := 298) rfl (hb hby at_225) rfl (tlt hc225_35).2.2.1 (by decide) (by decide) ?_
        show Steps p.tables e below (T33.setTop (mkF m 298 #[.val (.int p1), .val (.int p2), .val (.int p3), .val (.int p4), .val (.int p5), .val (.int ln1), .val (.int x0), .val (.int x1), .val (.int y0), .val (.int y1), .val (.int ln2), .val (.int bo1), .val (.int bo2), .val (.int kd), .val (.ref s1), .val (.ref s2), .val (.ref b1), .val (.int (0 : Int32)), .unset, .unset, .unset, .unset] [])) _
        refine XS.iload X33.here hx rfl (hb hby at_298) rfl ?_
        show Steps p.tables e below (T33.setTop (mkF m 300 #[.val (.int p1), .val (.int p2), .val (.int p3), .val (.int p4), .val (.int p5), .val (.int ln1), .val (.int x0), .val (.int x1), .val (.int y0), .val (.int y1), .val (.int ln2), .val (.int bo1), .val (.int bo2), .val (.int kd), .val (.ref s1), .val (.ref s2), .val (.ref b1), .val (.int (0 : Int32)), .unset, .unset, .unset, .unset] [(.int kd)])) _
        refine XT.iconstV X33.here hx rfl (2 : Int32) (hb hby at_300) (by decide) ?_
        exact k)
      by_cases hc301_37 : kd = (2 : Int32)
      · have _ := 0
        obtain ⟨cq38, kq38, q38a, q38b, q38c⟩ := isOf hZ e33 E2c
        obtain ⟨_, _, ⟨T38, L38, k38, n38⟩, -, X38, ⟨Lc38, hQ38, l38, y38, z38⟩, st38⟩ := X33.virtualBack hx (y := (⟨"com/example/steadyhand/steadyhand/history/RecordedExecution", "equals", "(Ljava/lang/Object;)Z"⟩ : MethodName)) (z := (⟨"com/example/steadyhand/steadyhand/history/RecordedExecution", "equals", "(Ljava/lang/Object;)Z"⟩ : MethodName)) hown (mvT hZ (hw _ (List.mem_of_getElem? (i := 43) rfl))) (mvT hZ (hw _ (List.mem_of_getElem? (i := 44) rfl))) (notFace_of_selects (args := #[]) (mvT hZ (hw _ (List.mem_of_getElem? (i := 46) rfl)))) (mvT hZ (hw _ (List.mem_of_getElem? (i := 46) rfl))) (mvT hZ (hw _ (List.mem_of_getElem? (i := 45) rfl))) (by decide) (backOf (W := 0) (rm_eqS l Z a0 hw [] b1 s2 T2.heap n0 (Nat.le_trans Z0 O2.1) (S2.ext O2).1) hZ (hw _ (List.mem_of_getElem? (i := 47) rfl)) (hw _ (List.mem_of_getElem? (i := 29) rfl)) (by decide) (by decide)) q38a q38c (g := (mkF m 312 #[.val (.int p1), .val (.int p2), .val (.int p3), .val (.int p4), .val (.int p5), .val (.int ln1), .val (.int x0), .val (.int x1), .val (.int y0), .val (.int y1), .val (.int ln2), .val (.int bo1), .val (.int bo2), .val (.int kd), .val (.ref s1), .val (.ref s2), .val (.ref b1), .val (.int (0 : Int32)), .val (.ref s2), .unset, .unset, .unset] [(.ref s2), (.ref b1)])) rfl (by rw [hml]; rfl) (Steps.refl _) (argsL := [(.ref s2)]) (rest := []) (lenOf pd_1 rfl) rfl (by show 2 * 0 + _ ≤ _; exact Nat.le_of_eq rfl) (hb hby at_312) (fun _ _ => ⟨rfl, e33, (by decide : 9 + 0 ≤ _), (by decide : 22 + 0 ≤ _)⟩)
        dsimp only [Pt.U, Pt.locs, Pt.cells, Pt.slots] at X38 l38 y38 z38 st38 hQ38
        rw [y38, z38] at X38
        obtain ⟨rfl, N38q, e38⟩ := hQ38
        have N38 : Fr n0 L38 := by rw [l38]; exact Fr.app N33 N38q
        have pre39 : ∀ t, Steps p.tables e below (T38.setTop (mkF m 323 #[.val (.int p1), .val (.int p2), .val (.int p3), .val (.int p4), .val (.int p5), .val (.int ln1), .val (.int x0), .val (.int x1), .val (.int y0), .val (.int y1), .val (.int ln2), .val (.int bo1), .val (.int bo2), .val (.int kd), .val (.ref s1), .val (.ref s2), .val (.ref b1), .val (.int (0 : Int32)), .val (.ref s2), .unset, .unset, .unset] [(.int (1 : Int32))])) t → Steps p.tables e below START t := fun t k => pre36 t (by
          show Steps p.tables e below (T33.setTop (mkF m 301 #[.val (.int p1), .val (.int p2), .val (.int p3), .val (.int p4), .val (.int p5), .val (.int ln1), .val (.int x0), .val (.int x1), .val (.int y0), .val (.int y1), .val (.int ln2), .val (.int bo1), .val (.int bo2), .val (.int kd), .val (.ref s1), .val (.ref s2), .val (.ref b1), .val (.int (0 : Int32)), .unset, .unset, .unset, .unset] [(.int (2 : Int32)), (.int kd)])) _
          refine XS.icmpNo X33.here hx rfl (hb hby at_301) rfl (teq hc301_37).2 ?_
          show Steps p.tables e below (T33.setTop (mkF m 304 #[.val (.int p1), .val (.int p2), .val (.int p3), .val (.int p4), .val (.int p5), .val (.int ln1), .val (.int x0), .val (.int x1), .val (.int y0), .val (.int y1), .val (.int ln2), .val (.int bo1), .val (.int bo2), .val (.int kd), .val (.ref s1), .val (.ref s2), .val (.ref b1), .val (.int (0 : Int32)), .unset, .unset, .unset, .unset] [])) _
          refine XS.aload X33.here hx rfl (hb hby at_304) rfl rfl ?_
          show Steps p.tables e below (T33.setTop (mkF m 306 #[.val (.int p1), .val (.int p2), .val (.int p3), .val (.int p4), .val (.int p5), .val (.int ln1), .val (.int x0), .val (.int x1), .val (.int y0), .val (.int y1), .val (.int ln2), .val (.int bo1), .val (.int bo2), .val (.int kd), .val (.ref s1), .val (.ref s2), .val (.ref b1), .val (.int (0 : Int32)), .unset, .unset, .unset, .unset] [(.ref s2)])) _
          refine XS.astore X33.here hx rfl (hb hby at_306) rfl rfl (l' := #[.val (.int p1), .val (.int p2), .val (.int p3), .val (.int p4), .val (.int p5), .val (.int ln1), .val (.int x0), .val (.int x1), .val (.int y0), .val (.int y1), .val (.int ln2), .val (.int bo1), .val (.int bo2), .val (.int kd), .val (.ref s1), .val (.ref s2), .val (.ref b1), .val (.int (0 : Int32)), .val (.ref s2), .unset, .unset, .unset]) rfl ?_
          show Steps p.tables e below (T33.setTop (mkF m 308 #[.val (.int p1), .val (.int p2), .val (.int p3), .val (.int p4), .val (.int p5), .val (.int ln1), .val (.int x0), .val (.int x1), .val (.int y0), .val (.int y1), .val (.int ln2), .val (.int bo1), .val (.int bo2), .val (.int kd), .val (.ref s1), .val (.ref s2), .val (.ref b1), .val (.int (0 : Int32)), .val (.ref s2), .unset, .unset, .unset] [])) _
          refine XS.aload X33.here hx rfl (hb hby at_308) rfl rfl ?_
          show Steps p.tables e below (T33.setTop (mkF m 310 #[.val (.int p1), .val (.int p2), .val (.int p3), .val (.int p4), .val (.int p5), .val (.int ln1), .val (.int x0), .val (.int x1), .val (.int y0), .val (.int y1), .val (.int ln2), .val (.int bo1), .val (.int bo2), .val (.int kd), .val (.ref s1), .val (.ref s2), .val (.ref b1), .val (.int (0 : Int32)), .val (.ref s2), .unset, .unset, .unset] [(.ref b1)])) _
          refine XS.aload X33.here hx rfl (hb hby at_310) rfl rfl ?_
          show Steps p.tables e below (T33.setTop (mkF m 312 #[.val (.int p1), .val (.int p2), .val (.int p3), .val (.int p4), .val (.int p5), .val (.int ln1), .val (.int x0), .val (.int x1), .val (.int y0), .val (.int y1), .val (.int ln2), .val (.int bo1), .val (.int bo2), .val (.int kd), .val (.ref s1), .val (.ref s2), .val (.ref b1), .val (.int (0 : Int32)), .val (.ref s2), .unset, .unset, .unset] [(.ref s2), (.ref b1)])) _
          refine st38.trans ?_
          show Steps p.tables e below (T38.setTop (mkF m 315 #[.val (.int p1), .val (.int p2), .val (.int p3), .val (.int p4), .val (.int p5), .val (.int ln1), .val (.int x0), .val (.int x1), .val (.int y0), .val (.int y1), .val (.int ln2), .val (.int bo1), .val (.int bo2), .val (.int kd), .val (.ref s1), .val (.ref s2), .val (.ref b1), .val (.int (0 : Int32)), .val (.ref s2), .unset, .unset, .unset] [(.int (0 : Int32))])) _
          refine XS.ifNo X38.here hx rfl (hb hby at_315) rfl ((if0 _ _).trans (teq (by decide : ((0 : Int32) = (0 : Int32)))).2) ?_
          show Steps p.tables e below (T38.setTop (mkF m 318 #[.val (.int p1), .val (.int p2), .val (.int p3), .val (.int p4), .val (.int p5), .val (.int ln1), .val (.int x0), .val (.int x1), .val (.int y0), .val (.int y1), .val (.int ln2), .val (.int bo1), .val (.int bo2), .val (.int kd), .val (.ref s1), .val (.ref s2), .val (.ref b1), .val (.int (0 : Int32)), .val (.ref s2), .unset, .unset, .unset] [])) _
          refine XT.iconstV X38.here hx rfl (1 : Int32) (hb hby at_318) (by decide) ?_
          show Steps p.tables e below (T38.setTop (mkF m 319 #[.val (.int p1), .val (.int p2), .val (.int p3), .val (.int p4), .val (.int p5), .val (.int ln1), .val (.int x0), .val (.int x1), .val (.int y0), .val (.int y1), .val (.int ln2), .val (.int bo1), .val (.int bo2), .val (.int kd), .val (.ref s1), .val (.ref s2), .val (.ref b1), .val (.int (0 : Int32)), .val (.ref s2), .unset, .unset, .unset] [(.int (1 : Int32))])) _
          refine XS.goto X38.here hx rfl (pc0 := 319) (pc' := 323) rfl (hb hby at_319) (by decide) (by decide) ?_
          exact k)
        obtain ⟨fs, hr, hrun, hended, hEnd⟩ := X38.leaveW hS (by rw [e38]; exact hk2) (v := some (.int (1 : Int32))) (fun h => by rw [hret] at h; cases h) (hlocks := hlk)
        refine ⟨_, _, pre39 _ ?_, hrun, hended, _, _, rfl, ?_, own_endW hEnd (by decide) (by decide)⟩
        · show Steps p.tables e below (T38.setTop (mkF m 323 #[.val (.int p1), .val (.int p2), .val (.int p3), .val (.int p4), .val (.int p5), .val (.int ln1), .val (.int x0), .val (.int x1), .val (.int y0), .val (.int y1), .val (.int ln2), .val (.int bo1), .val (.int bo2), .val (.int kd), .val (.ref s1), .val (.ref s2), .val (.ref b1), .val (.int (0 : Int32)), .val (.ref s2), .unset, .unset, .unset] [(.int (1 : Int32))])) _
          exact retOut X38 hx hret rfl (Or.inl ⟨rfl, by simp, _, rfl⟩) (hb hby at_323) hr
        · exact ⟨rfl, N38⟩
      · have _ := 0
        obtain ⟨cq40, kq40, q40a, q40b, q40c⟩ := isOf hZ e33 E2c
        obtain ⟨_, _, ⟨T40, L40, k40, n40⟩, -, X40, ⟨Lc40, hQ40, l40, y40, z40⟩, st40⟩ := X33.virtualBack hx (y := (⟨"com/example/steadyhand/steadyhand/history/RecordedExecution", "equals", "(Ljava/lang/Object;)Z"⟩ : MethodName)) (z := (⟨"com/example/steadyhand/steadyhand/history/RecordedExecution", "equals", "(Ljava/lang/Object;)Z"⟩ : MethodName)) hown (mvT hZ (hw _ (List.mem_of_getElem? (i := 43) rfl))) (mvT hZ (hw _ (List.mem_of_getElem? (i := 44) rfl))) (notFace_of_selects (args := #[]) (mvT hZ (hw _ (List.mem_of_getElem? (i := 46) rfl)))) (mvT hZ (hw _ (List.mem_of_getElem? (i := 46) rfl))) (mvT hZ (hw _ (List.mem_of_getElem? (i := 45) rfl))) (by decide) (backOf (W := 0) (rm_eqN l Z a0 hw [] b1 T2.heap n0 (Nat.le_trans Z0 O2.1)) hZ (hw _ (List.mem_of_getElem? (i := 47) rfl)) (hw _ (List.mem_of_getElem? (i := 29) rfl)) (by decide) (by decide)) q40a q40c (g := (mkF m 331 #[.val (.int p1), .val (.int p2), .val (.int p3), .val (.int p4), .val (.int p5), .val (.int ln1), .val (.int x0), .val (.int x1), .val (.int y0), .val (.int y1), .val (.int ln2), .val (.int bo1), .val (.int bo2), .val (.int kd), .val (.ref s1), .val (.ref s2), .val (.ref b1), .val (.int (0 : Int32)), .val .null, .unset, .unset, .unset] [.null, (.ref b1)])) rfl (by rw [hml]; rfl) (Steps.refl _) (argsL := [.null]) (rest := []) (lenOf pd_1 rfl) rfl (by show 2 * 0 + _ ≤ _; exact Nat.le_of_eq rfl) (hb hby at_331) (fun _ _ => ⟨rfl, e33, (by decide : 9 + 0 ≤ _), (by decide : 22 + 0 ≤ _)⟩)
        dsimp only [Pt.U, Pt.locs, Pt.cells, Pt.slots] at X40 l40 y40 z40 st40 hQ40
        rw [y40, z40] at X40
        obtain ⟨rfl, N40q, e40⟩ := hQ40
        have N40 : Fr n0 L40 := by rw [l40]; exact Fr.app N33 N40q
        have pre41 : ∀ t, Steps p.tables e below (T40.setTop (mkF m 342 #[.val (.int p1), .val (.int p2), .val (.int p3), .val (.int p4), .val (.int p5), .val (.int ln1), .val (.int x0), .val (.int x1), .val (.int y0), .val (.int y1), .val (.int ln2), .val (.int bo1), .val (.int bo2), .val (.int kd), .val (.ref s1), .val (.ref s2), .val (.ref b1), .val (.int (0 : Int32)), .val .null, .unset, .unset, .unset] [(.int (1 : Int32))])) t → Steps p.tables e below START t := fun t k => pre36 t (by
          show Steps p.tables e below (T33.setTop (mkF m 301 #[.val (.int p1), .val (.int p2), .val (.int p3), .val (.int p4), .val (.int p5), .val (.int ln1), .val (.int x0), .val (.int x1), .val (.int y0), .val (.int y1), .val (.int ln2), .val (.int bo1), .val (.int bo2), .val (.int kd), .val (.ref s1), .val (.ref s2), .val (.ref b1), .val (.int (0 : Int32)), .unset, .unset, .unset, .unset] [(.int (2 : Int32)), (.int kd)])) _
          refine XS.icmpYes X33.here hx rfl (pc0 := 301) (pc' := 324) rfl (hb hby at_301) rfl (feq hc301_37).2 (by decide) (by decide) ?_
          show Steps p.tables e below (T33.setTop (mkF m 324 #[.val (.int p1), .val (.int p2), .val (.int p3), .val (.int p4), .val (.int p5), .val (.int ln1), .val (.int x0), .val (.int x1), .val (.int y0), .val (.int y1), .val (.int ln2), .val (.int bo1), .val (.int bo2), .val (.int kd), .val (.ref s1), .val (.ref s2), .val (.ref b1), .val (.int (0 : Int32)), .unset, .unset, .unset, .unset] [])) _
          refine XS.aconstNull X33.here hx rfl (hb hby at_324) ?_
          show Steps p.tables e below (T33.setTop (mkF m 325 #[.val (.int p1), .val (.int p2), .val (.int p3), .val (.int p4), .val (.int p5), .val (.int ln1), .val (.int x0), .val (.int x1), .val (.int y0), .val (.int y1), .val (.int ln2), .val (.int bo1), .val (.int bo2), .val (.int kd), .val (.ref s1), .val (.ref s2), .val (.ref b1), .val (.int (0 : Int32)), .unset, .unset, .unset, .unset] [.null])) _
          refine XS.astore X33.here hx rfl (hb hby at_325) rfl rfl (l' := #[.val (.int p1), .val (.int p2), .val (.int p3), .val (.int p4), .val (.int p5), .val (.int ln1), .val (.int x0), .val (.int x1), .val (.int y0), .val (.int y1), .val (.int ln2), .val (.int bo1), .val (.int bo2), .val (.int kd), .val (.ref s1), .val (.ref s2), .val (.ref b1), .val (.int (0 : Int32)), .val .null, .unset, .unset, .unset]) rfl ?_
          show Steps p.tables e below (T33.setTop (mkF m 327 #[.val (.int p1), .val (.int p2), .val (.int p3), .val (.int p4), .val (.int p5), .val (.int ln1), .val (.int x0), .val (.int x1), .val (.int y0), .val (.int y1), .val (.int ln2), .val (.int bo1), .val (.int bo2), .val (.int kd), .val (.ref s1), .val (.ref s2), .val (.ref b1), .val (.int (0 : Int32)), .val .null, .unset, .unset, .unset] [])) _
          refine XS.aload X33.here hx rfl (hb hby at_327) rfl rfl ?_
          show Steps p.tables e below (T33.setTop (mkF m 329 #[.val (.int p1), .val (.int p2), .val (.int p3), .val (.int p4), .val (.int p5), .val (.int ln1), .val (.int x0), .val (.int x1), .val (.int y0), .val (.int y1), .val (.int ln2), .val (.int bo1), .val (.int bo2), .val (.int kd), .val (.ref s1), .val (.ref s2), .val (.ref b1), .val (.int (0 : Int32)), .val .null, .unset, .unset, .unset] [(.ref b1)])) _
          refine XS.aload X33.here hx rfl (hb hby at_329) rfl rfl ?_
          show Steps p.tables e below (T33.setTop (mkF m 331 #[.val (.int p1), .val (.int p2), .val (.int p3), .val (.int p4), .val (.int p5), .val (.int ln1), .val (.int x0), .val (.int x1), .val (.int y0), .val (.int y1), .val (.int ln2), .val (.int bo1), .val (.int bo2), .val (.int kd), .val (.ref s1), .val (.ref s2), .val (.ref b1), .val (.int (0 : Int32)), .val .null, .unset, .unset, .unset] [.null, (.ref b1)])) _
          refine st40.trans ?_
          show Steps p.tables e below (T40.setTop (mkF m 334 #[.val (.int p1), .val (.int p2), .val (.int p3), .val (.int p4), .val (.int p5), .val (.int ln1), .val (.int x0), .val (.int x1), .val (.int y0), .val (.int y1), .val (.int ln2), .val (.int bo1), .val (.int bo2), .val (.int kd), .val (.ref s1), .val (.ref s2), .val (.ref b1), .val (.int (0 : Int32)), .val .null, .unset, .unset, .unset] [(.int (0 : Int32))])) _
          refine XS.ifNo X40.here hx rfl (hb hby at_334) rfl ((if0 _ _).trans (teq (by decide : ((0 : Int32) = (0 : Int32)))).2) ?_
          show Steps p.tables e below (T40.setTop (mkF m 337 #[.val (.int p1), .val (.int p2), .val (.int p3), .val (.int p4), .val (.int p5), .val (.int ln1), .val (.int x0), .val (.int x1), .val (.int y0), .val (.int y1), .val (.int ln2), .val (.int bo1), .val (.int bo2), .val (.int kd), .val (.ref s1), .val (.ref s2), .val (.ref b1), .val (.int (0 : Int32)), .val .null, .unset, .unset, .unset] [])) _
          refine XT.iconstV X40.here hx rfl (1 : Int32) (hb hby at_337) (by decide) ?_
          show Steps p.tables e below (T40.setTop (mkF m 338 #[.val (.int p1), .val (.int p2), .val (.int p3), .val (.int p4), .val (.int p5), .val (.int ln1), .val (.int x0), .val (.int x1), .val (.int y0), .val (.int y1), .val (.int ln2), .val (.int bo1), .val (.int bo2), .val (.int kd), .val (.ref s1), .val (.ref s2), .val (.ref b1), .val (.int (0 : Int32)), .val .null, .unset, .unset, .unset] [(.int (1 : Int32))])) _
          refine XS.goto X40.here hx rfl (pc0 := 338) (pc' := 342) rfl (hb hby at_338) (by decide) (by decide) ?_
          exact k)
        obtain ⟨fs, hr, hrun, hended, hEnd⟩ := X40.leaveW hS (by rw [e40]; exact hk2) (v := some (.int (1 : Int32))) (fun h => by rw [hret] at h; cases h) (hlocks := hlk)
        refine ⟨_, _, pre41 _ ?_, hrun, hended, _, _, rfl, ?_, own_endW hEnd (by decide) (by decide)⟩
        · show Steps p.tables e below (T40.setTop (mkF m 342 #[.val (.int p1), .val (.int p2), .val (.int p3), .val (.int p4), .val (.int p5), .val (.int ln1), .val (.int x0), .val (.int x1), .val (.int y0), .val (.int y1), .val (.int ln2), .val (.int bo1), .val (.int bo2), .val (.int kd), .val (.ref s1), .val (.ref s2), .val (.ref b1), .val (.int (0 : Int32)), .val .null, .unset, .unset, .unset] [(.int (1 : Int32))])) _
          exact retOut X40 hx hret rfl (Or.inl ⟨rfl, by simp, _, rfl⟩) (hb hby at_342) hr
        · exact ⟨rfl, N40⟩
    · have _ := 0
      obtain ⟨T42, h42, X42, e42, E42, A42, D42, -, st42⟩ := newO X33 hx hZ hown (hw _ (List.mem_of_getElem? (i := 27) rfl)) (hw _ (List.mem_of_getElem? (i := 28) rfl)) (hw _ (List.mem_of_getElem? (i := 29) rfl)) e33 (g := (mkF m 228 #[.val (.int p1), .val (.int p2), .val (.int p3), .val (.int p4), .val (.int p5), .val (.int ln1), .val (.int x0), .val (.int x1), .val (.int y0), .val (.int y1), .val (.int ln2), .val (.int bo1), .val (.int bo2), .val (.int kd), .val (.ref s1), .val (.ref s2), .val (.ref b1), .val (.int (0 : Int32)), .unset, .unset, .unset, .unset] [])) rfl (hb hby at_228) (by decide) (by decide)
      obtain ⟨b42, g42⟩ : ∃ z, z = T2.heap.size := ⟨_, rfl⟩
      rw [← g42] at A42 D42 st42
      have ne_b1_b42 : b1 ≠ b42 := Nat.ne_of_lt (Nat.lt_of_lt_of_le E2c.lt (Nat.le_of_eq g42.symm))
      have z_b42 : h0.size ≤ b42 := Nat.le_trans O2.1 (Nat.le_of_eq g42.symm)
      have g_b42 : n0 ≤ b42 := Nat.le_trans Z0 z_b42
      have E42_b1 := E2c.ext E42
      have F42_b1_key := F2c.ext E42
      have F42_b1_passed := F2d.ext E42
      have O42 := own_ext_trans O2 E42
      have hk42 : k0 ≤ h42.size := Nat.le_trans hk2 E42.1
      have F42_b42_key : Fld Z h42 b42 "com/example/steadyhand/steadyhand/history/RecordedExecution" "key" "Ljava/lang/String;" .null := D42 (Or.inr (hw _ (List.mem_of_getElem? (i := 40) rfl))) (ty := (.object "java/lang/String")) (by decide)
      have F42_b42_passed : Fld Z h42 b42 "com/example/steadyhand/steadyhand/history/RecordedExecution" "passed" "Z" (.int (0 : Int32)) := D42 (Or.inr (hw _ (List.mem_of_getElem? (i := 42) rfl))) (ty := .boolean) (by decide)
      obtain ⟨_, _, ⟨T43, L43, k43, n43⟩, -, X43, ⟨Lc43, hQ43, l43, y43, z43⟩, st43⟩ := X42.specialBack hx (y := (⟨"com/example/steadyhand/steadyhand/history/RecordedExecution", "<init>", "(Ljava/lang/String;Z)V"⟩ : MethodName)) rfl hown (mvT hZ (hw _ (List.mem_of_getElem? (i := 30) rfl))) (mvT hZ (hw _ (List.mem_of_getElem? (i := 31) rfl))) (mvT hZ (hw _ (List.mem_of_getElem? (i := 32) rfl))) (by decide) (backOf (W := 1) (rm_ri l Z a0 hw [] b42 s2 bo2 h42 n0 (Nat.le_trans Z0 O42.1) A42 F42_b42_key F42_b42_passed g_b42 (S2.ext O42).1 hb2) hZ (hw _ (List.mem_of_getElem? (i := 32) rfl)) (hw _ (List.mem_of_getElem? (i := 29) rfl)) (by decide) (by decide)) (g := (mkF m 236 #[.val (.int p1), .val (.int p2), .val (.int p3), .val (.int p4), .val (.int p5), .val (.int ln1), .val (.int x0), .val (.int x1), .val (.int y0), .val (.int y1), .val (.int ln2), .val (.int bo1), .val (.int bo2), .val (.int kd), .val (.ref s1), .val (.ref s2), .val (.ref b1), .val (.int (0 : Int32)), .unset, .unset, .unset, .unset] [(.int bo2), (.ref s2), (.ref b42), (.ref b42)])) rfl (by rw [hml]; rfl) (Steps.refl _) (a := b42) (argsL := [(.ref s2), (.int bo2)]) (rest := [(.ref b42)]) (lenOf pd_3 rfl) rfl (by show 2 * 0 + _ ≤ _; exact Nat.le_of_eq rfl) (hb hby at_236) (fun _ _ => ⟨rfl, e42, (by decide : 10 + 0 ≤ _), (by decide : 24 + 0 ≤ _)⟩)
      dsimp only [Pt.U, Pt.locs, Pt.cells, Pt.slots] at X43 l43 y43 z43 st43 hQ43
      rw [y43, z43] at X43
      obtain ⟨rfl, N43q, K43c, E43c, F43c, F43d⟩ := hQ43
      have N43 : Fr n0 L43 := by rw [l43]; exact Fr.app N33 N43q
      have E43_b1 := E42_b1.keep K43c
      have E43_b42 := A42.keep K43c
      have F43_b1_key := F42_b1_key.keep K43c (ninS ne_b1_b42 nin0)
      have F43_b1_passed := F42_b1_passed.keep K43c (ninS ne_b1_b42 nin0)
      have O43 := own_ext_keep O42 K43c (allS z_b42 all0)
      have hk43 : k0 ≤ T43.heap.size := Nat.le_trans hk42 K43c.1
      have pre44 : ∀ t, Steps p.tables e below (T43.setTop (mkF m 264 #[.val (.int p1), .val (.int p2), .val (.int p3), .val (.int p4), .val (.int p5), .val (.int ln1), .val (.int x0), .val (.int x1), .val (.int y0), .val (.int y1), .val (.int ln2), .val (.int bo1), .val (.int bo2), .val (.int kd), .val (.ref s1), .val (.ref s2), .val (.ref b1), .val (.int (0 : Int32)), .val (.ref b42), .val (.int (0 : Int32)), .unset, .unset] [(.ref b42), (.ref b1)])) t → Steps p.tables e below START t := fun t k => pre34 t (by
        show Steps p.tables e below (T33.setTop (mkF m 225 #[.val (.int p1), .val (.int p2), .val (.int p3), .val (.int p4), .val (.int p5), .val (.int ln1), .val (.int x0), .val (.int x1), .val (.int y0), .val (.int y1), .val (.int ln2), .val (.int bo1), .val (.int bo2), .val (.int kd), .val (.ref s1), .val (.ref s2), .val (.ref b1), .val (.int (0 : Int32)), .unset, .unset, .unset, .unset] [(.int (1 : Int32)), (.int kd)])) _
        refine XS.icmpNo X33.here hx rfl (hb hby at_225) rfl (flt hc225_35).2.2.1 ?_
        show Steps p.tables e below (T33.setTop (mkF m 228 #[.val (.int p1), .val (.int p2), .val (.int p3), .val (.int p4), .val (.int p5), .val (.int ln1), .val (.int x0), .val (.int x1), .val (.int y0), .val (.int y1), .val (.int ln2), .val (.int bo1), .val (.int bo2), .val (.int kd), .val (.ref s1), .val (.ref s2), .val (.ref b1), .val (.int (0 : Int32)), .unset, .unset, .unset, .unset] [])) _
        refine st42 _ ?_
        show Steps p.tables e below (T42.setTop (mkF m 231 #[.val (.int p1), .val (.int p2), .val (.int p3), .val (.int p4), .val (.int p5), .val (.int ln1), .val (.int x0), .val (.int x1), .val (.int y0), .val (.int y1), .val (.int ln2), .val (.int bo1), .val (.int bo2), .val (.int kd), .val (.ref s1), .val (.ref s2), .val (.ref b1), .val (.int (0 : Int32)), .unset, .unset, .unset, .unset] [(.ref b42)])) _
        refine XS.dup X42.here hx rfl (hb hby at_231) rfl rfl ?_
        show Steps p.tables e below (T42.setTop (mkF m 232 #[.val (.int p1), .val (.int p2), .val (.int p3), .val (.int p4), .val (.int p5), .val (.int ln1), .val (.int x0), .val (.int x1), .val (.int y0), .val (.int y1), .val (.int ln2), .val (.int bo1), .val (.int bo2), .val (.int kd), .val (.ref s1), .val (.ref s2), .val (.ref b1), .val (.int (0 : Int32)), .unset, .unset, .unset, .unset] [(.ref b42), (.ref b42)])) _
        refine XS.aload X42.here hx rfl (hb hby at_232) rfl rfl ?_
        show Steps p.tables e below (T42.setTop (mkF m 234 #[.val (.int p1), .val (.int p2), .val (.int p3), .val (.int p4), .val (.int p5), .val (.int ln1), .val (.int x0), .val (.int x1), .val (.int y0), .val (.int y1), .val (.int ln2), .val (.int bo1), .val (.int bo2), .val (.int kd), .val (.ref s1), .val (.ref s2), .val (.ref b1), .val (.int (0 : Int32)), .unset, .unset, .unset, .unset] [(.ref s2), (.ref b42), (.ref b42)])) _
        refine XS.iload X42.here hx rfl (hb hby at_234) rfl ?_
        show Steps p.tables e below (T42.setTop (mkF m 236 #[.val (.int p1), .val (.int p2), .val (.int p3), .val (.int p4), .val (.int p5), .val (.int ln1), .val (.int x0), .val (.int x1), .val (.int y0), .val (.int y1), .val (.int ln2), .val (.int bo1), .val (.int bo2), .val (.int kd), .val (.ref s1), .val (.ref s2), .val (.ref b1), .val (.int (0 : Int32)), .unset, .unset, .unset, .unset] [(.int bo2), (.ref s2), (.ref b42), (.ref b42)])) _
        refine st43.trans ?_
        show Steps p.tables e below (T43.setTop (mkF m 239 #[.val (.int p1), .val (.int p2), .val (.int p3), .val (.int p4), .val (.int p5), .val (.int ln1), .val (.int x0), .val (.int x1), .val (.int y0), .val (.int y1), .val (.int ln2), .val (.int bo1), .val (.int bo2), .val (.int kd), .val (.ref s1), .val (.ref s2), .val (.ref b1), .val (.int (0 : Int32)), .unset, .unset, .unset, .unset] [(.ref b42)])) _
        refine XS.astore X43.here hx rfl (hb hby at_239) rfl rfl (l' := #[.val (.int p1), .val (.int p2), .val (.int p3), .val (.int p4), .val (.int p5), .val (.int ln1), .val (.int x0), .val (.int x1), .val (.int y0), .val (.int y1), .val (.int ln2), .val (.int bo1), .val (.int bo2), .val (.int kd), .val (.ref s1), .val (.ref s2), .val (.ref b1), .val (.int (0 : Int32)), .val (.ref b42), .unset, .unset, .unset]) rfl ?_
        show Steps p.tables e below (T43.setTop (mkF m 241 #[.val (.int p1), .val (.int p2), .val (.int p3), .val (.int p4), .val (.int p5), .val (.int ln1), .val (.int x0), .val (.int x1), .val (.int y0), .val (.int y1), .val (.int ln2), .val (.int bo1), .val (.int bo2), .val (.int kd), .val (.ref s1), .val (.ref s2), .val (.ref b1), .val (.int (0 : Int32)), .val (.ref b42), .unset, .unset, .unset] [])) _
        refine XS.iload X43.here hx rfl (hb hby at_241) rfl ?_
        show Steps p.tables e below (T43.setTop (mkF m 243 #[.val (.int p1), .val (.int p2), .val (.int p3), .val (.int p4), .val (.int p5), .val (.int ln1), .val (.int x0), .val (.int x1), .val (.int y0), .val (.int y1), .val (.int ln2), .val (.int bo1), .val (.int bo2), .val (.int kd), .val (.ref s1), .val (.ref s2), .val (.ref b1), .val (.int (0 : Int32)), .val (.ref b42), .unset, .unset, .unset] [(.int (0 : Int32))])) _
        refine XS.ifYes X43.here hx rfl (pc0 := 243) (pc' := 257) rfl (hb hby at_243) rfl ((if0 _ _).trans (teq (by decide : ((0 : Int32) = (0 : Int32)))).1) (by decide) (by decide) ?_
        show Steps p.tables e below (T43.setTop (mkF m 257 #[.val (.int p1), .val (.int p2), .val (.int p3), .val (.int p4), .val (.int p5), .val (.int ln1), .val (.int x0), .val (.int x1), .val (.int y0), .val (.int y1), .val (.int ln2), .val (.int bo1), .val (.int bo2), .val (.int kd), .val (.ref s1), .val (.ref s2), .val (.ref b1), .val (.int (0 : Int32)), .val (.ref b42), .unset, .unset, .unset] [])) _
        refine XT.iconstV X43.here hx rfl (0 : Int32) (hb hby at_257) (by decide) ?_
        show Steps p.tables e below (T43.setTop (mkF m 258 #[.val (.int p1), .val (.int p2), .val (.int p3), .val (.int p4), .val (.int p5), .val (.int ln1), .val (.int x0), .val (.int x1), .val (.int y0), .val (.int y1), .val (.int ln2), .val (.int bo1), .val (.int bo2), .val (.int kd), .val (.ref s1), .val (.ref s2), .val (.ref b1), .val (.int (0 : Int32)), .val (.ref b42), .unset, .unset, .unset] [(.int (0 : Int32))])) _
        refine XS.istore X43.here hx rfl (hb hby at_258) rfl (l' := #[.val (.int p1), .val (.int p2), .val (.int p3), .val (.int p4), .val (.int p5), .val (.int ln1), .val (.int x0), .val (.int x1), .val (.int y0), .val (.int y1), .val (.int ln2), .val (.int bo1), .val (.int bo2), .val (.int kd), .val (.ref s1), .val (.ref s2), .val (.ref b1), .val (.int (0 : Int32)), .val (.ref b42), .val (.int (0 : Int32)), .unset, .unset]) rfl ?_
        show Steps p.tables e below (T43.setTop (mkF m 260 #[.val (.int p1), .val (.int p2), .val (.int p3), .val (.int p4), .val (.int p5), .val (.int ln1), .val (.int x0), .val (.int x1), .val (.int y0), .val (.int y1), .val (.int ln2), .val (.int bo1), .val (.int bo2), .val (.int kd), .val (.ref s1), .val (.ref s2), .val (.ref b1), .val (.int (0 : Int32)), .val (.ref b42), .val (.int (0 : Int32)), .unset, .unset] [])) _
        refine XS.aload X43.here hx rfl (hb hby at_260) rfl rfl ?_
        show Steps p.tables e below (T43.setTop (mkF m 262 #[.val (.int p1), .val (.int p2), .val (.int p3), .val (.int p4), .val (.int p5), .val (.int ln1), .val (.int x0), .val (.int x1), .val (.int y0), .val (.int y1), .val (.int ln2), .val (.int bo1), .val (.int bo2), .val (.int kd), .val (.ref s1), .val (.ref s2), .val (.ref b1), .val (.int (0 : Int32)), .val (.ref b42), .val (.int (0 : Int32)), .unset, .unset] [(.ref b1)])) _
        refine XS.aload X43.here hx rfl (hb hby at_262) rfl rfl ?_
        exact k)
      obtain ⟨cq45, kq45, q45a, q45b, q45c⟩ := isOf hZ rfl E43_b1
      obtain ⟨_, _, ⟨T45, L45, k45, n45⟩, -, X45, ⟨Lc45, hQ45, l45, y45, z45⟩, st45⟩ := X43.virtualBack hx (y := (⟨"com/example/steadyhand/steadyhand/history/RecordedExecution", "equals", "(Ljava/lang/Object;)Z"⟩ : MethodName)) (z := (⟨"com/example/steadyhand/steadyhand/history/RecordedExecution", "equals", "(Ljava/lang/Object;)Z"⟩ : MethodName)) hown (mvT hZ (hw _ (List.mem_of_getElem? (i := 43) rfl))) (mvT hZ (hw _ (List.mem_of_getElem? (i := 44) rfl))) (notFace_of_selects (args := #[]) (mvT hZ (hw _ (List.mem_of_getElem? (i := 46) rfl)))) (mvT hZ (hw _ (List.mem_of_getElem? (i := 46) rfl))) (mvT hZ (hw _ (List.mem_of_getElem? (i := 45) rfl))) (by decide) (backOf (W := 0) (rm_eq l Z a0 hw [] b1 b42 T43.heap n0 (Nat.le_trans Z0 O43.1) E43_b1 E43c s1 s2 bo1 bo2 F43_b1_key F43c F43_b1_passed F43d cs ds (S1.ext O43) (S2.ext O43) zc (Sc.ext O43) hzc (0 : Int32) (by simp only [own_eq]; rw [if_neg hke])) hZ (hw _ (List.mem_of_getElem? (i := 47) rfl)) (hw _ (List.mem_of_getElem? (i := 29) rfl)) (by decide) (by decide)) q45a q45c (g := (mkF m 264 #[.val (.int p1), .val (.int p2), .val (.int p3), .val (.int p4), .val (.int p5), .val (.int ln1), .val (.int x0), .val (.int x1), .val (.int y0), .val (.int y1), .val (.int ln2), .val (.int bo1), .val (.int bo2), .val (.int kd), .val (.ref s1), .val (.ref s2), .val (.ref b1), .val (.int (0 : Int32)), .val (.ref b42), .val (.int (0 : Int32)), .unset, .unset] [(.ref b42), (.ref b1)])) rfl (by rw [hml]; rfl) (Steps.refl _) (argsL := [(.ref b42)]) (rest := []) (lenOf pd_1 rfl) rfl (by show 2 * 0 + _ ≤ _; exact Nat.le_of_eq rfl) (hb hby at_264) (fun _ _ => ⟨rfl, rfl, (by decide : 10 + 0 ≤ _), (by decide : 24 + 0 ≤ _)⟩)
      dsimp only [Pt.U, Pt.locs, Pt.cells, Pt.slots] at X45 l45 y45 z45 st45 hQ45
      rw [y45, z45] at X45
      obtain ⟨rfl, N45q, e45⟩ := hQ45
      have N45 : Fr n0 L45 := by rw [l45]; exact Fr.app N43 N45q
      obtain ⟨cq46, kq46, q46a, q46b, q46c⟩ := isOf hZ e45 E43c
      obtain ⟨_, _, ⟨T46, L46, k46, n46⟩, -, X46, ⟨Lc46, hQ46, l46, y46, z46⟩, st46⟩ := X45.virtualBack hx (y := (⟨"com/example/steadyhand/steadyhand/history/RecordedExecution", "equals", "(Ljava/lang/Object;)Z"⟩ : MethodName)) (z := (⟨"com/example/steadyhand/steadyhand/history/RecordedExecution", "equals", "(Ljava/lang/Object;)Z"⟩ : MethodName)) hown (mvT hZ (hw _ (List.mem_of_getElem? (i := 43) rfl))) (mvT hZ (hw _ (List.mem_of_getElem? (i := 44) rfl))) (notFace_of_selects (args := #[]) (mvT hZ (hw _ (List.mem_of_getElem? (i := 46) rfl)))) (mvT hZ (hw _ (List.mem_of_getElem? (i := 46) rfl))) (mvT hZ (hw _ (List.mem_of_getElem? (i := 45) rfl))) (by decide) (backOf (W := 0) (rm_eq l Z a0 hw [] b42 b1 T43.heap n0 (Nat.le_trans Z0 O43.1) E43c E43_b1 s2 s1 bo2 bo1 F43c F43_b1_key F43d F43_b1_passed ds cs (S2.ext O43) (S1.ext O43) zc (Sc.ext O43) hzc (0 : Int32) (by simp only [own_eq]; rw [if_neg (fun q => hke q.symm)])) hZ (hw _ (List.mem_of_getElem? (i := 47) rfl)) (hw _ (List.mem_of_getElem? (i := 29) rfl)) (by decide) (by decide)) q46a q46c (g := (mkF m 273 #[.val (.int p1), .val (.int p2), .val (.int p3), .val (.int p4), .val (.int p5), .val (.int ln1), .val (.int x0), .val (.int x1), .val (.int y0), .val (.int y1), .val (.int ln2), .val (.int bo1), .val (.int bo2), .val (.int kd), .val (.ref s1), .val (.ref s2), .val (.ref b1), .val (.int (0 : Int32)), .val (.ref b42), .val (.int (0 : Int32)), .val (.int (0 : Int32)), .unset] [(.ref b1), (.ref b42)])) rfl (by rw [hml]; rfl) (Steps.refl _) (argsL := [(.ref b1)]) (rest := []) (lenOf pd_1 rfl) rfl (by show 2 * 0 + _ ≤ _; exact Nat.le_of_eq rfl) (hb hby at_273) (fun _ _ => ⟨rfl, e45, (by decide : 10 + 0 ≤ _), (by decide : 24 + 0 ≤ _)⟩)
      dsimp only [Pt.U, Pt.locs, Pt.cells, Pt.slots] at X46 l46 y46 z46 st46 hQ46
      rw [y46, z46] at X46
      obtain ⟨rfl, N46q, e46⟩ := hQ46
      have N46 : Fr n0 L46 := by rw [l46]; exact Fr.app N45 N46q
      have pre47 : ∀ t, Steps p.tables e below (T46.setTop (mkF m 293 #[.val (.int p1), .val (.int p2), .val (.int p3), .val (.int p4), .val (.int p5), .val (.int ln1), .val (.int x0), .val (.int x1), .val (.int y0), .val (.int y1), .val (.int ln2), .val (.int bo1), .val (.int bo2), .val (.int kd), .val (.ref s1), .val (.ref s2), .val (.ref b1), .val (.int (0 : Int32)), .val (.ref b42), .val (.int (0 : Int32)), .val (.int (0 : Int32)), .val (.int (0 : Int32))] [(.int (1 : Int32))])) t → Steps p.tables e below START t := fun t k => pre44 t (by
        show Steps p.tables e below (T43.setTop (mkF m 264 #[.val (.int p1), .val (.int p2), .val (.int p3), .val (.int p4), .val (.int p5), .val (.int ln1), .val (.int x0), .val (.int x1), .val (.int y0), .val (.int y1), .val (.int ln2), .val (.int bo1), .val (.int bo2), .val (.int kd), .val (.ref s1), .val (.ref s2), .val (.ref b1), .val (.int (0 : Int32)), .val (.ref b42), .val (.int (0 : Int32)), .unset, .unset] [(.ref b42), (.ref b1)])) _
        refine st45.trans ?_
        show Steps p.tables e below (T45.setTop (mkF m 267 #[.val (.int p1), .val (.int p2), .val (.int p3), .val (.int p4), .val (.int p5), .val (.int ln1), .val (.int x0), .val (.int x1), .val (.int y0), .val (.int y1), .val (.int ln2), .val (.int bo1), .val (.int bo2), .val (.int kd), .val (.ref s1), .val (.ref s2), .val (.ref b1), .val (.int (0 : Int32)), .val (.ref b42), .val (.int (0 : Int32)), .unset, .unset] [(.int (0 : Int32))])) _
        refine XS.istore X45.here hx rfl (hb hby at_267) rfl (l' := #[.val (.int p1), .val (.int p2), .val (.int p3), .val (.int p4), .val (.int p5), .val (.int ln1), .val (.int x0), .val (.int x1), .val (.int y0), .val (.int y1), .val (.int ln2), .val (.int bo1), .val (.int bo2), .val (.int kd), .val (.ref s1), .val (.ref s2), .val (.ref b1), .val (.int (0 : Int32)), .val (.ref b42), .val (.int (0 : Int32)), .val (.int (0 : Int32)), .unset]) rfl ?_
        show Steps p.tables e below (T45.setTop (mkF m 269 #[.val (.int p1), .val (.int p2), .val (.int p3), .val (.int p4), .val (.int p5), .val (.int ln1), .val (.int x0), .val (.int x1), .val (.int y0), .val (.int y1), .val (.int ln2), .val (.int bo1), .val (.int bo2), .val (.int kd), .val (.ref s1), .val (.ref s2), .val (.ref b1), .val (.int (0 : Int32)), .val (.ref b42), .val (.int (0 : Int32)), .val (.int (0 : Int32)), .unset] [])) _
        refine XS.aload X45.here hx rfl (hb hby at_269) rfl rfl ?_
        show Steps p.tables e below (T45.setTop (mkF m 271 #[.val (.int p1), .val (.int p2), .val (.int p3), .val (.int p4), .val (.int p5), .val (.int ln1), .val (.int x0), .val (.int x1), .val (.int y0), .val (.int y1), .val (.int ln2), .val (.int bo1), .val (.int bo2), .val (.int kd), .val (.ref s1), .val (.ref s2), .val (.ref b1), .val (.int (0 : Int32)), .val (.ref b42), .val (.int (0 : Int32)), .val (.int (0 : Int32)), .unset] [(.ref b42)])) _
        refine XS.aload X45.here hx rfl (hb hby at_271) rfl rfl ?_
        show Steps p.tables e below (T45.setTop (mkF m 273 #[.val (.int p1), .val (.int p2), .val (.int p3), .val (.int p4), .val (.int p5), .val (.int ln1), .val (.int x0), .val (.int x1), .val (.int y0), .val (.int y1), .val (.int ln2), .val (.int bo1), .val (.int bo2), .val (.int kd), .val (.ref s1), .val (.ref s2), .val (.ref b1), .val (.int (0 : Int32)), .val (.ref b42), .val (.int (0 : Int32)), .val (.int (0 : Int32)), .unset] [(.ref b1), (.ref b42)])) _
        refine st46.trans ?_
        show Steps p.tables e below (T46.setTop (mkF m 276 #[.val (.int p1), .val (.int p2), .val (.int p3), .val (.int p4), .val (.int p5), .val (.int ln1), .val (.int x0), .val (.int x1), .val (.int y0), .val (.int y1), .val (.int ln2), .val (.int bo1), .val (.int bo2), .val (.int kd), .val (.ref s1), .val (.ref s2), .val (.ref b1), .val (.int (0 : Int32)), .val (.ref b42), .val (.int (0 : Int32)), .val (.int (0 : Int32)), .unset] [(.int (0 : Int32))])) _
        refine XS.istore X46.here hx rfl (hb hby at_276) rfl (l' := #[.val (.int p1), .val (.int p2), .val (.int p3), .val (.int p4), .val (.int p5), .val (.int ln1), .val (.int x0), .val (.int x1), .val (.int y0), .val (.int y1), .val (.int ln2), .val (.int bo1), .val (.int bo2), .val (.int kd), .val (.ref s1), .val (.ref s2), .val (.ref b1), .val (.int (0 : Int32)), .val (.ref b42), .val (.int (0 : Int32)), .val (.int (0 : Int32)), .val (.int (0 : Int32))]) rfl ?_
        show Steps p.tables e below (T46.setTop (mkF m 278 #[.val (.int p1), .val (.int p2), .val (.int p3), .val (.int p4), .val (.int p5), .val (.int ln1), .val (.int x0), .val (.int x1), .val (.int y0), .val (.int y1), .val (.int ln2), .val (.int bo1), .val (.int bo2), .val (.int kd), .val (.ref s1), .val (.ref s2), .val (.ref b1), .val (.int (0 : Int32)), .val (.ref b42), .val (.int (0 : Int32)), .val (.int (0 : Int32)), .val (.int (0 : Int32))] [])) _
        refine XS.iload X46.here hx rfl (hb hby at_278) rfl ?_
        show Steps p.tables e below (T46.setTop (mkF m 280 #[.val (.int p1), .val (.int p2), .val (.int p3), .val (.int p4), .val (.int p5), .val (.int ln1), .val (.int x0), .val (.int x1), .val (.int y0), .val (.int y1), .val (.int ln2), .val (.int bo1), .val (.int bo2), .val (.int kd), .val (.ref s1), .val (.ref s2), .val (.ref b1), .val (.int (0 : Int32)), .val (.ref b42), .val (.int (0 : Int32)), .val (.int (0 : Int32)), .val (.int (0 : Int32))] [(.int (0 : Int32))])) _
        refine XS.iload X46.here hx rfl (hb hby at_280) rfl ?_
        show Steps p.tables e below (T46.setTop (mkF m 282 #[.val (.int p1), .val (.int p2), .val (.int p3), .val (.int p4), .val (.int p5), .val (.int ln1), .val (.int x0), .val (.int x1), .val (.int y0), .val (.int y1), .val (.int ln2), .val (.int bo1), .val (.int bo2), .val (.int kd), .val (.ref s1), .val (.ref s2), .val (.ref b1), .val (.int (0 : Int32)), .val (.ref b42), .val (.int (0 : Int32)), .val (.int (0 : Int32)), .val (.int (0 : Int32))] [(.int (0 : Int32)), (.int (0 : Int32))])) _
        refine XS.icmpNo X46.here hx rfl (hb hby at_282) rfl (teq (by decide : ((0 : Int32) = (0 : Int32)))).2 ?_
        show Steps p.tables e below (T46.setTop (mkF m 285 #[.val (.int p1), .val (.int p2), .val (.int p3), .val (.int p4), .val (.int p5), .val (.int ln1), .val (.int x0), .val (.int x1), .val (.int y0), .val (.int y1), .val (.int ln2), .val (.int bo1), .val (.int bo2), .val (.int kd), .val (.ref s1), .val (.ref s2), .val (.ref b1), .val (.int (0 : Int32)), .val (.ref b42), .val (.int (0 : Int32)), .val (.int (0 : Int32)), .val (.int (0 : Int32))] [])) _
        refine XS.iload X46.here hx rfl (hb hby at_285) rfl ?_
        show Steps p.tables e below (T46.setTop (mkF m 287 #[.val (.int p1), .val (.int p2), .val (.int p3), .val (.int p4), .val (.int p5), .val (.int ln1), .val (.int x0), .val (.int x1), .val (.int y0), .val (.int y1), .val (.int ln2), .val (.int bo1), .val (.int bo2), .val (.int kd), .val (.ref s1), .val (.ref s2), .val (.ref b1), .val (.int (0 : Int32)), .val (.ref b42), .val (.int (0 : Int32)), .val (.int (0 : Int32)), .val (.int (0 : Int32))] [(.int (0 : Int32))])) _
        refine XS.iload X46.here hx rfl (hb hby at_287) rfl ?_
        show Steps p.tables e below (T46.setTop (mkF m 289 #[.val (.int p1), .val (.int p2), .val (.int p3), .val (.int p4), .val (.int p5), .val (.int ln1), .val (.int x0), .val (.int x1), .val (.int y0), .val (.int y1), .val (.int ln2), .val (.int bo1), .val (.int bo2), .val (.int kd), .val (.ref s1), .val (.ref s2), .val (.ref b1), .val (.int (0 : Int32)), .val (.ref b42), .val (.int (0 : Int32)), .val (.int (0 : Int32)), .val (.int (0 : Int32))] [(.int (0 : Int32)), (.int (0 : Int32))])) _
        refine XS.icmpNo X46.here hx rfl (hb hby at_289) rfl (teq (by decide : ((0 : Int32) = (0 : Int32)))).2 ?_
        show Steps p.tables e below (T46.setTop (mkF m 292 #[.val (.int p1), .val (.int p2), .val (.int p3), .val (.int p4), .val (.int p5), .val (.int ln1), .val (.int x0), .val (.int x1), .val (.int y0), .val (.int y1), .val (.int ln2), .val (.int bo1), .val (.int bo2), .val (.int kd), .val (.ref s1), .val (.ref s2), .val (.ref b1), .val (.int (0 : Int32)), .val (.ref b42), .val (.int (0 : Int32)), .val (.int (0 : Int32)), .val (.int (0 : Int32))] [])) _
        refine XT.iconstV X46.here hx rfl (1 : Int32) (hb hby at_292) (by decide) ?_
        exact k)
      have pre48 : ∀ t, Steps p.tables e below (T46.setTop (mkF m 297 #[.val (.int p1), .val (.int p2), .val (.int p3), .val (.int p4), .val (.int p5), .val (.int ln1), .val (.int x0), .val (.int x1), .val (.int y0), .val (.int y1), .val (.int ln2), .val (.int bo1), .val (.int bo2), .val (.int kd), .val (.ref s1), .val (.ref s2), .val (.ref b1), .val (.int (0 : Int32)), .val (.ref b42), .val (.int (0 : Int32)), .val (.int (0 : Int32)), .val (.int (0 : Int32))] [(.int (1 : Int32))])) t → Steps p.tables e below START t := fun t k => pre47 t (by
        show Steps p.tables e below (T46.setTop (mkF m 293 #[.val (.int p1), .val (.int p2), .val (.int p3), .val (.int p4), .val (.int p5), .val (.int ln1), .val (.int x0), .val (.int x1), .val (.int y0), .val (.int y1), .val (.int ln2), .val (.int bo1), .val (.int bo2), .val (.int kd), .val (.ref s1), .val (.ref s2), .val (.ref b1), .val (.int (0 : Int32)), .val (.ref b42), .val (.int (0 : Int32)), .val (.int (0 : Int32)), .val (.int (0 : Int32))] [(.int (1 : Int32))])) _
        refine XS.goto X46.here hx rfl (pc0 := 293) (pc' := 297) rfl (hb hby at_293) (by decide) (by decide) ?_
        exact k)
      obtain ⟨fs, hr, hrun, hended, hEnd⟩ := X46.leaveW hS (by rw [e46]; exact hk43) (v := some (.int (1 : Int32))) (fun h => by rw [hret] at h; cases h) (hlocks := hlk)
      refine ⟨_, _, pre48 _ ?_, hrun, hended, _, _, rfl, ?_, own_endW hEnd (by decide) (by decide)⟩
      · show Steps p.tables e below (T46.setTop (mkF m 297 #[.val (.int p1), .val (.int p2), .val (.int p3), .val (.int p4), .val (.int p5), .val (.int ln1), .val (.int x0), .val (.int x1), .val (.int y0), .val (.int y1), .val (.int ln2), .val (.int bo1), .val (.int bo2), .val (.int kd), .val (.ref s1), .val (.ref s2), .val (.ref b1), .val (.int (0 : Int32)), .val (.ref b42), .val (.int (0 : Int32)), .val (.int (0 : Int32)), .val (.int (0 : Int32))] [(.int (1 : Int32))])) _
        exact retOut X46 hx hret rfl (Or.inl ⟨rfl, by simp, _, rfl⟩) (hb hby at_297) hr
      · exact ⟨rfl, N46⟩
theorem own_rem (k : Int32) : ((k &&& (2147483647 : Int32)) % (3 : Int32)) = (0 : Int32) ∨ ((k &&& (2147483647 : Int32)) % (3 : Int32)) = (1 : Int32) ∨ ((k &&& (2147483647 : Int32)) % (3 : Int32)) = (2 : Int32) := by
  have e1 := c_mask k (2147483647 : Int32) 31 (by decide) (by decide)
  have e2 := (c_irem (k &&& (2147483647 : Int32)) (3 : Int32) 3 (by decide)).1 (by omega)
  generalize (k &&& (2147483647 : Int32)) % (3 : Int32) = z at *
  have h : z.toInt = 0 ∨ z.toInt = 1 ∨ z.toInt = 2 := by omega
  rcases h with h | h | h
  · exact Or.inl (Int32.toInt_inj.mp (h.trans (by decide : (0 : Int) = (0 : Int32).toInt)))
  · exact Or.inr (Or.inl (Int32.toInt_inj.mp (h.trans (by decide : (1 : Int) = (1 : Int32).toInt))))
  · exact Or.inr (Or.inr ((Int32.toInt_inj.mp (h.trans (by decide : (2 : Int) = (2 : Int32).toInt)))))
def own_l3 (x : Int32) : Prop := x = (0 : Int32) ∨ x = (1 : Int32) ∨ x = (2 : Int32)
theorem own_and255 (z : Int32) : own_ch (z &&& (255 : Int32)) := by
  have e := c_mask z (255 : Int32) 8 (by decide) (by decide)
  have a : (0 : Int32).toInt = 0 := by decide
  have b : (255 : Int32).toInt = 255 := by decide
  refine ⟨fun q => ?_, fun q => ?_⟩ <;> rw [Int32.lt_iff_toInt_lt] at q <;> omega
theorem own_all1 {x : Int32} (h : own_ch x) : ∀ c ∈ [x], own_ch c := fun c hc => by rw [List.mem_singleton.mp hc]; exact h
theorem own_all2 {x y : Int32} (h : own_ch x) (k : own_ch y) : ∀ c ∈ [x, y], own_ch c := fun c hc => by
  rcases List.mem_cons.mp hc with q | q
  · rw [q]; exact h
  · exact own_all1 k c q
theorem own_str0 {Z : State} {h : Heap} {a b : Addr} {k : ClassId} (E : Exa Z h a "java/lang/String") (C : Fld Z h a "java/lang/String" "coder" "B" (.int (0 : Int32))) (V : Fld Z h a "java/lang/String" "value" "[B" (.ref b)) (A : Arv Z h b k .byte (0 : Int32) [] (.int (0 : Int32))) : own_str Z h a [] :=
  ⟨E, C, fun c hc => absurd hc (by simp), Nat.zero_le _, b, k, _, _, V, A, StrChars.Road.codOf (cs := []) (n := 0) rfl (fun c hc => absurd hc (by simp))⟩
theorem own_strN {Z : State} {h : Heap} {a t : Addr} {k : ClassId} {cs bs : List Int32} {n : Nat} {N : Int32} (hn : cs.length = n) (h4 : n ≤ 4000) (hN : N = Int32.ofNat n) (hbs : bs = cs.map fun c => c.toInt8.toInt32) (hc : ∀ c ∈ cs, own_ch c) (E : Exa Z h a "java/lang/String") (C : Fld Z h a "java/lang/String" "coder" "B" (.int (0 : Int32))) (V : Fld Z h a "java/lang/String" "value" "[B" (.ref t)) (A : Arv Z h t k .byte N (bs.map Value.int) (.int (0 : Int32))) : own_str Z h a cs := by
  subst hN hbs
  exact ⟨E, C, hc, by rw [hn]; exact h4, t, k, _, _, V, A, StrChars.Road.codOf hn (fun c q => (hc c q).2)⟩
def Q0 (Z : State) (p1 p2 p3 p4 p5 : Int32) (h0 : Heap) (n0 : Nat) (v : Option Value) (h : Heap) (vm : Vm) (L : List Loc) : Prop := v = some (.int 1) ∧ Fr n0 L
theorem pn_0 : plainName "com/example/steadyhand/steadyhand/history/RecordedExecutionEqualsPinLaw" = true := by first | (simp [plainName, overriddenIn]; done) | decide +kernel
theorem ef_rm0 (m : MethodId) (x0 : Int32) (x1 : Int32) (x2 : Int32) (x3 : Int32) (x4 : Int32) : entryFrame m #[(.int x0), (.int x1), (.int x2), (.int x3), (.int x4)] maxLocals = mkF m 0 #[.val (.int x0), .val (.int x1), .val (.int x2), .val (.int x3), .val (.int x4), .unset, .unset, .unset, .unset, .unset, .unset, .unset, .unset, .unset, .unset, .unset, .unset, .unset, .unset, .unset, .unset, .unset] [] := by first | (simp [entryFrame, mkF, argsToLocals, Value.category, maxLocals]; done) | rfl
set_option maxRecDepth 65536 in
set_option maxHeartbeats 40000000 in
theorem rm0 (l : Launch) (Z : State) (a0 : Array Value) (hw : ∀ d ∈ tables_1, d.before a0 Z = true) (ws : List Jvm.Cond) (p1 : Int32) (p2 : Int32) (p3 : Int32) (p4 : Int32) (p5 : Int32) (h0 : Heap) (n0 : Nat) (Z0 : n0 ≤ h0.size) (hK0 : Ext Z.heap h0) (hcH : Jvm.Lit.constHeld Z "java/lang/String" 7) (hcW : Jvm.Lit.compactW.before a0 Z = true) (zc : Int32) (Sc : Sta Z h0 "java/lang/String" "COMPACT_STRINGS" "Z" (.int zc)) (hzc : ¬ zc = 0) :
    MetFree l x (head1 (Jvm.Cond.code x code maxLocals ret :: ws) room_1) (fun a U => a = #[(.int p1), (.int p2), (.int p3), (.int p4), (.int p5)] ∧ Z.Warmed39 U.vm ∧ U.heap = h0 ∧ IB Z U.vm []) (fun _ _ _ _ _ => True) (fun _ U o U' => ∃ v L, o = .returned v ∧ Q0 Z p1 p2 p3 p4 p5  h0 n0 v U'.heap U'.vm L ∧ ReturnedEndW U o U' L 32 1152) := by
  refine MetFree.of_bodySF (plainFor_of_name pn_0) hisR ?_
  intro p e s m args below meth c s₁ Bd hml0 hP hK
  obtain ⟨rfl, hZ, hh, hG⟩ := hP
  have hx := Bd.exec
  have hby := Bd.bytes
  have hml : c.maxLocals = 22 := hml0
  have hown : s.vm.findClass "com/example/steadyhand/steadyhand/history/RecordedExecutionEqualsPinLaw" = some m.cls := findClass_of_methodNamed Bd.named
  have hnm := (name_of_methodNamed Bd.named Bd.method).1
  have X0 : Stand p l e room_1 s m #[(.int p1), (.int p2), (.int p3), (.int p4), (.int p5)] below meth c s₁ [] 0 0 := Stand.of_body Bd
  have e0 : s₁.heap = h0 := by rw [← hh, Bd.state]; rfl
  have N0 := Fr.nil n0
  have pre0 : ∀ t, Steps p.tables e below (s₁.setTop (mkF m 0 #[.val (.int p1), .val (.int p2), .val (.int p3), .val (.int p4), .val (.int p5), .unset, .unset, .unset, .unset, .unset, .unset, .unset, .unset, .unset, .unset, .unset, .unset, .unset, .unset, .unset, .unset, .unset] [])) t → Steps p.tables e below (s₁.setTop (entryFrame m #[(.int p1), (.int p2), (.int p3), (.int p4), (.int p5)] maxLocals)) t := fun t k => castTop (ef_rm0 m p1 p2 p3 p4 p5) k
  have hws : ∀ d ∈ StrChars.Road.words, d.before a0 Z = true := fun d hd => hw d ((by decide +kernel : ∀ d ∈ StrChars.Road.words, d ∈ tables_1) d hd)
  have pre1 : ∀ t, Steps p.tables e below (s₁.setTop (mkF m 6 #[.val (.int p1), .val (.int p2), .val (.int p3), .val (.int p4), .val (.int p5), .unset, .unset, .unset, .unset, .unset, .unset, .unset, .unset, .unset, .unset, .unset, .unset, .unset, .unset, .unset, .unset, .unset] [(.int ((p1 &&& (2147483647 : Int32)) % (3 : Int32)))])) t → Steps p.tables e below (s₁.setTop (entryFrame m #[(.int p1), (.int p2), (.int p3), (.int p4), (.int p5)] maxLocals)) t := fun t k => pre0 t (by
    show Steps p.tables e below (s₁.setTop (mkF m 0 #[.val (.int p1), .val (.int p2), .val (.int p3), .val (.int p4), .val (.int p5), .unset, .unset, .unset, .unset, .unset, .unset, .unset, .unset, .unset, .unset, .unset, .unset, .unset, .unset, .unset, .unset, .unset] [])) _
    refine XS.iloadN X0.here hx rfl (hb hby at_0) rfl ?_
    show Steps p.tables e below (s₁.setTop (mkF m 1 #[.val (.int p1), .val (.int p2), .val (.int p3), .val (.int p4), .val (.int p5), .unset, .unset, .unset, .unset, .unset, .unset, .unset, .unset, .unset, .unset, .unset, .unset, .unset, .unset, .unset, .unset, .unset] [(.int p1)])) _
    refine X0.ldcInt hx hown (mvT hZ (hw _ (List.mem_of_getElem? (i := 0) rfl))) (g := (mkF m 1 #[.val (.int p1), .val (.int p2), .val (.int p3), .val (.int p4), .val (.int p5), .unset, .unset, .unset, .unset, .unset, .unset, .unset, .unset, .unset, .unset, .unset, .unset, .unset, .unset, .unset, .unset, .unset] [(.int p1)])) rfl (hb hby at_1) _ ?_
    show Steps p.tables e below (s₁.setTop (mkF m 3 #[.val (.int p1), .val (.int p2), .val (.int p3), .val (.int p4), .val (.int p5), .unset, .unset, .unset, .unset, .unset, .unset, .unset, .unset, .unset, .unset, .unset, .unset, .unset, .unset, .unset, .unset, .unset] [(.int (2147483647 : Int32)), (.int p1)])) _
    refine XS.iand X0.here hx rfl (hb hby at_3) rfl ?_
    show Steps p.tables e below (s₁.setTop (mkF m 4 #[.val (.int p1), .val (.int p2), .val (.int p3), .val (.int p4), .val (.int p5), .unset, .unset, .unset, .unset, .unset, .unset, .unset, .unset, .unset, .unset, .unset, .unset, .unset, .unset, .unset, .unset, .unset] [(.int (p1 &&& (2147483647 : Int32)))])) _
    refine XT.iconstV X0.here hx rfl (3 : Int32) (hb hby at_4) (by decide) ?_
    show Steps p.tables e below (s₁.setTop (mkF m 5 #[.val (.int p1), .val (.int p2), .val (.int p3), .val (.int p4), .val (.int p5), .unset, .unset, .unset, .unset, .unset, .unset, .unset, .unset, .unset, .unset, .unset, .unset, .unset, .unset, .unset, .unset, .unset] [(.int (3 : Int32)), (.int (p1 &&& (2147483647 : Int32)))])) _
    refine iremM X0 hx rfl (hb hby at_5) rfl (by decide) ?_
    exact k)
  obtain ⟨ln1, e_ln1⟩ : ∃ z, z = ((p1 &&& (2147483647 : Int32)) % (3 : Int32)) := ⟨_, rfl⟩
  rw [← e_ln1] at pre1
  have h_ln1 : own_l3 ln1 := by rw [e_ln1]; exact own_rem _
  have pre2 : ∀ t, Steps p.tables e below (s₁.setTop (mkF m 13 #[.val (.int p1), .val (.int p2), .val (.int p3), .val (.int p4), .val (.int p5), .val (.int ln1), .unset, .unset, .unset, .unset, .unset, .unset, .unset, .unset, .unset, .unset, .unset, .unset, .unset, .unset, .unset, .unset] [(.int (p2 &&& (255 : Int32)))])) t → Steps p.tables e below (s₁.setTop (entryFrame m #[(.int p1), (.int p2), (.int p3), (.int p4), (.int p5)] maxLocals)) t := fun t k => pre1 t (by
    show Steps p.tables e below (s₁.setTop (mkF m 6 #[.val (.int p1), .val (.int p2), .val (.int p3), .val (.int p4), .val (.int p5), .unset, .unset, .unset, .unset, .unset, .unset, .unset, .unset, .unset, .unset, .unset, .unset, .unset, .unset, .unset, .unset, .unset] [(.int ln1)])) _
    refine XS.istore X0.here hx rfl (hb hby at_6) rfl (l' := #[.val (.int p1), .val (.int p2), .val (.int p3), .val (.int p4), .val (.int p5), .val (.int ln1), .unset, .unset, .unset, .unset, .unset, .unset, .unset, .unset, .unset, .unset, .unset, .unset, .unset, .unset, .unset, .unset]) rfl ?_
    show Steps p.tables e below (s₁.setTop (mkF m 8 #[.val (.int p1), .val (.int p2), .val (.int p3), .val (.int p4), .val (.int p5), .val (.int ln1), .unset, .unset, .unset, .unset, .unset, .unset, .unset, .unset, .unset, .unset, .unset, .unset, .unset, .unset, .unset, .unset] [])) _
    refine XS.iloadN X0.here hx rfl (hb hby at_8) rfl ?_
    show Steps p.tables e below (s₁.setTop (mkF m 9 #[.val (.int p1), .val (.int p2), .val (.int p3), .val (.int p4), .val (.int p5), .val (.int ln1), .unset, .unset, .unset, .unset, .unset, .unset, .unset, .unset, .unset, .unset, .unset, .unset, .unset, .unset, .unset, .unset] [(.int p2)])) _
    refine XT.sipushV X0.here hx rfl (255 : Int32) (hb hby at_9) (by decide) ?_
    show Steps p.tables e below (s₁.setTop (mkF m 12 #[.val (.int p1), .val (.int p2), .val (.int p3), .val (.int p4), .val (.int p5), .val (.int ln1), .unset, .unset, .unset, .unset, .unset, .unset, .unset, .unset, .unset, .unset, .unset, .unset, .unset, .unset, .unset, .unset] [(.int (255 : Int32)), (.int p2)])) _
    refine XS.iand X0.here hx rfl (hb hby at_12) rfl ?_
    exact k)
  obtain ⟨x0, e_x0⟩ : ∃ z, z = (p2 &&& (255 : Int32)) := ⟨_, rfl⟩
  rw [← e_x0] at pre2
  have h_x0 : own_ch x0 := by rw [e_x0]; exact own_and255 _
  have pre3 : ∀ t, Steps p.tables e below (s₁.setTop (mkF m 23 #[.val (.int p1), .val (.int p2), .val (.int p3), .val (.int p4), .val (.int p5), .val (.int ln1), .val (.int x0), .unset, .unset, .unset, .unset, .unset, .unset, .unset, .unset, .unset, .unset, .unset, .unset, .unset, .unset, .unset] [(.int (((p2.toUInt32 >>> ((8 : Int32) &&& 31).toUInt32).toInt32) &&& (255 : Int32)))])) t → Steps p.tables e below (s₁.setTop (entryFrame m #[(.int p1), (.int p2), (.int p3), (.int p4), (.int p5)] maxLocals)) t := fun t k => pre2 t (by
    show Steps p.tables e below (s₁.setTop (mkF m 13 #[.val (.int p1), .val (.int p2), .val (.int p3), .val (.int p4), .val (.int p5), .val (.int ln1), .unset, .unset, .unset, .unset, .unset, .unset, .unset, .unset, .unset, .unset, .unset, .unset, .unset, .unset, .unset, .unset] [(.int x0)])) _
    refine XS.istore X0.here hx rfl (hb hby at_13) rfl (l' := #[.val (.int p1), .val (.int p2), .val (.int p3), .val (.int p4), .val (.int p5), .val (.int ln1), .val (.int x0), .unset, .unset, .unset, .unset, .unset, .unset, .unset, .unset, .unset, .unset, .unset, .unset, .unset, .unset, .unset]) rfl ?_
    show Steps p.tables e below (s₁.setTop (mkF m 15 #[.val (.int p1), .val (.int p2), .val (.int p3), .val (.int p4), .val (.int p5), .val (.int ln1), .val (.int x0), .unset, .unset, .unset, .unset, .unset, .unset, .unset, .unset, .unset, .unset, .unset, .unset, .unset, .unset, .unset] [])) _
    refine XS.iloadN X0.here hx rfl (hb hby at_15) rfl ?_
    show Steps p.tables e below (s₁.setTop (mkF m 16 #[.val (.int p1), .val (.int p2), .val (.int p3), .val (.int p4), .val (.int p5), .val (.int ln1), .val (.int x0), .unset, .unset, .unset, .unset, .unset, .unset, .unset, .unset, .unset, .unset, .unset, .unset, .unset, .unset, .unset] [(.int p2)])) _
    refine XT.bipushV X0.here hx rfl (8 : Int32) (hb hby at_16) (by decide) ?_
    show Steps p.tables e below (s₁.setTop (mkF m 18 #[.val (.int p1), .val (.int p2), .val (.int p3), .val (.int p4), .val (.int p5), .val (.int ln1), .val (.int x0), .unset, .unset, .unset, .unset, .unset, .unset, .unset, .unset, .unset, .unset, .unset, .unset, .unset, .unset, .unset] [(.int (8 : Int32)), (.int p2)])) _
    refine XS.iushr X0.here hx rfl (hb hby at_18) rfl ?_
    show Steps p.tables e below (s₁.setTop (mkF m 19 #[.val (.int p1), .val (.int p2), .val (.int p3), .val (.int p4), .val (.int p5), .val (.int ln1), .val (.int x0), .unset, .unset, .unset, .unset, .unset, .unset, .unset, .unset, .unset, .unset, .unset, .unset, .unset, .unset, .unset] [(.int ((p2.toUInt32 >>> ((8 : Int32) &&& 31).toUInt32).toInt32))])) _
    refine XT.sipushV X0.here hx rfl (255 : Int32) (hb hby at_19) (by decide) ?_
    show Steps p.tables e below (s₁.setTop (mkF m 22 #[.val (.int p1), .val (.int p2), .val (.int p3), .val (.int p4), .val (.int p5), .val (.int ln1), .val (.int x0), .unset, .unset, .unset, .unset, .unset, .unset, .unset, .unset, .unset, .unset, .unset, .unset, .unset, .unset, .unset] [(.int (255 : Int32)), (.int ((p2.toUInt32 >>> ((8 : Int32) &&& 31).toUInt32).toInt32))])) _
    refine XS.iand X0.here hx rfl (hb hby at_22) rfl ?_
    exact k)
  obtain ⟨x1, e_x1⟩ : ∃ z, z = (((p2.toUInt32 >>> ((8 : Int32) &&& 31).toUInt32).toInt32) &&& (255 : Int32)) := ⟨_, rfl⟩
  rw [← e_x1] at pre3
  have h_x1 : own_ch x1 := by rw [e_x1]; exact own_and255 _
  have pre4 : ∀ t, Steps p.tables e below (s₁.setTop (mkF m 28 #[.val (.int p1), .val (.int p2), .val (.int p3), .val (.int p4), .val (.int p5), .val (.int ln1), .val (.int x0), .val (.int x1), .unset, .unset, .unset, .unset, .unset, .unset, .unset, .unset, .unset, .unset, .unset, .unset, .unset, .unset] [(.int (p3 &&& (1 : Int32)))])) t → Steps p.tables e below (s₁.setTop (entryFrame m #[(.int p1), (.int p2), (.int p3), (.int p4), (.int p5)] maxLocals)) t := fun t k => pre3 t (by
    show Steps p.tables e below (s₁.setTop (mkF m 23 #[.val (.int p1), .val (.int p2), .val (.int p3), .val (.int p4), .val (.int p5), .val (.int ln1), .val (.int x0), .unset, .unset, .unset, .unset, .unset, .unset, .unset, .unset, .unset, .unset, .unset, .unset, .unset, .unset, .unset] [(.int x1)])) _
    refine XS.istore X0.here hx rfl (hb hby at_23) rfl (l' := #[.val (.int p1), .val (.int p2), .val (.int p3), .val (.int p4), .val (.int p5), .val (.int ln1), .val (.int x0), .val (.int x1), .unset, .unset, .unset, .unset, .unset, .unset, .unset, .unset, .unset, .unset, .unset, .unset, .unset, .unset]) rfl ?_
    show Steps p.tables e below (s₁.setTop (mkF m 25 #[.val (.int p1), .val (.int p2), .val (.int p3), .val (.int p4), .val (.int p5), .val (.int ln1), .val (.int x0), .val (.int x1), .unset, .unset, .unset, .unset, .unset, .unset, .unset, .unset, .unset, .unset, .unset, .unset, .unset, .unset] [])) _
    refine XS.iloadN X0.here hx rfl (hb hby at_25) rfl ?_
    show Steps p.tables e below (s₁.setTop (mkF m 26 #[.val (.int p1), .val (.int p2), .val (.int p3), .val (.int p4), .val (.int p5), .val (.int ln1), .val (.int x0), .val (.int x1), .unset, .unset, .unset, .unset, .unset, .unset, .unset, .unset, .unset, .unset, .unset, .unset, .unset, .unset] [(.int p3)])) _
    refine XT.iconstV X0.here hx rfl (1 : Int32) (hb hby at_26) (by decide) ?_
    show Steps p.tables e below (s₁.setTop (mkF m 27 #[.val (.int p1), .val (.int p2), .val (.int p3), .val (.int p4), .val (.int p5), .val (.int ln1), .val (.int x0), .val (.int x1), .unset, .unset, .unset, .unset, .unset, .unset, .unset, .unset, .unset, .unset, .unset, .unset, .unset, .unset] [(.int (1 : Int32)), (.int p3)])) _
    refine XS.iand X0.here hx rfl (hb hby at_27) rfl ?_
    exact k)
  obtain ⟨y0, h_y0, preM5⟩ : ∃ y0 : Int32, own_ch y0 ∧ ∀ t, Steps p.tables e below (s₁.setTop (mkF m 41 #[.val (.int p1), .val (.int p2), .val (.int p3), .val (.int p4), .val (.int p5), .val (.int ln1), .val (.int x0), .val (.int x1), .unset, .unset, .unset, .unset, .unset, .unset, .unset, .unset, .unset, .unset, .unset, .unset, .unset, .unset] [(.int y0)])) t → Steps p.tables e below (s₁.setTop (entryFrame m #[(.int p1), (.int p2), (.int p3), (.int p4), (.int p5)] maxLocals)) t := by
    by_cases hm28_6 : (p3 &&& (1 : Int32)) = (0 : Int32)
    · have _ := 0
      exact ⟨(p4 &&& (255 : Int32)), own_and255 _, fun t k => pre4 t (by
        show Steps p.tables e below (s₁.setTop (mkF m 28 #[.val (.int p1), .val (.int p2), .val (.int p3), .val (.int p4), .val (.int p5), .val (.int ln1), .val (.int x0), .val (.int x1), .unset, .unset, .unset, .unset, .unset, .unset, .unset, .unset, .unset, .unset, .unset, .unset, .unset, .unset] [(.int (p3 &&& (1 : Int32)))])) _
        refine XS.ifYes X0.here hx rfl (pc0 := 28) (pc' := 36) rfl (hb hby at_28) rfl ((if0 _ _).trans (teq hm28_6).1) (by decide) (by decide) ?_
        show Steps p.tables e below (s₁.setTop (mkF m 36 #[.val (.int p1), .val (.int p2), .val (.int p3), .val (.int p4), .val (.int p5), .val (.int ln1), .val (.int x0), .val (.int x1), .unset, .unset, .unset, .unset, .unset, .unset, .unset, .unset, .unset, .unset, .unset, .unset, .unset, .unset] [])) _
        refine XS.iloadN X0.here hx rfl (hb hby at_36) rfl ?_
        show Steps p.tables e below (s₁.setTop (mkF m 37 #[.val (.int p1), .val (.int p2), .val (.int p3), .val (.int p4), .val (.int p5), .val (.int ln1), .val (.int x0), .val (.int x1), .unset, .unset, .unset, .unset, .unset, .unset, .unset, .unset, .unset, .unset, .unset, .unset, .unset, .unset] [(.int p4)])) _
        refine XT.sipushV X0.here hx rfl (255 : Int32) (hb hby at_37) (by decide) ?_
        show Steps p.tables e below (s₁.setTop (mkF m 40 #[.val (.int p1), .val (.int p2), .val (.int p3), .val (.int p4), .val (.int p5), .val (.int ln1), .val (.int x0), .val (.int x1), .unset, .unset, .unset, .unset, .unset, .unset, .unset, .unset, .unset, .unset, .unset, .unset, .unset, .unset] [(.int (255 : Int32)), (.int p4)])) _
        refine XS.iand X0.here hx rfl (hb hby at_40) rfl ?_
        exact k)⟩
    · have _ := 0
      exact ⟨x0, h_x0, fun t k => pre4 t (by
        show Steps p.tables e below (s₁.setTop (mkF m 28 #[.val (.int p1), .val (.int p2), .val (.int p3), .val (.int p4), .val (.int p5), .val (.int ln1), .val (.int x0), .val (.int x1), .unset, .unset, .unset, .unset, .unset, .unset, .unset, .unset, .unset, .unset, .unset, .unset, .unset, .unset] [(.int (p3 &&& (1 : Int32)))])) _
        refine XS.ifNo X0.here hx rfl (hb hby at_28) rfl ((if0 _ _).trans (feq hm28_6).1) ?_
        show Steps p.tables e below (s₁.setTop (mkF m 31 #[.val (.int p1), .val (.int p2), .val (.int p3), .val (.int p4), .val (.int p5), .val (.int ln1), .val (.int x0), .val (.int x1), .unset, .unset, .unset, .unset, .unset, .unset, .unset, .unset, .unset, .unset, .unset, .unset, .unset, .unset] [])) _
        refine XS.iload X0.here hx rfl (hb hby at_31) rfl ?_
        show Steps p.tables e below (s₁.setTop (mkF m 33 #[.val (.int p1), .val (.int p2), .val (.int p3), .val (.int p4), .val (.int p5), .val (.int ln1), .val (.int x0), .val (.int x1), .unset, .unset, .unset, .unset, .unset, .unset, .unset, .unset, .unset, .unset, .unset, .unset, .unset, .unset] [(.int x0)])) _
        refine XS.goto X0.here hx rfl (pc0 := 33) (pc' := 41) rfl (hb hby at_33) (by decide) (by decide) ?_
        exact k)⟩
  have pre7 : ∀ t, Steps p.tables e below (s₁.setTop (mkF m 46 #[.val (.int p1), .val (.int p2), .val (.int p3), .val (.int p4), .val (.int p5), .val (.int ln1), .val (.int x0), .val (.int x1), .val (.int y0), .unset, .unset, .unset, .unset, .unset, .unset, .unset, .unset, .unset, .unset, .unset, .unset, .unset] [(.int (p3 &&& (2 : Int32)))])) t → Steps p.tables e below (s₁.setTop (entryFrame m #[(.int p1), (.int p2), (.int p3), (.int p4), (.int p5)] maxLocals)) t := fun t k => preM5 t (by
    show Steps p.tables e below (s₁.setTop (mkF m 41 #[.val (.int p1), .val (.int p2), .val (.int p3), .val (.int p4), .val (.int p5), .val (.int ln1), .val (.int x0), .val (.int x1), .unset, .unset, .unset, .unset, .unset, .unset, .unset, .unset, .unset, .unset, .unset, .unset, .unset, .unset] [(.int y0)])) _
    refine XS.istore X0.here hx rfl (hb hby at_41) rfl (l' := #[.val (.int p1), .val (.int p2), .val (.int p3), .val (.int p4), .val (.int p5), .val (.int ln1), .val (.int x0), .val (.int x1), .val (.int y0), .unset, .unset, .unset, .unset, .unset, .unset, .unset, .unset, .unset, .unset, .unset, .unset, .unset]) rfl ?_
    show Steps p.tables e below (s₁.setTop (mkF m 43 #[.val (.int p1), .val (.int p2), .val (.int p3), .val (.int p4), .val (.int p5), .val (.int ln1), .val (.int x0), .val (.int x1), .val (.int y0), .unset, .unset, .unset, .unset, .unset, .unset, .unset, .unset, .unset, .unset, .unset, .unset, .unset] [])) _
    refine XS.iloadN X0.here hx rfl (hb hby at_43) rfl ?_
    show Steps p.tables e below (s₁.setTop (mkF m 44 #[.val (.int p1), .val (.int p2), .val (.int p3), .val (.int p4), .val (.int p5), .val (.int ln1), .val (.int x0), .val (.int x1), .val (.int y0), .unset, .unset, .unset, .unset, .unset, .unset, .unset, .unset, .unset, .unset, .unset, .unset, .unset] [(.int p3)])) _
    refine XT.iconstV X0.here hx rfl (2 : Int32) (hb hby at_44) (by decide) ?_
    show Steps p.tables e below (s₁.setTop (mkF m 45 #[.val (.int p1), .val (.int p2), .val (.int p3), .val (.int p4), .val (.int p5), .val (.int ln1), .val (.int x0), .val (.int x1), .val (.int y0), .unset, .unset, .unset, .unset, .unset, .unset, .unset, .unset, .unset, .unset, .unset, .unset, .unset] [(.int (2 : Int32)), (.int p3)])) _
    refine XS.iand X0.here hx rfl (hb hby at_45) rfl ?_
    exact k)
  obtain ⟨y1, h_y1, preM8⟩ : ∃ y1 : Int32, own_ch y1 ∧ ∀ t, Steps p.tables e below (s₁.setTop (mkF m 62 #[.val (.int p1), .val (.int p2), .val (.int p3), .val (.int p4), .val (.int p5), .val (.int ln1), .val (.int x0), .val (.int x1), .val (.int y0), .unset, .unset, .unset, .unset, .unset, .unset, .unset, .unset, .unset, .unset, .unset, .unset, .unset] [(.int y1)])) t → Steps p.tables e below (s₁.setTop (entryFrame m #[(.int p1), (.int p2), (.int p3), (.int p4), (.int p5)] maxLocals)) t := by
    by_cases hm46_9 : (p3 &&& (2 : Int32)) = (0 : Int32)
    · have _ := 0
      exact ⟨(((p4.toUInt32 >>> ((8 : Int32) &&& 31).toUInt32).toInt32) &&& (255 : Int32)), own_and255 _, fun t k => pre7 t (by
        show Steps p.tables e below (s₁.setTop (mkF m 46 #[.val (.int p1), .val (.int p2), .val (.int p3), .val (.int p4), .val (.int p5), .val (.int ln1), .val (.int x0), .val (.int x1), .val (.int y0), .unset, .unset, .unset, .unset, .unset, .unset, .unset, .unset, .unset, .unset, .unset, .unset, .unset] [(.int (p3 &&& (2 : Int32)))])) _
        refine XS.ifYes X0.here hx rfl (pc0 := 46) (pc' := 54) rfl (hb hby at_46) rfl ((if0 _ _).trans (teq hm46_9).1) (by decide) (by decide) ?_
        show Steps p.tables e below (s₁.setTop (mkF m 54 #[.val (.int p1), .val (.int p2), .val (.int p3), .val (.int p4), .val (.int p5), .val (.int ln1), .val (.int x0), .val (.int x1), .val (.int y0), .unset, .unset, .unset, .unset, .unset, .unset, .unset, .unset, .unset, .unset, .unset, .unset, .unset] [])) _
        refine XS.iloadN X0.here hx rfl (hb hby at_54) rfl ?_
        show Steps p.tables e below (s₁.setTop (mkF m 55 #[.val (.int p1), .val (.int p2), .val (.int p3), .val (.int p4), .val (.int p5), .val (.int ln1), .val (.int x0), .val (.int x1), .val (.int y0), .unset, .unset, .unset, .unset, .unset, .unset, .unset, .unset, .unset, .unset, .unset, .unset, .unset] [(.int p4)])) _
        refine XT.bipushV X0.here hx rfl (8 : Int32) (hb hby at_55) (by decide) ?_
        show Steps p.tables e below (s₁.setTop (mkF m 57 #[.val (.int p1), .val (.int p2), .val (.int p3), .val (.int p4), .val (.int p5), .val (.int ln1), .val (.int x0), .val (.int x1), .val (.int y0), .unset, .unset, .unset, .unset, .unset, .unset, .unset, .unset, .unset, .unset, .unset, .unset, .unset] [(.int (8 : Int32)), (.int p4)])) _
        refine XS.iushr X0.here hx rfl (hb hby at_57) rfl ?_
        show Steps p.tables e below (s₁.setTop (mkF m 58 #[.val (.int p1), .val (.int p2), .val (.int p3), .val (.int p4), .val (.int p5), .val (.int ln1), .val (.int x0), .val (.int x1), .val (.int y0), .unset, .unset, .unset, .unset, .unset, .unset, .unset, .unset, .unset, .unset, .unset, .unset, .unset] [(.int ((p4.toUInt32 >>> ((8 : Int32) &&& 31).toUInt32).toInt32))])) _
        refine XT.sipushV X0.here hx rfl (255 : Int32) (hb hby at_58) (by decide) ?_
        show Steps p.tables e below (s₁.setTop (mkF m 61 #[.val (.int p1), .val (.int p2), .val (.int p3), .val (.int p4), .val (.int p5), .val (.int ln1), .val (.int x0), .val (.int x1), .val (.int y0), .unset, .unset, .unset, .unset, .unset, .unset, .unset, .unset, .unset, .unset, .unset, .unset, .unset] [(.int (255 : Int32)), (.int ((p4.toUInt32 >>> ((8 : Int32) &&& 31).toUInt32).toInt32))])) _
        refine XS.iand X0.here hx rfl (hb hby at_61) rfl ?_
        exact k)⟩
    · have _ := 0
      exact ⟨x1, h_x1, fun t k => pre7 t (by
        show Steps p.tables e below (s₁.setTop (mkF m 46 #[.val (.int p1), .val (.int p2), .val (.int p3), .val (.int p4), .val (.int p5), .val (.int ln1), .val (.int x0), .val (.int x1), .val (.int y0), .unset, .unset, .unset, .unset, .unset, .unset, .unset, .unset, .unset, .unset, .unset, .unset, .unset] [(.int (p3 &&& (2 : Int32)))])) _
        refine XS.ifNo X0.here hx rfl (hb hby at_46) rfl ((if0 _ _).trans (feq hm46_9).1) ?_
        show Steps p.tables e below (s₁.setTop (mkF m 49 #[.val (.int p1), .val (.int p2), .val (.int p3), .val (.int p4), .val (.int p5), .val (.int ln1), .val (.int x0), .val (.int x1), .val (.int y0), .unset, .unset, .unset, .unset, .unset, .unset, .unset, .unset, .unset, .unset, .unset, .unset, .unset] [])) _
        refine XS.iload X0.here hx rfl (hb hby at_49) rfl ?_
        show Steps p.tables e below (s₁.setTop (mkF m 51 #[.val (.int p1), .val (.int p2), .val (.int p3), .val (.int p4), .val (.int p5), .val (.int ln1), .val (.int x0), .val (.int x1), .val (.int y0), .unset, .unset, .unset, .unset, .unset, .unset, .unset, .unset, .unset, .unset, .unset, .unset, .unset] [(.int x1)])) _
        refine XS.goto X0.here hx rfl (pc0 := 51) (pc' := 62) rfl (hb hby at_51) (by decide) (by decide) ?_
        exact k)⟩
  have pre10 : ∀ t, Steps p.tables e below (s₁.setTop (mkF m 67 #[.val (.int p1), .val (.int p2), .val (.int p3), .val (.int p4), .val (.int p5), .val (.int ln1), .val (.int x0), .val (.int x1), .val (.int y0), .val (.int y1), .unset, .unset, .unset, .unset, .unset, .unset, .unset, .unset, .unset, .unset, .unset, .unset] [(.int (p3 &&& (4 : Int32)))])) t → Steps p.tables e below (s₁.setTop (entryFrame m #[(.int p1), (.int p2), (.int p3), (.int p4), (.int p5)] maxLocals)) t := fun t k => preM8 t (by
    show Steps p.tables e below (s₁.setTop (mkF m 62 #[.val (.int p1), .val (.int p2), .val (.int p3), .val (.int p4), .val (.int p5), .val (.int ln1), .val (.int x0), .val (.int x1), .val (.int y0), .unset, .unset, .unset, .unset, .unset, .unset, .unset, .unset, .unset, .unset, .unset, .unset, .unset] [(.int y1)])) _
    refine XS.istore X0.here hx rfl (hb hby at_62) rfl (l' := #[.val (.int p1), .val (.int p2), .val (.int p3), .val (.int p4), .val (.int p5), .val (.int ln1), .val (.int x0), .val (.int x1), .val (.int y0), .val (.int y1), .unset, .unset, .unset, .unset, .unset, .unset, .unset, .unset, .unset, .unset, .unset, .unset]) rfl ?_
    show Steps p.tables e below (s₁.setTop (mkF m 64 #[.val (.int p1), .val (.int p2), .val (.int p3), .val (.int p4), .val (.int p5), .val (.int ln1), .val (.int x0), .val (.int x1), .val (.int y0), .val (.int y1), .unset, .unset, .unset, .unset, .unset, .unset, .unset, .unset, .unset, .unset, .unset, .unset] [])) _
    refine XS.iloadN X0.here hx rfl (hb hby at_64) rfl ?_
    show Steps p.tables e below (s₁.setTop (mkF m 65 #[.val (.int p1), .val (.int p2), .val (.int p3), .val (.int p4), .val (.int p5), .val (.int ln1), .val (.int x0), .val (.int x1), .val (.int y0), .val (.int y1), .unset, .unset, .unset, .unset, .unset, .unset, .unset, .unset, .unset, .unset, .unset, .unset] [(.int p3)])) _
    refine XT.iconstV X0.here hx rfl (4 : Int32) (hb hby at_65) (by decide) ?_
    show Steps p.tables e below (s₁.setTop (mkF m 66 #[.val (.int p1), .val (.int p2), .val (.int p3), .val (.int p4), .val (.int p5), .val (.int ln1), .val (.int x0), .val (.int x1), .val (.int y0), .val (.int y1), .unset, .unset, .unset, .unset, .unset, .unset, .unset, .unset, .unset, .unset, .unset, .unset] [(.int (4 : Int32)), (.int p3)])) _
    refine XS.iand X0.here hx rfl (hb hby at_66) rfl ?_
    exact k)
  obtain ⟨ln2, h_ln2, preM11⟩ : ∃ ln2 : Int32, own_l3 ln2 ∧ ∀ t, Steps p.tables e below (s₁.setTop (mkF m 83 #[.val (.int p1), .val (.int p2), .val (.int p3), .val (.int p4), .val (.int p5), .val (.int ln1), .val (.int x0), .val (.int x1), .val (.int y0), .val (.int y1), .unset, .unset, .unset, .unset, .unset, .unset, .unset, .unset, .unset, .unset, .unset, .unset] [(.int ln2)])) t → Steps p.tables e below (s₁.setTop (entryFrame m #[(.int p1), (.int p2), (.int p3), (.int p4), (.int p5)] maxLocals)) t := by
    by_cases hm67_12 : (p3 &&& (4 : Int32)) = (0 : Int32)
    · have _ := 0
      exact ⟨((((p3.toUInt32 >>> ((3 : Int32) &&& 31).toUInt32).toInt32) &&& (2147483647 : Int32)) % (3 : Int32)), own_rem _, fun t k => pre10 t (by
        show Steps p.tables e below (s₁.setTop (mkF m 67 #[.val (.int p1), .val (.int p2), .val (.int p3), .val (.int p4), .val (.int p5), .val (.int ln1), .val (.int x0), .val (.int x1), .val (.int y0), .val (.int y1), .unset, .unset, .unset, .unset, .unset, .unset, .unset, .unset, .unset, .unset, .unset, .unset] [(.int (p3 &&& (4 : Int32)))])) _
        refine XS.ifYes X0.here hx rfl (pc0 := 67) (pc' := 75) rfl (hb hby at_67) rfl ((if0 _ _).trans (teq hm67_12).1) (by decide) (by decide) ?_
        show Steps p.tables e below (s₁.setTop (mkF m 75 #[.val (.int p1), .val (.int p2), .val (.int p3), .val (.int p4), .val (.int p5), .val (.int ln1), .val (.int x0), .val (.int x1), .val (.int y0), .val (.int y1), .unset, .unset, .unset, .unset, .unset, .unset, .unset, .unset, .unset, .unset, .unset, .unset] [])) _
        refine XS.iloadN X0.here hx rfl (hb hby at_75) rfl ?_
        show Steps p.tables e below (s₁.setTop (mkF m 76 #[.val (.int p1), .val (.int p2), .val (.int p3), .val (.int p4), .val (.int p5), .val (.int ln1), .val (.int x0), .val (.int x1), .val (.int y0), .val (.int y1), .unset, .unset, .unset, .unset, .unset, .unset, .unset, .unset, .unset, .unset, .unset, .unset] [(.int p3)])) _
        refine XT.iconstV X0.here hx rfl (3 : Int32) (hb hby at_76) (by decide) ?_
        show Steps p.tables e below (s₁.setTop (mkF m 77 #[.val (.int p1), .val (.int p2), .val (.int p3), .val (.int p4), .val (.int p5), .val (.int ln1), .val (.int x0), .val (.int x1), .val (.int y0), .val (.int y1), .unset, .unset, .unset, .unset, .unset, .unset, .unset, .unset, .unset, .unset, .unset, .unset] [(.int (3 : Int32)), (.int p3)])) _
        refine XS.iushr X0.here hx rfl (hb hby at_77) rfl ?_
        show Steps p.tables e below (s₁.setTop (mkF m 78 #[.val (.int p1), .val (.int p2), .val (.int p3), .val (.int p4), .val (.int p5), .val (.int ln1), .val (.int x0), .val (.int x1), .val (.int y0), .val (.int y1), .unset, .unset, .unset, .unset, .unset, .unset, .unset, .unset, .unset, .unset, .unset, .unset] [(.int ((p3.toUInt32 >>> ((3 : Int32) &&& 31).toUInt32).toInt32))])) _
        refine X0.ldcInt hx hown (mvT hZ (hw _ (List.mem_of_getElem? (i := 0) rfl))) (g := (mkF m 78 #[.val (.int p1), .val (.int p2), .val (.int p3), .val (.int p4), .val (.int p5), .val (.int ln1), .val (.int x0), .val (.int x1), .val (.int y0), .val (.int y1), .unset, .unset, .unset, .unset, .unset, .unset, .unset, .unset, .unset, .unset, .unset, .unset] [(.int ((p3.toUInt32 >>> ((3 : Int32) &&& 31).toUInt32).toInt32))])) rfl (hb hby at_78) _ ?_
        show Steps p.tables e below (s₁.setTop (mkF m 80 #[.val (.int p1), .val (.int p2), .val (.int p3), .val (.int p4), .val (.int p5), .val (.int ln1), .val (.int x0), .val (.int x1), .val (.int y0), .val (.int y1), .unset, .unset, .unset, .unset, .unset, .unset, .unset, .unset, .unset, .unset, .unset, .unset] [(.int (2147483647 : Int32)), (.int ((p3.toUInt32 >>> ((3 : Int32) &&& 31).toUInt32).toInt32))])) _
        refine XS.iand X0.here hx rfl (hb hby at_80) rfl ?_
        show Steps p.tables e below (s₁.setTop (mkF m 81 #[.val (.int p1), .val (.int p2), .val (.int p3), .val (.int p4), .val (.int p5), .val (.int ln1), .val (.int x0), .val (.int x1), .val (.int y0), .val (.int y1), .unset, .unset, .unset, .unset, .unset, .unset, .unset, .unset, .unset, .unset, .unset, .unset] [(.int (((p3.toUInt32 >>> ((3 : Int32) &&& 31).toUInt32).toInt32) &&& (2147483647 : Int32)))])) _
        refine XT.iconstV X0.here hx rfl (3 : Int32) (hb hby at_81) (by decide) ?_
        show Steps p.tables e below (s₁.setTop (mkF m 82 #[.val (.int p1), .val (.int p2), .val (.int p3), .val (.int p4), .val (.int p5), .val (.int ln1), .val (.int x0), .val (.int x1), .val (.int y0), .val (.int y1), .unset, .unset, .unset, .unset, .unset, .unset, .unset, .unset, .unset, .unset, .unset, .unset] [(.int (3 : Int32)), (.int (((p3.toUInt32 >>> ((3 : Int32) &&& 31).toUInt32).toInt32) &&& (2147483647 : Int32)))])) _
        refine iremM X0 hx rfl (hb hby at_82) rfl (by decide) ?_
        exact k)⟩
    · have _ := 0
      exact ⟨ln1, h_ln1, fun t k => pre10 t (by
        show Steps p.tables e below (s₁.setTop (mkF m 67 #[.val (.int p1), .val (.int p2), .val (.int p3), .val (.int p4), .val (.int p5), .val (.int ln1), .val (.int x0), .val (.int x1), .val (.int y0), .val (.int y1), .unset, .unset, .unset, .unset, .unset, .unset, .unset, .unset, .unset, .unset, .unset, .unset] [(.int (p3 &&& (4 : Int32)))])) _
        refine XS.ifNo X0.here hx rfl (hb hby at_67) rfl ((if0 _ _).trans (feq hm67_12).1) ?_
        show Steps p.tables e below (s₁.setTop (mkF m 70 #[.val (.int p1), .val (.int p2), .val (.int p3), .val (.int p4), .val (.int p5), .val (.int ln1), .val (.int x0), .val (.int x1), .val (.int y0), .val (.int y1), .unset, .unset, .unset, .unset, .unset, .unset, .unset, .unset, .unset, .unset, .unset, .unset] [])) _
        refine XS.iload X0.here hx rfl (hb hby at_70) rfl ?_
        show Steps p.tables e below (s₁.setTop (mkF m 72 #[.val (.int p1), .val (.int p2), .val (.int p3), .val (.int p4), .val (.int p5), .val (.int ln1), .val (.int x0), .val (.int x1), .val (.int y0), .val (.int y1), .unset, .unset, .unset, .unset, .unset, .unset, .unset, .unset, .unset, .unset, .unset, .unset] [(.int ln1)])) _
        refine XS.goto X0.here hx rfl (pc0 := 72) (pc' := 83) rfl (hb hby at_72) (by decide) (by decide) ?_
        exact k)⟩
  have pre13 : ∀ t, Steps p.tables e below (s₁.setTop (mkF m 89 #[.val (.int p1), .val (.int p2), .val (.int p3), .val (.int p4), .val (.int p5), .val (.int ln1), .val (.int x0), .val (.int x1), .val (.int y0), .val (.int y1), .val (.int ln2), .unset, .unset, .unset, .unset, .unset, .unset, .unset, .unset, .unset, .unset, .unset] [(.int (p5 &&& (1 : Int32)))])) t → Steps p.tables e below (s₁.setTop (entryFrame m #[(.int p1), (.int p2), (.int p3), (.int p4), (.int p5)] maxLocals)) t := fun t k => preM11 t (by
    show Steps p.tables e below (s₁.setTop (mkF m 83 #[.val (.int p1), .val (.int p2), .val (.int p3), .val (.int p4), .val (.int p5), .val (.int ln1), .val (.int x0), .val (.int x1), .val (.int y0), .val (.int y1), .unset, .unset, .unset, .unset, .unset, .unset, .unset, .unset, .unset, .unset, .unset, .unset] [(.int ln2)])) _
    refine XS.istore X0.here hx rfl (hb hby at_83) rfl (l' := #[.val (.int p1), .val (.int p2), .val (.int p3), .val (.int p4), .val (.int p5), .val (.int ln1), .val (.int x0), .val (.int x1), .val (.int y0), .val (.int y1), .val (.int ln2), .unset, .unset, .unset, .unset, .unset, .unset, .unset, .unset, .unset, .unset, .unset]) rfl ?_
    show Steps p.tables e below (s₁.setTop (mkF m 85 #[.val (.int p1), .val (.int p2), .val (.int p3), .val (.int p4), .val (.int p5), .val (.int ln1), .val (.int x0), .val (.int x1), .val (.int y0), .val (.int y1), .val (.int ln2), .unset, .unset, .unset, .unset, .unset, .unset, .unset, .unset, .unset, .unset, .unset] [])) _
    refine XS.iload X0.here hx rfl (hb hby at_85) rfl ?_
    show Steps p.tables e below (s₁.setTop (mkF m 87 #[.val (.int p1), .val (.int p2), .val (.int p3), .val (.int p4), .val (.int p5), .val (.int ln1), .val (.int x0), .val (.int x1), .val (.int y0), .val (.int y1), .val (.int ln2), .unset, .unset, .unset, .unset, .unset, .unset, .unset, .unset, .unset, .unset, .unset] [(.int p5)])) _
    refine XT.iconstV X0.here hx rfl (1 : Int32) (hb hby at_87) (by decide) ?_
    show Steps p.tables e below (s₁.setTop (mkF m 88 #[.val (.int p1), .val (.int p2), .val (.int p3), .val (.int p4), .val (.int p5), .val (.int ln1), .val (.int x0), .val (.int x1), .val (.int y0), .val (.int y1), .val (.int ln2), .unset, .unset, .unset, .unset, .unset, .unset, .unset, .unset, .unset, .unset, .unset] [(.int (1 : Int32)), (.int p5)])) _
    refine XS.iand X0.here hx rfl (hb hby at_88) rfl ?_
    exact k)
  obtain ⟨bo1, h_bo1, preM14⟩ : ∃ bo1 : Int32, own_bo bo1 ∧ ∀ t, Steps p.tables e below (s₁.setTop (mkF m 97 #[.val (.int p1), .val (.int p2), .val (.int p3), .val (.int p4), .val (.int p5), .val (.int ln1), .val (.int x0), .val (.int x1), .val (.int y0), .val (.int y1), .val (.int ln2), .unset, .unset, .unset, .unset, .unset, .unset, .unset, .unset, .unset, .unset, .unset] [(.int bo1)])) t → Steps p.tables e below (s₁.setTop (entryFrame m #[(.int p1), (.int p2), (.int p3), (.int p4), (.int p5)] maxLocals)) t := by
    by_cases hm89_15 : (p5 &&& (1 : Int32)) = (0 : Int32)
    · have _ := 0
      exact ⟨(0 : Int32), Or.inl rfl, fun t k => pre13 t (by
        show Steps p.tables e below (s₁.setTop (mkF m 89 #[.val (.int p1), .val (.int p2), .val (.int p3), .val (.int p4), .val (.int p5), .val (.int ln1), .val (.int x0), .val (.int x1), .val (.int y0), .val (.int y1), .val (.int ln2), .unset, .unset, .unset, .unset, .unset, .unset, .unset, .unset, .unset, .unset, .unset] [(.int (p5 &&& (1 : Int32)))])) _
        refine XS.ifYes X0.here hx rfl (pc0 := 89) (pc' := 96) rfl (hb hby at_89) rfl ((if0 _ _).trans (teq hm89_15).1) (by decide) (by decide) ?_
        show Steps p.tables e below (s₁.setTop (mkF m 96 #[.val (.int p1), .val (.int p2), .val (.int p3), .val (.int p4), .val (.int p5), .val (.int ln1), .val (.int x0), .val (.int x1), .val (.int y0), .val (.int y1), .val (.int ln2), .unset, .unset, .unset, .unset, .unset, .unset, .unset, .unset, .unset, .unset, .unset] [])) _
        refine XT.iconstV X0.here hx rfl (0 : Int32) (hb hby at_96) (by decide) ?_
        exact k)⟩
    · have _ := 0
      exact ⟨(1 : Int32), Or.inr rfl, fun t k => pre13 t (by
        show Steps p.tables e below (s₁.setTop (mkF m 89 #[.val (.int p1), .val (.int p2), .val (.int p3), .val (.int p4), .val (.int p5), .val (.int ln1), .val (.int x0), .val (.int x1), .val (.int y0), .val (.int y1), .val (.int ln2), .unset, .unset, .unset, .unset, .unset, .unset, .unset, .unset, .unset, .unset, .unset] [(.int (p5 &&& (1 : Int32)))])) _
        refine XS.ifNo X0.here hx rfl (hb hby at_89) rfl ((if0 _ _).trans (feq hm89_15).1) ?_
        show Steps p.tables e below (s₁.setTop (mkF m 92 #[.val (.int p1), .val (.int p2), .val (.int p3), .val (.int p4), .val (.int p5), .val (.int ln1), .val (.int x0), .val (.int x1), .val (.int y0), .val (.int y1), .val (.int ln2), .unset, .unset, .unset, .unset, .unset, .unset, .unset, .unset, .unset, .unset, .unset] [])) _
        refine XT.iconstV X0.here hx rfl (1 : Int32) (hb hby at_92) (by decide) ?_
        show Steps p.tables e below (s₁.setTop (mkF m 93 #[.val (.int p1), .val (.int p2), .val (.int p3), .val (.int p4), .val (.int p5), .val (.int ln1), .val (.int x0), .val (.int x1), .val (.int y0), .val (.int y1), .val (.int ln2), .unset, .unset, .unset, .unset, .unset, .unset, .unset, .unset, .unset, .unset, .unset] [(.int (1 : Int32))])) _
        refine XS.goto X0.here hx rfl (pc0 := 93) (pc' := 97) rfl (hb hby at_93) (by decide) (by decide) ?_
        exact k)⟩
  have pre16 : ∀ t, Steps p.tables e below (s₁.setTop (mkF m 103 #[.val (.int p1), .val (.int p2), .val (.int p3), .val (.int p4), .val (.int p5), .val (.int ln1), .val (.int x0), .val (.int x1), .val (.int y0), .val (.int y1), .val (.int ln2), .val (.int bo1), .unset, .unset, .unset, .unset, .unset, .unset, .unset, .unset, .unset, .unset] [(.int (p5 &&& (2 : Int32)))])) t → Steps p.tables e below (s₁.setTop (entryFrame m #[(.int p1), (.int p2), (.int p3), (.int p4), (.int p5)] maxLocals)) t := fun t k => preM14 t (by
    show Steps p.tables e below (s₁.setTop (mkF m 97 #[.val (.int p1), .val (.int p2), .val (.int p3), .val (.int p4), .val (.int p5), .val (.int ln1), .val (.int x0), .val (.int x1), .val (.int y0), .val (.int y1), .val (.int ln2), .unset, .unset, .unset, .unset, .unset, .unset, .unset, .unset, .unset, .unset, .unset] [(.int bo1)])) _
    refine XS.istore X0.here hx rfl (hb hby at_97) rfl (l' := #[.val (.int p1), .val (.int p2), .val (.int p3), .val (.int p4), .val (.int p5), .val (.int ln1), .val (.int x0), .val (.int x1), .val (.int y0), .val (.int y1), .val (.int ln2), .val (.int bo1), .unset, .unset, .unset, .unset, .unset, .unset, .unset, .unset, .unset, .unset]) rfl ?_
    show Steps p.tables e below (s₁.setTop (mkF m 99 #[.val (.int p1), .val (.int p2), .val (.int p3), .val (.int p4), .val (.int p5), .val (.int ln1), .val (.int x0), .val (.int x1), .val (.int y0), .val (.int y1), .val (.int ln2), .val (.int bo1), .unset, .unset, .unset, .unset, .unset, .unset, .unset, .unset, .unset, .unset] [])) _
    refine XS.iload X0.here hx rfl (hb hby at_99) rfl ?_
    show Steps p.tables e below (s₁.setTop (mkF m 101 #[.val (.int p1), .val (.int p2), .val (.int p3), .val (.int p4), .val (.int p5), .val (.int ln1), .val (.int x0), .val (.int x1), .val (.int y0), .val (.int y1), .val (.int ln2), .val (.int bo1), .unset, .unset, .unset, .unset, .unset, .unset, .unset, .unset, .unset, .unset] [(.int p5)])) _
    refine XT.iconstV X0.here hx rfl (2 : Int32) (hb hby at_101) (by decide) ?_
    show Steps p.tables e below (s₁.setTop (mkF m 102 #[.val (.int p1), .val (.int p2), .val (.int p3), .val (.int p4), .val (.int p5), .val (.int ln1), .val (.int x0), .val (.int x1), .val (.int y0), .val (.int y1), .val (.int ln2), .val (.int bo1), .unset, .unset, .unset, .unset, .unset, .unset, .unset, .unset, .unset, .unset] [(.int (2 : Int32)), (.int p5)])) _
    refine XS.iand X0.here hx rfl (hb hby at_102) rfl ?_
    exact k)
  obtain ⟨bo2, h_bo2, preM17⟩ : ∃ bo2 : Int32, own_bo bo2 ∧ ∀ t, Steps p.tables e below (s₁.setTop (mkF m 111 #[.val (.int p1), .val (.int p2), .val (.int p3), .val (.int p4), .val (.int p5), .val (.int ln1), .val (.int x0), .val (.int x1), .val (.int y0), .val (.int y1), .val (.int ln2), .val (.int bo1), .unset, .unset, .unset, .unset, .unset, .unset, .unset, .unset, .unset, .unset] [(.int bo2)])) t → Steps p.tables e below (s₁.setTop (entryFrame m #[(.int p1), (.int p2), (.int p3), (.int p4), (.int p5)] maxLocals)) t := by
    by_cases hm103_18 : (p5 &&& (2 : Int32)) = (0 : Int32)
    · have _ := 0
      exact ⟨(0 : Int32), Or.inl rfl, fun t k => pre16 t (by
        show Steps p.tables e below (s₁.setTop (mkF m 103 #[.val (.int p1), .val (.int p2), .val (.int p3), .val (.int p4), .val (.int p5), .val (.int ln1), .val (.int x0), .val (.int x1), .val (.int y0), .val (.int y1), .val (.int ln2), .val (.int bo1), .unset, .unset, .unset, .unset, .unset, .unset, .unset, .unset, .unset, .unset] [(.int (p5 &&& (2 : Int32)))])) _
        refine XS.ifYes X0.here hx rfl (pc0 := 103) (pc' := 110) rfl (hb hby at_103) rfl ((if0 _ _).trans (teq hm103_18).1) (by decide) (by decide) ?_
        show Steps p.tables e below (s₁.setTop (mkF m 110 #[.val (.int p1), .val (.int p2), .val (.int p3), .val (.int p4), .val (.int p5), .val (.int ln1), .val (.int x0), .val (.int x1), .val (.int y0), .val (.int y1), .val (.int ln2), .val (.int bo1), .unset, .unset, .unset, .unset, .unset, .unset, .unset, .unset, .unset, .unset] [])) _
        refine XT.iconstV X0.here hx rfl (0 : Int32) (hb hby at_110) (by decide) ?_
        exact k)⟩
    · have _ := 0
      exact ⟨(1 : Int32), Or.inr rfl, fun t k => pre16 t (by
        show Steps p.tables e below (s₁.setTop (mkF m 103 #[.val (.int p1), .val (.int p2), .val (.int p3), .val (.int p4), .val (.int p5), .val (.int ln1), .val (.int x0), .val (.int x1), .val (.int y0), .val (.int y1), .val (.int ln2), .val (.int bo1), .unset, .unset, .unset, .unset, .unset, .unset, .unset, .unset, .unset, .unset] [(.int (p5 &&& (2 : Int32)))])) _
        refine XS.ifNo X0.here hx rfl (hb hby at_103) rfl ((if0 _ _).trans (feq hm103_18).1) ?_
        show Steps p.tables e below (s₁.setTop (mkF m 106 #[.val (.int p1), .val (.int p2), .val (.int p3), .val (.int p4), .val (.int p5), .val (.int ln1), .val (.int x0), .val (.int x1), .val (.int y0), .val (.int y1), .val (.int ln2), .val (.int bo1), .unset, .unset, .unset, .unset, .unset, .unset, .unset, .unset, .unset, .unset] [])) _
        refine XT.iconstV X0.here hx rfl (1 : Int32) (hb hby at_106) (by decide) ?_
        show Steps p.tables e below (s₁.setTop (mkF m 107 #[.val (.int p1), .val (.int p2), .val (.int p3), .val (.int p4), .val (.int p5), .val (.int ln1), .val (.int x0), .val (.int x1), .val (.int y0), .val (.int y1), .val (.int ln2), .val (.int bo1), .unset, .unset, .unset, .unset, .unset, .unset, .unset, .unset, .unset, .unset] [(.int (1 : Int32))])) _
        refine XS.goto X0.here hx rfl (pc0 := 107) (pc' := 111) rfl (hb hby at_107) (by decide) (by decide) ?_
        exact k)⟩
  have pre19 : ∀ t, Steps p.tables e below (s₁.setTop (mkF m 119 #[.val (.int p1), .val (.int p2), .val (.int p3), .val (.int p4), .val (.int p5), .val (.int ln1), .val (.int x0), .val (.int x1), .val (.int y0), .val (.int y1), .val (.int ln2), .val (.int bo1), .val (.int bo2), .unset, .unset, .unset, .unset, .unset, .unset, .unset, .unset, .unset] [(.int (((p5.toUInt32 >>> ((2 : Int32) &&& 31).toUInt32).toInt32) &&& (3 : Int32)))])) t → Steps p.tables e below (s₁.setTop (entryFrame m #[(.int p1), (.int p2), (.int p3), (.int p4), (.int p5)] maxLocals)) t := fun t k => preM17 t (by
    show Steps p.tables e below (s₁.setTop (mkF m 111 #[.val (.int p1), .val (.int p2), .val (.int p3), .val (.int p4), .val (.int p5), .val (.int ln1), .val (.int x0), .val (.int x1), .val (.int y0), .val (.int y1), .val (.int ln2), .val (.int bo1), .unset, .unset, .unset, .unset, .unset, .unset, .unset, .unset, .unset, .unset] [(.int bo2)])) _
    refine XS.istore X0.here hx rfl (hb hby at_111) rfl (l' := #[.val (.int p1), .val (.int p2), .val (.int p3), .val (.int p4), .val (.int p5), .val (.int ln1), .val (.int x0), .val (.int x1), .val (.int y0), .val (.int y1), .val (.int ln2), .val (.int bo1), .val (.int bo2), .unset, .unset, .unset, .unset, .unset, .unset, .unset, .unset, .unset]) rfl ?_
    show Steps p.tables e below (s₁.setTop (mkF m 113 #[.val (.int p1), .val (.int p2), .val (.int p3), .val (.int p4), .val (.int p5), .val (.int ln1), .val (.int x0), .val (.int x1), .val (.int y0), .val (.int y1), .val (.int ln2), .val (.int bo1), .val (.int bo2), .unset, .unset, .unset, .unset, .unset, .unset, .unset, .unset, .unset] [])) _
    refine XS.iload X0.here hx rfl (hb hby at_113) rfl ?_
    show Steps p.tables e below (s₁.setTop (mkF m 115 #[.val (.int p1), .val (.int p2), .val (.int p3), .val (.int p4), .val (.int p5), .val (.int ln1), .val (.int x0), .val (.int x1), .val (.int y0), .val (.int y1), .val (.int ln2), .val (.int bo1), .val (.int bo2), .unset, .unset, .unset, .unset, .unset, .unset, .unset, .unset, .unset] [(.int p5)])) _
    refine XT.iconstV X0.here hx rfl (2 : Int32) (hb hby at_115) (by decide) ?_
    show Steps p.tables e below (s₁.setTop (mkF m 116 #[.val (.int p1), .val (.int p2), .val (.int p3), .val (.int p4), .val (.int p5), .val (.int ln1), .val (.int x0), .val (.int x1), .val (.int y0), .val (.int y1), .val (.int ln2), .val (.int bo1), .val (.int bo2), .unset, .unset, .unset, .unset, .unset, .unset, .unset, .unset, .unset] [(.int (2 : Int32)), (.int p5)])) _
    refine XS.iushr X0.here hx rfl (hb hby at_116) rfl ?_
    show Steps p.tables e below (s₁.setTop (mkF m 117 #[.val (.int p1), .val (.int p2), .val (.int p3), .val (.int p4), .val (.int p5), .val (.int ln1), .val (.int x0), .val (.int x1), .val (.int y0), .val (.int y1), .val (.int ln2), .val (.int bo1), .val (.int bo2), .unset, .unset, .unset, .unset, .unset, .unset, .unset, .unset, .unset] [(.int ((p5.toUInt32 >>> ((2 : Int32) &&& 31).toUInt32).toInt32))])) _
    refine XT.iconstV X0.here hx rfl (3 : Int32) (hb hby at_117) (by decide) ?_
    show Steps p.tables e below (s₁.setTop (mkF m 118 #[.val (.int p1), .val (.int p2), .val (.int p3), .val (.int p4), .val (.int p5), .val (.int ln1), .val (.int x0), .val (.int x1), .val (.int y0), .val (.int y1), .val (.int ln2), .val (.int bo1), .val (.int bo2), .unset, .unset, .unset, .unset, .unset, .unset, .unset, .unset, .unset] [(.int (3 : Int32)), (.int ((p5.toUInt32 >>> ((2 : Int32) &&& 31).toUInt32).toInt32))])) _
    refine XS.iand X0.here hx rfl (hb hby at_118) rfl ?_
    exact k)
  obtain ⟨kd, e_kd⟩ : ∃ z, z = (((p5.toUInt32 >>> ((2 : Int32) &&& 31).toUInt32).toInt32) &&& (3 : Int32)) := ⟨_, rfl⟩
  rw [← e_kd] at pre19
  have pre20 : ∀ t, Steps p.tables e below (s₁.setTop (mkF m 121 #[.val (.int p1), .val (.int p2), .val (.int p3), .val (.int p4), .val (.int p5), .val (.int ln1), .val (.int x0), .val (.int x1), .val (.int y0), .val (.int y1), .val (.int ln2), .val (.int bo1), .val (.int bo2), .val (.int kd), .unset, .unset, .unset, .unset, .unset, .unset, .unset, .unset] [])) t → Steps p.tables e below (s₁.setTop (entryFrame m #[(.int p1), (.int p2), (.int p3), (.int p4), (.int p5)] maxLocals)) t := fun t k => pre19 t (by
    show Steps p.tables e below (s₁.setTop (mkF m 119 #[.val (.int p1), .val (.int p2), .val (.int p3), .val (.int p4), .val (.int p5), .val (.int ln1), .val (.int x0), .val (.int x1), .val (.int y0), .val (.int y1), .val (.int ln2), .val (.int bo1), .val (.int bo2), .unset, .unset, .unset, .unset, .unset, .unset, .unset, .unset, .unset] [(.int kd)])) _
    refine XS.istore X0.here hx rfl (hb hby at_119) rfl (l' := #[.val (.int p1), .val (.int p2), .val (.int p3), .val (.int p4), .val (.int p5), .val (.int ln1), .val (.int x0), .val (.int x1), .val (.int y0), .val (.int y1), .val (.int ln2), .val (.int bo1), .val (.int bo2), .val (.int kd), .unset, .unset, .unset, .unset, .unset, .unset, .unset, .unset]) rfl ?_
    exact k)
  rcases h_ln1 with hl1 | hl1 | hl1 <;> rcases h_ln2 with hl2 | hl2 | hl2
  · rw [hl1, hl2] at pre20
    have O0 := own_ext_refl h0
    obtain ⟨T21, h21, X21, e21, E21, A21, D21, -, st21⟩ := newO X0 hx hZ hown (hw _ (List.mem_of_getElem? (i := 1) rfl)) (hw _ (List.mem_of_getElem? (i := 2) rfl)) (hw _ (List.mem_of_getElem? (i := 3) rfl)) e0 (g := (mkF m 121 #[.val (.int p1), .val (.int p2), .val (.int p3), .val (.int p4), .val (.int p5), .val (.int (0 : Int32)), .val (.int x0), .val (.int x1), .val (.int y0), .val (.int y1), .val (.int (0 : Int32)), .val (.int bo1), .val (.int bo2), .val (.int kd), .unset, .unset, .unset, .unset, .unset, .unset, .unset, .unset] [])) rfl (hb hby at_121) (by decide) (by decide)
    obtain ⟨b21, g21⟩ : ∃ z, z = h0.size := ⟨_, rfl⟩
    rw [← g21] at A21 D21 st21
    have z_b21 : h0.size ≤ b21 := Nat.le_trans O0.1 (Nat.le_of_eq g21.symm)
    have g_b21 : n0 ≤ b21 := Nat.le_trans Z0 z_b21
    have O21 := own_ext_trans O0 E21
    have F21_b21_value : Fld Z h21 b21 "java/lang/String" "value" "[B" .null := D21 (Or.inr (hw _ (List.mem_of_getElem? (i := 21) rfl))) (ty := (.array .byte)) (by decide)
    have F21_b21_coder : Fld Z h21 b21 "java/lang/String" "coder" "B" (.int (0 : Int32)) := D21 (Or.inr (hw _ (List.mem_of_getElem? (i := 22) rfl))) (ty := .byte) (by decide)
    obtain ⟨_, _, ⟨T22, L22, k22, n22⟩, -, X22, ⟨Lc22, hQ22, l22, y22, z22⟩, st22⟩ := Jvm.LawKit.callS X21 hx (y := (⟨"com/example/steadyhand/steadyhand/history/RecordedExecutionEqualsPinLaw", "chars", "(III)[C"⟩ : MethodName)) hown (mvT hZ (hw _ (List.mem_of_getElem? (i := 4) rfl))) (mvT hZ (hw _ (List.mem_of_getElem? (i := 5) rfl))) (mvT hZ (hw _ (List.mem_of_getElem? (i := 6) rfl))) (mvT hZ (hw _ (List.mem_of_getElem? (i := 7) rfl))) (by decide) (backOf (W := 2) (rm_ch0 l Z a0 hw [] x0 x1 h21 n0 (Nat.le_trans Z0 O21.1) h_x0 h_x1) hZ (hw _ (List.mem_of_getElem? (i := 7) rfl)) (hw _ (List.mem_of_getElem? (i := 6) rfl)) (by decide) (by decide)) (g := (mkF m 131 #[.val (.int p1), .val (.int p2), .val (.int p3), .val (.int p4), .val (.int p5), .val (.int (0 : Int32)), .val (.int x0), .val (.int x1), .val (.int y0), .val (.int y1), .val (.int (0 : Int32)), .val (.int bo1), .val (.int bo2), .val (.int kd), .unset, .unset, .unset, .unset, .unset, .unset, .unset, .unset] [(.int x1), (.int x0), (.int (0 : Int32)), (.ref b21), (.ref b21)])) rfl (by rw [hml]; rfl) (argsL := [(.int (0 : Int32)), (.int x0), (.int x1)]) (rest := [(.ref b21), (.ref b21)]) (lenOf pd_4 rfl) rfl (by show 2 * 0 + _ ≤ _; exact Nat.le_of_eq rfl) (hb hby at_131) (fun _ _ => ⟨rfl, e21, (by decide : 1 + 1 ≤ _), (by decide : 4 + 0 ≤ _)⟩)
    dsimp only [Pt.U, Pt.locs, Pt.cells, Pt.slots] at X22 l22 y22 z22 st22 hQ22
    rw [y22, z22] at X22
    obtain ⟨b22, kc22, rfl, N22q, E22, zz22, V22⟩ := hQ22
    have N22 : Fr n0 L22 := by rw [l22]; exact Fr.app N0 N22q
    have ne_b21_b22 : b21 ≠ b22 := Nat.ne_of_lt (Nat.lt_of_lt_of_le A21.lt zz22)
    have z_b22 : h0.size ≤ b22 := Nat.le_trans O21.1 zz22
    have g_b22 : n0 ≤ b22 := Nat.le_trans Z0 z_b22
    have E22_b21 := A21.ext E22
    have F22_b21_value := F21_b21_value.ext E22
    have F22_b21_coder := F21_b21_coder.ext E22
    have O22 := own_ext_trans O21 E22
    obtain ⟨_, vq23, ⟨T23, L23, k23, n23⟩, hm23, X23, hS23, hg23, ⟨Lc23, hQ23, l23, y23, z23⟩, st23⟩ := X22.specialBackS hx (y := (⟨"java/lang/String", "<init>", "([C)V"⟩ : MethodName)) rfl hown (mvT hZ (hw _ (List.mem_of_getElem? (i := 9) rfl))) (mvT hZ (hw _ (List.mem_of_getElem? (i := 10) rfl))) (mvT hZ (hw _ (List.mem_of_getElem? (i := 11) rfl))) (by decide) (own_backS (W := 1) (G := fun vm => IB Z vm []) (Q := fun v h vm L => Qem Z b21 T22.heap n0 v h vm L) (rm_sBF l Z a0 hw [] b21 b22 T22.heap n0 (Nat.le_trans Z0 O22.1) E22_b21 (.int (0 : Int32)) F22_b21_value F22_b21_coder g_b21 kc22 [] (.int (0 : Int32)) V22 (own_ext_trans hK0 O22) hcH hcW) hZ (hw _ (List.mem_of_getElem? (i := 11) rfl)) (hw _ (List.mem_of_getElem? (i := 3) rfl)) (by decide) (by decide)) (g := (mkF m 134 #[.val (.int p1), .val (.int p2), .val (.int p3), .val (.int p4), .val (.int p5), .val (.int (0 : Int32)), .val (.int x0), .val (.int x1), .val (.int y0), .val (.int y1), .val (.int (0 : Int32)), .val (.int bo1), .val (.int bo2), .val (.int kd), .unset, .unset, .unset, .unset, .unset, .unset, .unset, .unset] [(.ref b22), (.ref b21), (.ref b21)])) rfl (by rw [hml]; rfl) (Steps.refl _) (a := b21) (argsL := [(.ref b22)]) (rest := [(.ref b21)]) (lenOf pd_5 rfl) rfl (by show 2 * 0 + _ ≤ _; exact Nat.le_of_eq rfl) (hb hby at_134) (fun vmw hvw => ⟨rfl, rfl, own_ib hG hvw, (by decide : 2 + 2 ≤ _), (by decide : 4 + 4 ≤ _)⟩)
    dsimp only [Pt.U, Pt.locs, Pt.cells, Pt.slots] at X23 hS23 hg23 l23 y23 z23 st23 hQ23
    rw [y23, z23] at X23
    have hZ23 : Z.Warmed39 (s.setVm T23.vm).vm := State.Warmed39.trans hZ hS23.1
    have hown23 : (s.setVm T23.vm).vm.findClass "com/example/steadyhand/steadyhand/history/RecordedExecutionEqualsPinLaw" = some m.cls := (hS23.1.alike.findClass _ _).trans hown
    obtain ⟨rfl, N23q, K23c, E23c, C23c, al23, t23, kb23, V23c, A23c, G23a, G23b, G23c, Li23⟩ := hQ23
    have N23 : Fr n0 L23 := by rw [l23]; exact Fr.app N22 N23q
    have E23_b21 := E22_b21.keep K23c
    have V23_b22 := V22.keep K23c (ninS (Ne.symm ne_b21_b22) nin0)
    have O23 := own_ext_keep O22 K23c (allS z_b21 all0)
    obtain ⟨T24, h24, X24, e24, E24, A24, D24, -, st24⟩ := newO X23 hx hZ23 hown23 (hw _ (List.mem_of_getElem? (i := 1) rfl)) (hw _ (List.mem_of_getElem? (i := 2) rfl)) (hw _ (List.mem_of_getElem? (i := 3) rfl)) rfl (g := (mkF m 139 #[.val (.int p1), .val (.int p2), .val (.int p3), .val (.int p4), .val (.int p5), .val (.int (0 : Int32)), .val (.int x0), .val (.int x1), .val (.int y0), .val (.int y1), .val (.int (0 : Int32)), .val (.int bo1), .val (.int bo2), .val (.int kd), .val (.ref b21), .unset, .unset, .unset, .unset, .unset, .unset, .unset] [])) rfl (hb hby at_139) (by decide) (by decide)
    obtain ⟨b24, g24⟩ : ∃ z, z = T23.heap.size := ⟨_, rfl⟩
    rw [← g24] at A24 D24 st24
    have ne_b21_b24 : b21 ≠ b24 := Nat.ne_of_lt (Nat.lt_of_lt_of_le E23c.lt (Nat.le_of_eq g24.symm))
    have ne_al23_b24 : al23 ≠ b24 := Nat.ne_of_lt (Nat.lt_of_lt_of_le G23a.lt (Nat.le_of_eq g24.symm))
    have ne_t23_b24 : t23 ≠ b24 := Nat.ne_of_lt (Nat.lt_of_lt_of_le A23c.lt (Nat.le_of_eq g24.symm))
    have z_b24 : h0.size ≤ b24 := Nat.le_trans O23.1 (Nat.le_of_eq g24.symm)
    have g_b24 : n0 ≤ b24 := Nat.le_trans Z0 z_b24
    have E24_b21 := E23c.ext E24
    have E24_al23 := G23a.ext E24
    have V24_t23 := A23c.ext E24
    have F24_al23_coder := G23b.ext E24
    have F24_al23_value := G23c.ext E24
    have F24_b21_coder := C23c.ext E24
    have F24_b21_value := V23c.ext E24
    have O24 := own_ext_trans O23 E24
    have hk24 : T23.heap.size ≤ h24.size := Nat.le_trans (Nat.le_refl T23.heap.size) E24.1
    have F24_b24_value : Fld Z h24 b24 "java/lang/String" "value" "[B" .null := D24 (Or.inr (hw _ (List.mem_of_getElem? (i := 21) rfl))) (ty := (.array .byte)) (by decide)
    have F24_b24_coder : Fld Z h24 b24 "java/lang/String" "coder" "B" (.int (0 : Int32)) := D24 (Or.inr (hw _ (List.mem_of_getElem? (i := 22) rfl))) (ty := .byte) (by decide)
    have pre25 : ∀ t, Steps p.tables e below (T24.setTop (mkF m 149 #[.val (.int p1), .val (.int p2), .val (.int p3), .val (.int p4), .val (.int p5), .val (.int (0 : Int32)), .val (.int x0), .val (.int x1), .val (.int y0), .val (.int y1), .val (.int (0 : Int32)), .val (.int bo1), .val (.int bo2), .val (.int kd), .val (.ref b21), .unset, .unset, .unset, .unset, .unset, .unset, .unset] [(.int y1), (.int y0), (.int (0 : Int32)), (.ref b24), (.ref b24)])) t → Steps p.tables e below (s₁.setTop (entryFrame m #[(.int p1), (.int p2), (.int p3), (.int p4), (.int p5)] maxLocals)) t := fun t k => pre20 t (by
      show Steps p.tables e below (s₁.setTop (mkF m 121 #[.val (.int p1), .val (.int p2), .val (.int p3), .val (.int p4), .val (.int p5), .val (.int (0 : Int32)), .val (.int x0), .val (.int x1), .val (.int y0), .val (.int y1), .val (.int (0 : Int32)), .val (.int bo1), .val (.int bo2), .val (.int kd), .unset, .unset, .unset, .unset, .unset, .unset, .unset, .unset] [])) _
      refine st21 _ ?_
      show Steps p.tables e below (T21.setTop (mkF m 124 #[.val (.int p1), .val (.int p2), .val (.int p3), .val (.int p4), .val (.int p5), .val (.int (0 : Int32)), .val (.int x0), .val (.int x1), .val (.int y0), .val (.int y1), .val (.int (0 : Int32)), .val (.int bo1), .val (.int bo2), .val (.int kd), .unset, .unset, .unset, .unset, .unset, .unset, .unset, .unset] [(.ref b21)])) _
      refine XS.dup X21.here hx rfl (hb hby at_124) rfl rfl ?_
      show Steps p.tables e below (T21.setTop (mkF m 125 #[.val (.int p1), .val (.int p2), .val (.int p3), .val (.int p4), .val (.int p5), .val (.int (0 : Int32)), .val (.int x0), .val (.int x1), .val (.int y0), .val (.int y1), .val (.int (0 : Int32)), .val (.int bo1), .val (.int bo2), .val (.int kd), .unset, .unset, .unset, .unset, .unset, .unset, .unset, .unset] [(.ref b21), (.ref b21)])) _
      refine XS.iload X21.here hx rfl (hb hby at_125) rfl ?_
      show Steps p.tables e below (T21.setTop (mkF m 127 #[.val (.int p1), .val (.int p2), .val (.int p3), .val (.int p4), .val (.int p5), .val (.int (0 : Int32)), .val (.int x0), .val (.int x1), .val (.int y0), .val (.int y1), .val (.int (0 : Int32)), .val (.int bo1), .val (.int bo2), .val (.int kd), .unset, .unset, .unset, .unset, .unset, .unset, .unset, .unset] [(.int (0 : Int32)), (.ref b21), (.ref b21)])) _
      refine XS.iload X21.here hx rfl (hb hby at_127) rfl ?_
      show Steps p.tables e below (T21.setTop (mkF m 129 #[.val (.int p1), .val (.int p2), .val (.int p3), .val (.int p4), .val (.int p5), .val (.int (0 : Int32)), .val (.int x0), .val (.int x1), .val (.int y0), .val (.int y1), .val (.int (0 : Int32)), .val (.int bo1), .val (.int bo2), .val (.int kd), .unset, .unset, .unset, .unset, .unset, .unset, .unset, .unset] [(.int x0), (.int (0 : Int32)), (.ref b21), (.ref b21)])) _
      refine XS.iload X21.here hx rfl (hb hby at_129) rfl ?_
      show Steps p.tables e below (T21.setTop (mkF m 131 #[.val (.int p1), .val (.int p2), .val (.int p3), .val (.int p4), .val (.int p5), .val (.int (0 : Int32)), .val (.int x0), .val (.int x1), .val (.int y0), .val (.int y1), .val (.int (0 : Int32)), .val (.int bo1), .val (.int bo2), .val (.int kd), .unset, .unset, .unset, .unset, .unset, .unset, .unset, .unset] [(.int x1), (.int x0), (.int (0 : Int32)), (.ref b21), (.ref b21)])) _
      refine st22 _ ?_
      show Steps p.tables e below (T22.setTop (mkF m 134 #[.val (.int p1), .val (.int p2), .val (.int p3), .val (.int p4), .val (.int p5), .val (.int (0 : Int32)), .val (.int x0), .val (.int x1), .val (.int y0), .val (.int y1), .val (.int (0 : Int32)), .val (.int bo1), .val (.int bo2), .val (.int kd), .unset, .unset, .unset, .unset, .unset, .unset, .unset, .unset] [(.ref b22), (.ref b21), (.ref b21)])) _
      refine st23.trans ?_
      show Steps p.tables e below (T23.setTop (mkF m 137 #[.val (.int p1), .val (.int p2), .val (.int p3), .val (.int p4), .val (.int p5), .val (.int (0 : Int32)), .val (.int x0), .val (.int x1), .val (.int y0), .val (.int y1), .val (.int (0 : Int32)), .val (.int bo1), .val (.int bo2), .val (.int kd), .unset, .unset, .unset, .unset, .unset, .unset, .unset, .unset] [(.ref b21)])) _
      refine XS.astore X23.here hx rfl (hb hby at_137) rfl rfl (l' := #[.val (.int p1), .val (.int p2), .val (.int p3), .val (.int p4), .val (.int p5), .val (.int (0 : Int32)), .val (.int x0), .val (.int x1), .val (.int y0), .val (.int y1), .val (.int (0 : Int32)), .val (.int bo1), .val (.int bo2), .val (.int kd), .val (.ref b21), .unset, .unset, .unset, .unset, .unset, .unset, .unset]) rfl ?_
      show Steps p.tables e below (T23.setTop (mkF m 139 #[.val (.int p1), .val (.int p2), .val (.int p3), .val (.int p4), .val (.int p5), .val (.int (0 : Int32)), .val (.int x0), .val (.int x1), .val (.int y0), .val (.int y1), .val (.int (0 : Int32)), .val (.int bo1), .val (.int bo2), .val (.int kd), .val (.ref b21), .unset, .unset, .unset, .unset, .unset, .unset, .unset] [])) _
      refine st24 _ ?_
      show Steps p.tables e below (T24.setTop (mkF m 142 #[.val (.int p1), .val (.int p2), .val (.int p3), .val (.int p4), .val (.int p5), .val (.int (0 : Int32)), .val (.int x0), .val (.int x1), .val (.int y0), .val (.int y1), .val (.int (0 : Int32)), .val (.int bo1), .val (.int bo2), .val (.int kd), .val (.ref b21), .unset, .unset, .unset, .unset, .unset, .unset, .unset] [(.ref b24)])) _
      refine XS.dup X24.here hx rfl (hb hby at_142) rfl rfl ?_
      show Steps p.tables e below (T24.setTop (mkF m 143 #[.val (.int p1), .val (.int p2), .val (.int p3), .val (.int p4), .val (.int p5), .val (.int (0 : Int32)), .val (.int x0), .val (.int x1), .val (.int y0), .val (.int y1), .val (.int (0 : Int32)), .val (.int bo1), .val (.int bo2), .val (.int kd), .val (.ref b21), .unset, .unset, .unset, .unset, .unset, .unset, .unset] [(.ref b24), (.ref b24)])) _
      refine XS.iload X24.here hx rfl (hb hby at_143) rfl ?_
      show Steps p.tables e below (T24.setTop (mkF m 145 #[.val (.int p1), .val (.int p2), .val (.int p3), .val (.int p4), .val (.int p5), .val (.int (0 : Int32)), .val (.int x0), .val (.int x1), .val (.int y0), .val (.int y1), .val (.int (0 : Int32)), .val (.int bo1), .val (.int bo2), .val (.int kd), .val (.ref b21), .unset, .unset, .unset, .unset, .unset, .unset, .unset] [(.int (0 : Int32)), (.ref b24), (.ref b24)])) _
      refine XS.iload X24.here hx rfl (hb hby at_145) rfl ?_
      show Steps p.tables e below (T24.setTop (mkF m 147 #[.val (.int p1), .val (.int p2), .val (.int p3), .val (.int p4), .val (.int p5), .val (.int (0 : Int32)), .val (.int x0), .val (.int x1), .val (.int y0), .val (.int y1), .val (.int (0 : Int32)), .val (.int bo1), .val (.int bo2), .val (.int kd), .val (.ref b21), .unset, .unset, .unset, .unset, .unset, .unset, .unset] [(.int y0), (.int (0 : Int32)), (.ref b24), (.ref b24)])) _
      refine XS.iload X24.here hx rfl (hb hby at_147) rfl ?_
      exact k)
    obtain ⟨_, _, ⟨T26, L26, k26, n26⟩, -, X26, ⟨Lc26, hQ26, l26, y26, z26⟩, st26⟩ := Jvm.LawKit.callS X24 hx (y := (⟨"com/example/steadyhand/steadyhand/history/RecordedExecutionEqualsPinLaw", "chars", "(III)[C"⟩ : MethodName)) hown23 (mvT hZ23 (hw _ (List.mem_of_getElem? (i := 4) rfl))) (mvT hZ23 (hw _ (List.mem_of_getElem? (i := 5) rfl))) (mvT hZ23 (hw _ (List.mem_of_getElem? (i := 6) rfl))) (mvT hZ23 (hw _ (List.mem_of_getElem? (i := 7) rfl))) (by decide) (backOf (W := 2) (rm_ch0 l Z a0 hw [] y0 y1 h24 n0 (Nat.le_trans Z0 O24.1) h_y0 h_y1) hZ23 (hw _ (List.mem_of_getElem? (i := 7) rfl)) (hw _ (List.mem_of_getElem? (i := 6) rfl)) (by decide) (by decide)) (g := (mkF m 149 #[.val (.int p1), .val (.int p2), .val (.int p3), .val (.int p4), .val (.int p5), .val (.int (0 : Int32)), .val (.int x0), .val (.int x1), .val (.int y0), .val (.int y1), .val (.int (0 : Int32)), .val (.int bo1), .val (.int bo2), .val (.int kd), .val (.ref b21), .unset, .unset, .unset, .unset, .unset, .unset, .unset] [(.int y1), (.int y0), (.int (0 : Int32)), (.ref b24), (.ref b24)])) rfl (by rw [hml]; rfl) (argsL := [(.int (0 : Int32)), (.int y0), (.int y1)]) (rest := [(.ref b24), (.ref b24)]) (lenOf pd_4 rfl) rfl (by show 2 * 0 + _ ≤ _; exact Nat.le_of_eq rfl) (hb hby at_149) (fun _ _ => ⟨rfl, e24, (by decide : 5 + 1 ≤ _), (by decide : 12 + 0 ≤ _)⟩)
    dsimp only [Pt.U, Pt.locs, Pt.cells, Pt.slots] at X26 l26 y26 z26 st26 hQ26
    rw [y26, z26] at X26
    obtain ⟨b26, kc26, rfl, N26q, E26, zz26, V26⟩ := hQ26
    have N26 : Fr n0 L26 := by rw [l26]; exact Fr.app N23 N26q
    have ne_b21_b26 : b21 ≠ b26 := Nat.ne_of_lt (Nat.lt_of_lt_of_le E24_b21.lt zz26)
    have ne_al23_b26 : al23 ≠ b26 := Nat.ne_of_lt (Nat.lt_of_lt_of_le E24_al23.lt zz26)
    have ne_b24_b26 : b24 ≠ b26 := Nat.ne_of_lt (Nat.lt_of_lt_of_le A24.lt zz26)
    have ne_t23_b26 : t23 ≠ b26 := Nat.ne_of_lt (Nat.lt_of_lt_of_le V24_t23.lt zz26)
    have z_b26 : h0.size ≤ b26 := Nat.le_trans O24.1 zz26
    have g_b26 : n0 ≤ b26 := Nat.le_trans Z0 z_b26
    have E26_b21 := E24_b21.ext E26
    have E26_al23 := E24_al23.ext E26
    have E26_b24 := A24.ext E26
    have V26_t23 := V24_t23.ext E26
    have F26_al23_coder := F24_al23_coder.ext E26
    have F26_al23_value := F24_al23_value.ext E26
    have F26_b21_coder := F24_b21_coder.ext E26
    have F26_b21_value := F24_b21_value.ext E26
    have F26_b24_value := F24_b24_value.ext E26
    have F26_b24_coder := F24_b24_coder.ext E26
    have O26 := own_ext_trans O24 E26
    have hk26 : T23.heap.size ≤ T26.heap.size := Nat.le_trans hk24 E26.1
    obtain ⟨_, vq27, ⟨T27, L27, k27, n27⟩, hm27, X27, hS27, hg27, ⟨Lc27, hQ27, l27, y27, z27⟩, st27⟩ := X26.specialBackS hx (y := (⟨"java/lang/String", "<init>", "([C)V"⟩ : MethodName)) rfl hown23 (mvT hZ23 (hw _ (List.mem_of_getElem? (i := 9) rfl))) (mvT hZ23 (hw _ (List.mem_of_getElem? (i := 10) rfl))) (mvT hZ23 (hw _ (List.mem_of_getElem? (i := 11) rfl))) (by decide) (own_backS (W := 1) (G := fun vm => Lit (Z.setVm vm) "java/lang/String" 7 al23) (Q := fun v h vm L => Qem Z b24 T26.heap n0 v h vm L) (rm_sBA l Z a0 hw [] b24 b26 T26.heap n0 (Nat.le_trans Z0 O26.1) E26_b24 (.int (0 : Int32)) F26_b24_value F26_b24_coder g_b24 kc26 [] (.int (0 : Int32)) V26 al23 t23 kb23 ne_al23_b24 E26_al23 F26_al23_coder F26_al23_value V26_t23 ne_t23_b24) hZ23 (hw _ (List.mem_of_getElem? (i := 11) rfl)) (hw _ (List.mem_of_getElem? (i := 3) rfl)) (by decide) (by decide)) (g := (mkF m 152 #[.val (.int p1), .val (.int p2), .val (.int p3), .val (.int p4), .val (.int p5), .val (.int (0 : Int32)), .val (.int x0), .val (.int x1), .val (.int y0), .val (.int y1), .val (.int (0 : Int32)), .val (.int bo1), .val (.int bo2), .val (.int kd), .val (.ref b21), .unset, .unset, .unset, .unset, .unset, .unset, .unset] [(.ref b26), (.ref b24), (.ref b24)])) rfl (by rw [hml]; rfl) (Steps.refl _) (a := b24) (argsL := [(.ref b26)]) (rest := [(.ref b24)]) (lenOf pd_5 rfl) rfl (by show 2 * 0 + _ ≤ _; exact Nat.le_of_eq rfl) (hb hby at_152) (fun vmw hvw => ⟨rfl, rfl, own_lit (Z := Z) (s := s.setVm T23.vm) Li23 hvw.wide, (by decide : 6 + 2 ≤ _), (by decide : 12 + 4 ≤ _)⟩)
    dsimp only [Pt.U, Pt.locs, Pt.cells, Pt.slots] at X27 hS27 hg27 l27 y27 z27 st27 hQ27
    rw [y27, z27] at X27
    obtain ⟨X27r, hS27r, hZ27, hown27⟩ := rebS hS23 (n1 := T26.heap.size) hk26 X27 hS27 hg27 hZ23 hown23
    obtain ⟨rfl, N27q, K27c, E27c, C27c, al27, t27, kb27, V27c, A27c, G27a, G27b, G27c, Li27⟩ := hQ27
    have N27 : Fr n0 L27 := by rw [l27]; exact Fr.app N26 N27q
    have E27_b21 := E26_b21.keep K27c
    have E27_al23 := E26_al23.keep K27c
    have E27_b24 := E26_b24.keep K27c
    have V27_t23 := V26_t23.keep K27c (ninS ne_t23_b24 nin0)
    have V27_b26 := V26.keep K27c (ninS (Ne.symm ne_b24_b26) nin0)
    have F27_al23_coder := F26_al23_coder.keep K27c (ninS ne_al23_b24 nin0)
    have F27_al23_value := F26_al23_value.keep K27c (ninS ne_al23_b24 nin0)
    have F27_b21_coder := F26_b21_coder.keep K27c (ninS ne_b21_b24 nin0)
    have F27_b21_value := F26_b21_value.keep K27c (ninS ne_b21_b24 nin0)
    have O27 := own_ext_keep O26 K27c (allS z_b24 all0)
    have pre28 : ∀ t, Steps p.tables e below (T27.setTop (mkF m 157 #[.val (.int p1), .val (.int p2), .val (.int p3), .val (.int p4), .val (.int p5), .val (.int (0 : Int32)), .val (.int x0), .val (.int x1), .val (.int y0), .val (.int y1), .val (.int (0 : Int32)), .val (.int bo1), .val (.int bo2), .val (.int kd), .val (.ref b21), .val (.ref b24), .unset, .unset, .unset, .unset, .unset, .unset] [])) t → Steps p.tables e below (s₁.setTop (entryFrame m #[(.int p1), (.int p2), (.int p3), (.int p4), (.int p5)] maxLocals)) t := fun t k => pre25 t (by
      show Steps p.tables e below (T24.setTop (mkF m 149 #[.val (.int p1), .val (.int p2), .val (.int p3), .val (.int p4), .val (.int p5), .val (.int (0 : Int32)), .val (.int x0), .val (.int x1), .val (.int y0), .val (.int y1), .val (.int (0 : Int32)), .val (.int bo1), .val (.int bo2), .val (.int kd), .val (.ref b21), .unset, .unset, .unset, .unset, .unset, .unset, .unset] [(.int y1), (.int y0), (.int (0 : Int32)), (.ref b24), (.ref b24)])) _
      refine st26 _ ?_
      show Steps p.tables e below (T26.setTop (mkF m 152 #[.val (.int p1), .val (.int p2), .val (.int p3), .val (.int p4), .val (.int p5), .val (.int (0 : Int32)), .val (.int x0), .val (.int x1), .val (.int y0), .val (.int y1), .val (.int (0 : Int32)), .val (.int bo1), .val (.int bo2), .val (.int kd), .val (.ref b21), .unset, .unset, .unset, .unset, .unset, .unset, .unset] [(.ref b26), (.ref b24), (.ref b24)])) _
      refine st27.trans ?_
      show Steps p.tables e below (T27.setTop (mkF m 155 #[.val (.int p1), .val (.int p2), .val (.int p3), .val (.int p4), .val (.int p5), .val (.int (0 : Int32)), .val (.int x0), .val (.int x1), .val (.int y0), .val (.int y1), .val (.int (0 : Int32)), .val (.int bo1), .val (.int bo2), .val (.int kd), .val (.ref b21), .unset, .unset, .unset, .unset, .unset, .unset, .unset] [(.ref b24)])) _
      refine XS.astore X27r.here hx rfl (hb hby at_155) rfl rfl (l' := #[.val (.int p1), .val (.int p2), .val (.int p3), .val (.int p4), .val (.int p5), .val (.int (0 : Int32)), .val (.int x0), .val (.int x1), .val (.int y0), .val (.int y1), .val (.int (0 : Int32)), .val (.int bo1), .val (.int bo2), .val (.int kd), .val (.ref b21), .val (.ref b24), .unset, .unset, .unset, .unset, .unset, .unset]) rfl ?_
      exact k)
    exact own_tail (s := s) Z a0 hw p1 p2 p3 p4 p5 (0 : Int32) x0 x1 y0 y1 (0 : Int32) bo1 bo2 kd b21 b24 [] [] T27.heap n0 (Nat.le_trans Z0 O27.1) (X27r.more (by decide) (by decide)) hx hby hml Bd.returns Bd.notSynchronized hZ27 hown27 hS27r (Nat.le_refl T27.heap.size) rfl N27 (own_str0 E27_b21 F27_b21_coder F27_b21_value V27_t23) (own_str0 E27c C27c V27c A27c) (Or.inl ⟨rfl, rfl⟩) (Or.inl ⟨rfl, rfl⟩) h_bo1 h_bo2 zc (Sc.ext O27) hzc pre28
  · rw [hl1, hl2] at pre20
    have O0 := own_ext_refl h0
    obtain ⟨T29, h29, X29, e29, E29, A29, D29, -, st29⟩ := newO X0 hx hZ hown (hw _ (List.mem_of_getElem? (i := 1) rfl)) (hw _ (List.mem_of_getElem? (i := 2) rfl)) (hw _ (List.mem_of_getElem? (i := 3) rfl)) e0 (g := (mkF m 121 #[.val (.int p1), .val (.int p2), .val (.int p3), .val (.int p4), .val (.int p5), .val (.int (0 : Int32)), .val (.int x0), .val (.int x1), .val (.int y0), .val (.int y1), .val (.int (1 : Int32)), .val (.int bo1), .val (.int bo2), .val (.int kd), .unset, .unset, .unset, .unset, .unset, .unset, .unset, .unset] [])) rfl (hb hby at_121) (by decide) (by decide)
    obtain ⟨b29, g29⟩ : ∃ z, z = h0.size := ⟨_, rfl⟩
    rw [← g29] at A29 D29 st29
    have z_b29 : h0.size ≤ b29 := Nat.le_trans O0.1 (Nat.le_of_eq g29.symm)
    have g_b29 : n0 ≤ b29 := Nat.le_trans Z0 z_b29
    have O29 := own_ext_trans O0 E29
    have F29_b29_value : Fld Z h29 b29 "java/lang/String" "value" "[B" .null := D29 (Or.inr (hw _ (List.mem_of_getElem? (i := 21) rfl))) (ty := (.array .byte)) (by decide)
    have F29_b29_coder : Fld Z h29 b29 "java/lang/String" "coder" "B" (.int (0 : Int32)) := D29 (Or.inr (hw _ (List.mem_of_getElem? (i := 22) rfl))) (ty := .byte) (by decide)
    obtain ⟨_, _, ⟨T30, L30, k30, n30⟩, -, X30, ⟨Lc30, hQ30, l30, y30, z30⟩, st30⟩ := Jvm.LawKit.callS X29 hx (y := (⟨"com/example/steadyhand/steadyhand/history/RecordedExecutionEqualsPinLaw", "chars", "(III)[C"⟩ : MethodName)) hown (mvT hZ (hw _ (List.mem_of_getElem? (i := 4) rfl))) (mvT hZ (hw _ (List.mem_of_getElem? (i := 5) rfl))) (mvT hZ (hw _ (List.mem_of_getElem? (i := 6) rfl))) (mvT hZ (hw _ (List.mem_of_getElem? (i := 7) rfl))) (by decide) (backOf (W := 2) (rm_ch0 l Z a0 hw [] x0 x1 h29 n0 (Nat.le_trans Z0 O29.1) h_x0 h_x1) hZ (hw _ (List.mem_of_getElem? (i := 7) rfl)) (hw _ (List.mem_of_getElem? (i := 6) rfl)) (by decide) (by decide)) (g := (mkF m 131 #[.val (.int p1), .val (.int p2), .val (.int p3), .val (.int p4), .val (.int p5), .val (.int (0 : Int32)), .val (.int x0), .val (.int x1), .val (.int y0), .val (.int y1), .val (.int (1 : Int32)), .val (.int bo1), .val (.int bo2), .val (.int kd), .unset, .unset, .unset, .unset, .unset, .unset, .unset, .unset] [(.int x1), (.int x0), (.int (0 : Int32)), (.ref b29), (.ref b29)])) rfl (by rw [hml]; rfl) (argsL := [(.int (0 : Int32)), (.int x0), (.int x1)]) (rest := [(.ref b29), (.ref b29)]) (lenOf pd_4 rfl) rfl (by show 2 * 0 + _ ≤ _; exact Nat.le_of_eq rfl) (hb hby at_131) (fun _ _ => ⟨rfl, e29, (by decide : 1 + 1 ≤ _), (by decide : 4 + 0 ≤ _)⟩)
    dsimp only [Pt.U, Pt.locs, Pt.cells, Pt.slots] at X30 l30 y30 z30 st30 hQ30
    rw [y30, z30] at X30
    obtain ⟨b30, kc30, rfl, N30q, E30, zz30, V30⟩ := hQ30
    have N30 : Fr n0 L30 := by rw [l30]; exact Fr.app N0 N30q
    have ne_b29_b30 : b29 ≠ b30 := Nat.ne_of_lt (Nat.lt_of_lt_of_le A29.lt zz30)
    have z_b30 : h0.size ≤ b30 := Nat.le_trans O29.1 zz30
    have g_b30 : n0 ≤ b30 := Nat.le_trans Z0 z_b30
    have E30_b29 := A29.ext E30
    have F30_b29_value := F29_b29_value.ext E30
    have F30_b29_coder := F29_b29_coder.ext E30
    have O30 := own_ext_trans O29 E30
    obtain ⟨_, vq31, ⟨T31, L31, k31, n31⟩, hm31, X31, hS31, hg31, ⟨Lc31, hQ31, l31, y31, z31⟩, st31⟩ := X30.specialBackS hx (y := (⟨"java/lang/String", "<init>", "([C)V"⟩ : MethodName)) rfl hown (mvT hZ (hw _ (List.mem_of_getElem? (i := 9) rfl))) (mvT hZ (hw _ (List.mem_of_getElem? (i := 10) rfl))) (mvT hZ (hw _ (List.mem_of_getElem? (i := 11) rfl))) (by decide) (own_backS (W := 1) (G := fun vm => IB Z vm []) (Q := fun v h vm L => Qem Z b29 T30.heap n0 v h vm L) (rm_sBF l Z a0 hw [] b29 b30 T30.heap n0 (Nat.le_trans Z0 O30.1) E30_b29 (.int (0 : Int32)) F30_b29_value F30_b29_coder g_b29 kc30 [] (.int (0 : Int32)) V30 (own_ext_trans hK0 O30) hcH hcW) hZ (hw _ (List.mem_of_getElem? (i := 11) rfl)) (hw _ (List.mem_of_getElem? (i := 3) rfl)) (by decide) (by decide)) (g := (mkF m 134 #[.val (.int p1), .val (.int p2), .val (.int p3), .val (.int p4), .val (.int p5), .val (.int (0 : Int32)), .val (.int x0), .val (.int x1), .val (.int y0), .val (.int y1), .val (.int (1 : Int32)), .val (.int bo1), .val (.int bo2), .val (.int kd), .unset, .unset, .unset, .unset, .unset, .unset, .unset, .unset] [(.ref b30), (.ref b29), (.ref b29)])) rfl (by rw [hml]; rfl) (Steps.refl _) (a := b29) (argsL := [(.ref b30)]) (rest := [(.ref b29)]) (lenOf pd_5 rfl) rfl (by show 2 * 0 + _ ≤ _; exact Nat.le_of_eq rfl) (hb hby at_134) (fun vmw hvw => ⟨rfl, rfl, own_ib hG hvw, (by decide : 2 + 2 ≤ _), (by decide : 4 + 4 ≤ _)⟩)
    dsimp only [Pt.U, Pt.locs, Pt.cells, Pt.slots] at X31 hS31 hg31 l31 y31 z31 st31 hQ31
    rw [y31, z31] at X31
    have hZ31 : Z.Warmed39 (s.setVm T31.vm).vm := State.Warmed39.trans hZ hS31.1
    have hown31 : (s.setVm T31.vm).vm.findClass "com/example/steadyhand/steadyhand/history/RecordedExecutionEqualsPinLaw" = some m.cls := (hS31.1.alike.findClass _ _).trans hown
    obtain ⟨rfl, N31q, K31c, E31c, C31c, al31, t31, kb31, V31c, A31c, G31a, G31b, G31c, Li31⟩ := hQ31
    have N31 : Fr n0 L31 := by rw [l31]; exact Fr.app N30 N31q
    have E31_b29 := E30_b29.keep K31c
    have V31_b30 := V30.keep K31c (ninS (Ne.symm ne_b29_b30) nin0)
    have O31 := own_ext_keep O30 K31c (allS z_b29 all0)
    obtain ⟨T32, h32, X32, e32, E32, A32, D32, -, st32⟩ := newO X31 hx hZ31 hown31 (hw _ (List.mem_of_getElem? (i := 1) rfl)) (hw _ (List.mem_of_getElem? (i := 2) rfl)) (hw _ (List.mem_of_getElem? (i := 3) rfl)) rfl (g := (mkF m 139 #[.val (.int p1), .val (.int p2), .val (.int p3), .val (.int p4), .val (.int p5), .val (.int (0 : Int32)), .val (.int x0), .val (.int x1), .val (.int y0), .val (.int y1), .val (.int (1 : Int32)), .val (.int bo1), .val (.int bo2), .val (.int kd), .val (.ref b29), .unset, .unset, .unset, .unset, .unset, .unset, .unset] [])) rfl (hb hby at_139) (by decide) (by decide)
    obtain ⟨b32, g32⟩ : ∃ z, z = T31.heap.size := ⟨_, rfl⟩
    rw [← g32] at A32 D32 st32
    have ne_b29_b32 : b29 ≠ b32 := Nat.ne_of_lt (Nat.lt_of_lt_of_le E31c.lt (Nat.le_of_eq g32.symm))
    have ne_al31_b32 : al31 ≠ b32 := Nat.ne_of_lt (Nat.lt_of_lt_of_le G31a.lt (Nat.le_of_eq g32.symm))
    have ne_t31_b32 : t31 ≠ b32 := Nat.ne_of_lt (Nat.lt_of_lt_of_le A31c.lt (Nat.le_of_eq g32.symm))
    have z_b32 : h0.size ≤ b32 := Nat.le_trans O31.1 (Nat.le_of_eq g32.symm)
    have g_b32 : n0 ≤ b32 := Nat.le_trans Z0 z_b32
    have E32_b29 := E31c.ext E32
    have E32_al31 := G31a.ext E32
    have V32_t31 := A31c.ext E32
    have F32_al31_coder := G31b.ext E32
    have F32_al31_value := G31c.ext E32
    have F32_b29_coder := C31c.ext E32
    have F32_b29_value := V31c.ext E32
    have O32 := own_ext_trans O31 E32
    have hk32 : T31.heap.size ≤ h32.size := Nat.le_trans (Nat.le_refl T31.heap.size) E32.1
    have F32_b32_value : Fld Z h32 b32 "java/lang/String" "value" "[B" .null := D32 (Or.inr (hw _ (List.mem_of_getElem? (i := 21) rfl))) (ty := (.array .byte)) (by decide)
    have F32_b32_coder : Fld Z h32 b32 "java/lang/String" "coder" "B" (.int (0 : Int32)) := D32 (Or.inr (hw _ (List.mem_of_getElem? (i := 22) rfl))) (ty := .byte) (by decide)
    have pre33 : ∀ t, Steps p.tables e below (T32.setTop (mkF m 149 #[.val (.int p1), .val (.int p2), .val (.int p3), .val (.int p4), .val (.int p5), .val (.int (0 : Int32)), .val (.int x0), .val (.int x1), .val (.int y0), .val (.int y1), .val (.int (1 : Int32)), .val (.int bo1), .val (.int bo2), .val (.int kd), .val (.ref b29), .unset, .unset, .unset, .unset, .unset, .unset, .unset] [(.int y1), (.int y0), (.int (1 : Int32)), (.ref b32), (.ref b32)])) t → Steps p.tables e below (s₁.setTop (entryFrame m #[(.int p1), (.int p2), (.int p3), (.int p4), (.int p5)] maxLocals)) t := fun t k => pre20 t (by
      show Steps p.tables e below (s₁.setTop (mkF m 121 #[.val (.int p1), .val (.int p2), .val (.int p3), .val (.int p4), .val (.int p5), .val (.int (0 : Int32)), .val (.int x0), .val (.int x1), .val (.int y0), .val (.int y1), .val (.int (1 : Int32)), .val (.int bo1), .val (.int bo2), .val (.int kd), .unset, .unset, .unset, .unset, .unset, .unset, .unset, .unset] [])) _
      refine st29 _ ?_
      show Steps p.tables e below (T29.setTop (mkF m 124 #[.val (.int p1), .val (.int p2), .val (.int p3), .val (.int p4), .val (.int p5), .val (.int (0 : Int32)), .val (.int x0), .val (.int x1), .val (.int y0), .val (.int y1), .val (.int (1 : Int32)), .val (.int bo1), .val (.int bo2), .val (.int kd), .unset, .unset, .unset, .unset, .unset, .unset, .unset, .unset] [(.ref b29)])) _
      refine XS.dup X29.here hx rfl (hb hby at_124) rfl rfl ?_
      show Steps p.tables e below (T29.setTop (mkF m 125 #[.val (.int p1), .val (.int p2), .val (.int p3), .val (.int p4), .val (.int p5), .val (.int (0 : Int32)), .val (.int x0), .val (.int x1), .val (.int y0), .val (.int y1), .val (.int (1 : Int32)), .val (.int bo1), .val (.int bo2), .val (.int kd), .unset, .unset, .unset, .unset, .unset, .unset, .unset, .unset] [(.ref b29), (.ref b29)])) _
      refine XS.iload X29.here hx rfl (hb hby at_125) rfl ?_
      show Steps p.tables e below (T29.setTop (mkF m 127 #[.val (.int p1), .val (.int p2), .val (.int p3), .val (.int p4), .val (.int p5), .val (.int (0 : Int32)), .val (.int x0), .val (.int x1), .val (.int y0), .val (.int y1), .val (.int (1 : Int32)), .val (.int bo1), .val (.int bo2), .val (.int kd), .unset, .unset, .unset, .unset, .unset, .unset, .unset, .unset] [(.int (0 : Int32)), (.ref b29), (.ref b29)])) _
      refine XS.iload X29.here hx rfl (hb hby at_127) rfl ?_
      show Steps p.tables e below (T29.setTop (mkF m 129 #[.val (.int p1), .val (.int p2), .val (.int p3), .val (.int p4), .val (.int p5), .val (.int (0 : Int32)), .val (.int x0), .val (.int x1), .val (.int y0), .val (.int y1), .val (.int (1 : Int32)), .val (.int bo1), .val (.int bo2), .val (.int kd), .unset, .unset, .unset, .unset, .unset, .unset, .unset, .unset] [(.int x0), (.int (0 : Int32)), (.ref b29), (.ref b29)])) _
      refine XS.iload X29.here hx rfl (hb hby at_129) rfl ?_
      show Steps p.tables e below (T29.setTop (mkF m 131 #[.val (.int p1), .val (.int p2), .val (.int p3), .val (.int p4), .val (.int p5), .val (.int (0 : Int32)), .val (.int x0), .val (.int x1), .val (.int y0), .val (.int y1), .val (.int (1 : Int32)), .val (.int bo1), .val (.int bo2), .val (.int kd), .unset, .unset, .unset, .unset, .unset, .unset, .unset, .unset] [(.int x1), (.int x0), (.int (0 : Int32)), (.ref b29), (.ref b29)])) _
      refine st30 _ ?_
      show Steps p.tables e below (T30.setTop (mkF m 134 #[.val (.int p1), .val (.int p2), .val (.int p3), .val (.int p4), .val (.int p5), .val (.int (0 : Int32)), .val (.int x0), .val (.int x1), .val (.int y0), .val (.int y1), .val (.int (1 : Int32)), .val (.int bo1), .val (.int bo2), .val (.int kd), .unset, .unset, .unset, .unset, .unset, .unset, .unset, .unset] [(.ref b30), (.ref b29), (.ref b29)])) _
      refine st31.trans ?_
      show Steps p.tables e below (T31.setTop (mkF m 137 #[.val (.int p1), .val (.int p2), .val (.int p3), .val (.int p4), .val (.int p5), .val (.int (0 : Int32)), .val (.int x0), .val (.int x1), .val (.int y0), .val (.int y1), .val (.int (1 : Int32)), .val (.int bo1), .val (.int bo2), .val (.int kd), .unset, .unset, .unset, .unset, .unset, .unset, .unset, .unset] [(.ref b29)])) _
      refine XS.astore X31.here hx rfl (hb hby at_137) rfl rfl (l' := #[.val (.int p1), .val (.int p2), .val (.int p3), .val (.int p4), .val (.int p5), .val (.int (0 : Int32)), .val (.int x0), .val (.int x1), .val (.int y0), .val (.int y1), .val (.int (1 : Int32)), .val (.int bo1), .val (.int bo2), .val (.int kd), .val (.ref b29), .unset, .unset, .unset, .unset, .unset, .unset, .unset]) rfl ?_
      show Steps p.tables e below (T31.setTop (mkF m 139 #[.val (.int p1), .val (.int p2), .val (.int p3), .val (.int p4), .val (.int p5), .val (.int (0 : Int32)), .val (.int x0), .val (.int x1), .val (.int y0), .val (.int y1), .val (.int (1 : Int32)), .val (.int bo1), .val (.int bo2), .val (.int kd), .val (.ref b29), .unset, .unset, .unset, .unset, .unset, .unset, .unset] [])) _
      refine st32 _ ?_
      show Steps p.tables e below (T32.setTop (mkF m 142 #[.val (.int p1), .val (.int p2), .val (.int p3), .val (.int p4), .val (.int p5), .val (.int (0 : Int32)), .val (.int x0), .val (.int x1), .val (.int y0), .val (.int y1), .val (.int (1 : Int32)), .val (.int bo1), .val (.int bo2), .val (.int kd), .val (.ref b29), .unset, .unset, .unset, .unset, .unset, .unset, .unset] [(.ref b32)])) _
      refine XS.dup X32.here hx rfl (hb hby at_142) rfl rfl ?_
      show Steps p.tables e below (T32.setTop (mkF m 143 #[.val (.int p1), .val (.int p2), .val (.int p3), .val (.int p4), .val (.int p5), .val (.int (0 : Int32)), .val (.int x0), .val (.int x1), .val (.int y0), .val (.int y1), .val (.int (1 : Int32)), .val (.int bo1), .val (.int bo2), .val (.int kd), .val (.ref b29), .unset, .unset, .unset, .unset, .unset, .unset, .unset] [(.ref b32), (.ref b32)])) _
      refine XS.iload X32.here hx rfl (hb hby at_143) rfl ?_
      show Steps p.tables e below (T32.setTop (mkF m 145 #[.val (.int p1), .val (.int p2), .val (.int p3), .val (.int p4), .val (.int p5), .val (.int (0 : Int32)), .val (.int x0), .val (.int x1), .val (.int y0), .val (.int y1), .val (.int (1 : Int32)), .val (.int bo1), .val (.int bo2), .val (.int kd), .val (.ref b29), .unset, .unset, .unset, .unset, .unset, .unset, .unset] [(.int (1 : Int32)), (.ref b32), (.ref b32)])) _
      refine XS.iload X32.here hx rfl (hb hby at_145) rfl ?_
      show Steps p.tables e below (T32.setTop (mkF m 147 #[.val (.int p1), .val (.int p2), .val (.int p3), .val (.int p4), .val (.int p5), .val (.int (0 : Int32)), .val (.int x0), .val (.int x1), .val (.int y0), .val (.int y1), .val (.int (1 : Int32)), .val (.int bo1), .val (.int bo2), .val (.int kd), .val (.ref b29), .unset, .unset, .unset, .unset, .unset, .unset, .unset] [(.int y0), (.int (1 : Int32)), (.ref b32), (.ref b32)])) _
      refine XS.iload X32.here hx rfl (hb hby at_147) rfl ?_
      exact k)
    obtain ⟨_, _, ⟨T34, L34, k34, n34⟩, -, X34, ⟨Lc34, hQ34, l34, y34, z34⟩, st34⟩ := Jvm.LawKit.callS X32 hx (y := (⟨"com/example/steadyhand/steadyhand/history/RecordedExecutionEqualsPinLaw", "chars", "(III)[C"⟩ : MethodName)) hown31 (mvT hZ31 (hw _ (List.mem_of_getElem? (i := 4) rfl))) (mvT hZ31 (hw _ (List.mem_of_getElem? (i := 5) rfl))) (mvT hZ31 (hw _ (List.mem_of_getElem? (i := 6) rfl))) (mvT hZ31 (hw _ (List.mem_of_getElem? (i := 7) rfl))) (by decide) (backOf (W := 2) (rm_ch1 l Z a0 hw [] y0 y1 h32 n0 (Nat.le_trans Z0 O32.1) h_y0 h_y1) hZ31 (hw _ (List.mem_of_getElem? (i := 7) rfl)) (hw _ (List.mem_of_getElem? (i := 6) rfl)) (by decide) (by decide)) (g := (mkF m 149 #[.val (.int p1), .val (.int p2), .val (.int p3), .val (.int p4), .val (.int p5), .val (.int (0 : Int32)), .val (.int x0), .val (.int x1), .val (.int y0), .val (.int y1), .val (.int (1 : Int32)), .val (.int bo1), .val (.int bo2), .val (.int kd), .val (.ref b29), .unset, .unset, .unset, .unset, .unset, .unset, .unset] [(.int y1), (.int y0), (.int (1 : Int32)), (.ref b32), (.ref b32)])) rfl (by rw [hml]; rfl) (argsL := [(.int (1 : Int32)), (.int y0), (.int y1)]) (rest := [(.ref b32), (.ref b32)]) (lenOf pd_4 rfl) rfl (by show 2 * 0 + _ ≤ _; exact Nat.le_of_eq rfl) (hb hby at_149) (fun _ _ => ⟨rfl, e32, (by decide : 5 + 1 ≤ _), (by decide : 12 + 1 ≤ _)⟩)
    dsimp only [Pt.U, Pt.locs, Pt.cells, Pt.slots] at X34 l34 y34 z34 st34 hQ34
    rw [y34, z34] at X34
    obtain ⟨b34, kc34, rfl, N34q, E34, zz34, V34⟩ := hQ34
    have N34 : Fr n0 L34 := by rw [l34]; exact Fr.app N31 N34q
    have ne_b29_b34 : b29 ≠ b34 := Nat.ne_of_lt (Nat.lt_of_lt_of_le E32_b29.lt zz34)
    have ne_al31_b34 : al31 ≠ b34 := Nat.ne_of_lt (Nat.lt_of_lt_of_le E32_al31.lt zz34)
    have ne_b32_b34 : b32 ≠ b34 := Nat.ne_of_lt (Nat.lt_of_lt_of_le A32.lt zz34)
    have ne_t31_b34 : t31 ≠ b34 := Nat.ne_of_lt (Nat.lt_of_lt_of_le V32_t31.lt zz34)
    have z_b34 : h0.size ≤ b34 := Nat.le_trans O32.1 zz34
    have g_b34 : n0 ≤ b34 := Nat.le_trans Z0 z_b34
    have E34_b29 := E32_b29.ext E34
    have E34_al31 := E32_al31.ext E34
    have E34_b32 := A32.ext E34
    have V34_t31 := V32_t31.ext E34
    have F34_al31_coder := F32_al31_coder.ext E34
    have F34_al31_value := F32_al31_value.ext E34
    have F34_b29_coder := F32_b29_coder.ext E34
    have F34_b29_value := F32_b29_value.ext E34
    have F34_b32_value := F32_b32_value.ext E34
    have F34_b32_coder := F32_b32_coder.ext E34
    have O34 := own_ext_trans O32 E34
    have hk34 : T31.heap.size ≤ T34.heap.size := Nat.le_trans hk32 E34.1
    obtain ⟨_, _, ⟨T35, L35, k35, n35⟩, -, X35, ⟨Lc35, hQ35, l35, y35, z35⟩, st35⟩ := X34.specialBack hx (y := (⟨"java/lang/String", "<init>", "([C)V"⟩ : MethodName)) rfl hown31 (mvT hZ31 (hw _ (List.mem_of_getElem? (i := 9) rfl))) (mvT hZ31 (hw _ (List.mem_of_getElem? (i := 10) rfl))) (mvT hZ31 (hw _ (List.mem_of_getElem? (i := 11) rfl))) (by decide) (StrChars.Road.backV (W := 1) hZ31 hws (kI := 4) (hw _ (List.mem_of_getElem? (i := 2) rfl)) (x := b32) (b := b34) (cs := [y0]) (bs := [y0.toInt8.toInt32]) (n := 1) (n0 := n0) g_b32 (Nat.le_trans Z0 O34.1) E34_b32 F34_b32_value F34_b32_coder V34 (Sc.ext O34) hzc rfl rfl (by decide) (by decide) (own_all1 h_y0) rfl (by decide) (by decide)) (g := (mkF m 152 #[.val (.int p1), .val (.int p2), .val (.int p3), .val (.int p4), .val (.int p5), .val (.int (0 : Int32)), .val (.int x0), .val (.int x1), .val (.int y0), .val (.int y1), .val (.int (1 : Int32)), .val (.int bo1), .val (.int bo2), .val (.int kd), .val (.ref b29), .unset, .unset, .unset, .unset, .unset, .unset, .unset] [(.ref b34), (.ref b32), (.ref b32)])) rfl (by rw [hml]; rfl) (Steps.refl _) (a := b32) (argsL := [(.ref b34)]) (rest := [(.ref b32)]) (lenOf pd_5 rfl) rfl (by show 2 * 0 + _ ≤ _; exact Nat.le_of_eq rfl) (hb hby at_152) (fun _ _ => ⟨rfl, rfl, (by decide : 6 + 1 ≤ _), (by decide : 13 + 1 ≤ _)⟩)
    dsimp only [Pt.U, Pt.locs, Pt.cells, Pt.slots] at X35 l35 y35 z35 st35 hQ35
    rw [y35, z35] at X35
    obtain ⟨rfl, N35q, K35c, E35c, C35c, t35, kb35, _, _, _, V35c, A35c⟩ := hQ35
    have N35 : Fr n0 L35 := by rw [l35]; exact Fr.app N34 N35q
    have E35_b29 := E34_b29.keep K35c
    have E35_al31 := E34_al31.keep K35c
    have E35_b32 := E34_b32.keep K35c
    have V35_t31 := V34_t31.keep K35c (ninS ne_t31_b32 nin0)
    have V35_b34 := V34.keep K35c (ninS (Ne.symm ne_b32_b34) nin0)
    have F35_al31_coder := F34_al31_coder.keep K35c (ninS ne_al31_b32 nin0)
    have F35_al31_value := F34_al31_value.keep K35c (ninS ne_al31_b32 nin0)
    have F35_b29_coder := F34_b29_coder.keep K35c (ninS ne_b29_b32 nin0)
    have F35_b29_value := F34_b29_value.keep K35c (ninS ne_b29_b32 nin0)
    have O35 := own_ext_keep O34 K35c (allS z_b32 all0)
    have hk35 : T31.heap.size ≤ T35.heap.size := Nat.le_trans hk34 K35c.1
    have pre36 : ∀ t, Steps p.tables e below (T35.setTop (mkF m 157 #[.val (.int p1), .val (.int p2), .val (.int p3), .val (.int p4), .val (.int p5), .val (.int (0 : Int32)), .val (.int x0), .val (.int x1), .val (.int y0), .val (.int y1), .val (.int (1 : Int32)), .val (.int bo1), .val (.int bo2), .val (.int kd), .val (.ref b29), .val (.ref b32), .unset, .unset, .unset, .unset, .unset, .unset] [])) t → Steps p.tables e below (s₁.setTop (entryFrame m #[(.int p1), (.int p2), (.int p3), (.int p4), (.int p5)] maxLocals)) t := fun t k => pre33 t (by
      show Steps p.tables e below (T32.setTop (mkF m 149 #[.val (.int p1), .val (.int p2), .val (.int p3), .val (.int p4), .val (.int p5), .val (.int (0 : Int32)), .val (.int x0), .val (.int x1), .val (.int y0), .val (.int y1), .val (.int (1 : Int32)), .val (.int bo1), .val (.int bo2), .val (.int kd), .val (.ref b29), .unset, .unset, .unset, .unset, .unset, .unset, .unset] [(.int y1), (.int y0), (.int (1 : Int32)), (.ref b32), (.ref b32)])) _
      refine st34 _ ?_
      show Steps p.tables e below (T34.setTop (mkF m 152 #[.val (.int p1), .val (.int p2), .val (.int p3), .val (.int p4), .val (.int p5), .val (.int (0 : Int32)), .val (.int x0), .val (.int x1), .val (.int y0), .val (.int y1), .val (.int (1 : Int32)), .val (.int bo1), .val (.int bo2), .val (.int kd), .val (.ref b29), .unset, .unset, .unset, .unset, .unset, .unset, .unset] [(.ref b34), (.ref b32), (.ref b32)])) _
      refine st35.trans ?_
      show Steps p.tables e below (T35.setTop (mkF m 155 #[.val (.int p1), .val (.int p2), .val (.int p3), .val (.int p4), .val (.int p5), .val (.int (0 : Int32)), .val (.int x0), .val (.int x1), .val (.int y0), .val (.int y1), .val (.int (1 : Int32)), .val (.int bo1), .val (.int bo2), .val (.int kd), .val (.ref b29), .unset, .unset, .unset, .unset, .unset, .unset, .unset] [(.ref b32)])) _
      refine XS.astore X35.here hx rfl (hb hby at_155) rfl rfl (l' := #[.val (.int p1), .val (.int p2), .val (.int p3), .val (.int p4), .val (.int p5), .val (.int (0 : Int32)), .val (.int x0), .val (.int x1), .val (.int y0), .val (.int y1), .val (.int (1 : Int32)), .val (.int bo1), .val (.int bo2), .val (.int kd), .val (.ref b29), .val (.ref b32), .unset, .unset, .unset, .unset, .unset, .unset]) rfl ?_
      exact k)
    exact own_tail (s := s) Z a0 hw p1 p2 p3 p4 p5 (0 : Int32) x0 x1 y0 y1 (1 : Int32) bo1 bo2 kd b29 b32 [] [y0] T35.heap n0 (Nat.le_trans Z0 O35.1) (X35.more (by decide) (by decide)) hx hby hml Bd.returns Bd.notSynchronized hZ31 hown31 hS31 hk35 rfl N35 (own_str0 E35_b29 F35_b29_coder F35_b29_value V35_t31) (own_strN (cs := [y0]) (bs := [y0.toInt8.toInt32]) (n := 1) rfl (by decide) rfl rfl (own_all1 h_y0) E35c C35c V35c A35c) (Or.inl ⟨rfl, rfl⟩) (Or.inr (Or.inl ⟨rfl, rfl⟩)) h_bo1 h_bo2 zc (Sc.ext O35) hzc pre36
  · rw [hl1, hl2] at pre20
    have O0 := own_ext_refl h0
    obtain ⟨T37, h37, X37, e37, E37, A37, D37, -, st37⟩ := newO X0 hx hZ hown (hw _ (List.mem_of_getElem? (i := 1) rfl)) (hw _ (List.mem_of_getElem? (i := 2) rfl)) (hw _ (List.mem_of_getElem? (i := 3) rfl)) e0 (g := (mkF m 121 #[.val (.int p1), .val (.int p2), .val (.int p3), .val (.int p4), .val (.int p5), .val (.int (0 : Int32)), .val (.int x0), .val (.int x1), .val (.int y0), .val (.int y1), .val (.int (2 : Int32)), .val (.int bo1), .val (.int bo2), .val (.int kd), .unset, .unset, .unset, .unset, .unset, .unset, .unset, .unset] [])) rfl (hb hby at_121) (by decide) (by decide)
    obtain ⟨b37, g37⟩ : ∃ z, z = h0.size := ⟨_, rfl⟩
    rw [← g37] at A37 D37 st37
    have z_b37 : h0.size ≤ b37 := Nat.le_trans O0.1 (Nat.le_of_eq g37.symm)
    have g_b37 : n0 ≤ b37 := Nat.le_trans Z0 z_b37
    have O37 := own_ext_trans O0 E37
    have F37_b37_value : Fld Z h37 b37 "java/lang/String" "value" "[B" .null := D37 (Or.inr (hw _ (List.mem_of_getElem? (i := 21) rfl))) (ty := (.array .byte)) (by decide)
    have F37_b37_coder : Fld Z h37 b37 "java/lang/String" "coder" "B" (.int (0 : Int32)) := D37 (Or.inr (hw _ (List.mem_of_getElem? (i := 22) rfl))) (ty := .byte) (by decide)
    obtain ⟨_, _, ⟨T38, L38, k38, n38⟩, -, X38, ⟨Lc38, hQ38, l38, y38, z38⟩, st38⟩ := Jvm.LawKit.callS X37 hx (y := (⟨"com/example/steadyhand/steadyhand/history/RecordedExecutionEqualsPinLaw", "chars", "(III)[C"⟩ : MethodName)) hown (mvT hZ (hw _ (List.mem_of_getElem? (i := 4) rfl))) (mvT hZ (hw _ (List.mem_of_getElem? (i := 5) rfl))) (mvT hZ (hw _ (List.mem_of_getElem? (i := 6) rfl))) (mvT hZ (hw _ (List.mem_of_getElem? (i := 7) rfl))) (by decide) (backOf (W := 2) (rm_ch0 l Z a0 hw [] x0 x1 h37 n0 (Nat.le_trans Z0 O37.1) h_x0 h_x1) hZ (hw _ (List.mem_of_getElem? (i := 7) rfl)) (hw _ (List.mem_of_getElem? (i := 6) rfl)) (by decide) (by decide)) (g := (mkF m 131 #[.val (.int p1), .val (.int p2), .val (.int p3), .val (.int p4), .val (.int p5), .val (.int (0 : Int32)), .val (.int x0), .val (.int x1), .val (.int y0), .val (.int y1), .val (.int (2 : Int32)), .val (.int bo1), .val (.int bo2), .val (.int kd), .unset, .unset, .unset, .unset, .unset, .unset, .unset, .unset] [(.int x1), (.int x0), (.int (0 : Int32)), (.ref b37), (.ref b37)])) rfl (by rw [hml]; rfl) (argsL := [(.int (0 : Int32)), (.int x0), (.int x1)]) (rest := [(.ref b37), (.ref b37)]) (lenOf pd_4 rfl) rfl (by show 2 * 0 + _ ≤ _; exact Nat.le_of_eq rfl) (hb hby at_131) (fun _ _ => ⟨rfl, e37, (by decide : 1 + 1 ≤ _), (by decide : 4 + 0 ≤ _)⟩)
    dsimp only [Pt.U, Pt.locs, Pt.cells, Pt.slots] at X38 l38 y38 z38 st38 hQ38
    rw [y38, z38] at X38
    obtain ⟨b38, kc38, rfl, N38q, E38, zz38, V38⟩ := hQ38
    have N38 : Fr n0 L38 := by rw [l38]; exact Fr.app N0 N38q
    have ne_b37_b38 : b37 ≠ b38 := Nat.ne_of_lt (Nat.lt_of_lt_of_le A37.lt zz38)
    have z_b38 : h0.size ≤ b38 := Nat.le_trans O37.1 zz38
    have g_b38 : n0 ≤ b38 := Nat.le_trans Z0 z_b38
    have E38_b37 := A37.ext E38
    have F38_b37_value := F37_b37_value.ext E38
    have F38_b37_coder := F37_b37_coder.ext E38
    have O38 := own_ext_trans O37 E38
    obtain ⟨_, vq39, ⟨T39, L39, k39, n39⟩, hm39, X39, hS39, hg39, ⟨Lc39, hQ39, l39, y39, z39⟩, st39⟩ := X38.specialBackS hx (y := (⟨"java/lang/String", "<init>", "([C)V"⟩ : MethodName)) rfl hown (mvT hZ (hw _ (List.mem_of_getElem? (i := 9) rfl))) (mvT hZ (hw _ (List.mem_of_getElem? (i := 10) rfl))) (mvT hZ (hw _ (List.mem_of_getElem? (i := 11) rfl))) (by decide) (own_backS (W := 1) (G := fun vm => IB Z vm []) (Q := fun v h vm L => Qem Z b37 T38.heap n0 v h vm L) (rm_sBF l Z a0 hw [] b37 b38 T38.heap n0 (Nat.le_trans Z0 O38.1) E38_b37 (.int (0 : Int32)) F38_b37_value F38_b37_coder g_b37 kc38 [] (.int (0 : Int32)) V38 (own_ext_trans hK0 O38) hcH hcW) hZ (hw _ (List.mem_of_getElem? (i := 11) rfl)) (hw _ (List.mem_of_getElem? (i := 3) rfl)) (by decide) (by decide)) (g := (mkF m 134 #[.val (.int p1), .val (.int p2), .val (.int p3), .val (.int p4), .val (.int p5), .val (.int (0 : Int32)), .val (.int x0), .val (.int x1), .val (.int y0), .val (.int y1), .val (.int (2 : Int32)), .val (.int bo1), .val (.int bo2), .val (.int kd), .unset, .unset, .unset, .unset, .unset, .unset, .unset, .unset] [(.ref b38), (.ref b37), (.ref b37)])) rfl (by rw [hml]; rfl) (Steps.refl _) (a := b37) (argsL := [(.ref b38)]) (rest := [(.ref b37)]) (lenOf pd_5 rfl) rfl (by show 2 * 0 + _ ≤ _; exact Nat.le_of_eq rfl) (hb hby at_134) (fun vmw hvw => ⟨rfl, rfl, own_ib hG hvw, (by decide : 2 + 2 ≤ _), (by decide : 4 + 4 ≤ _)⟩)
    dsimp only [Pt.U, Pt.locs, Pt.cells, Pt.slots] at X39 hS39 hg39 l39 y39 z39 st39 hQ39
    rw [y39, z39] at X39
    have hZ39 : Z.Warmed39 (s.setVm T39.vm).vm := State.Warmed39.trans hZ hS39.1
    have hown39 : (s.setVm T39.vm).vm.findClass "com/example/steadyhand/steadyhand/history/RecordedExecutionEqualsPinLaw" = some m.cls := (hS39.1.alike.findClass _ _).trans hown
    obtain ⟨rfl, N39q, K39c, E39c, C39c, al39, t39, kb39, V39c, A39c, G39a, G39b, G39c, Li39⟩ := hQ39
    have N39 : Fr n0 L39 := by rw [l39]; exact Fr.app N38 N39q
    have E39_b37 := E38_b37.keep K39c
    have V39_b38 := V38.keep K39c (ninS (Ne.symm ne_b37_b38) nin0)
    have O39 := own_ext_keep O38 K39c (allS z_b37 all0)
    obtain ⟨T40, h40, X40, e40, E40, A40, D40, -, st40⟩ := newO X39 hx hZ39 hown39 (hw _ (List.mem_of_getElem? (i := 1) rfl)) (hw _ (List.mem_of_getElem? (i := 2) rfl)) (hw _ (List.mem_of_getElem? (i := 3) rfl)) rfl (g := (mkF m 139 #[.val (.int p1), .val (.int p2), .val (.int p3), .val (.int p4), .val (.int p5), .val (.int (0 : Int32)), .val (.int x0), .val (.int x1), .val (.int y0), .val (.int y1), .val (.int (2 : Int32)), .val (.int bo1), .val (.int bo2), .val (.int kd), .val (.ref b37), .unset, .unset, .unset, .unset, .unset, .unset, .unset] [])) rfl (hb hby at_139) (by decide) (by decide)
    obtain ⟨b40, g40⟩ : ∃ z, z = T39.heap.size := ⟨_, rfl⟩
    rw [← g40] at A40 D40 st40
    have ne_b37_b40 : b37 ≠ b40 := Nat.ne_of_lt (Nat.lt_of_lt_of_le E39c.lt (Nat.le_of_eq g40.symm))
    have ne_al39_b40 : al39 ≠ b40 := Nat.ne_of_lt (Nat.lt_of_lt_of_le G39a.lt (Nat.le_of_eq g40.symm))
    have ne_t39_b40 : t39 ≠ b40 := Nat.ne_of_lt (Nat.lt_of_lt_of_le A39c.lt (Nat.le_of_eq g40.symm))
    have z_b40 : h0.size ≤ b40 := Nat.le_trans O39.1 (Nat.le_of_eq g40.symm)
    have g_b40 : n0 ≤ b40 := Nat.le_trans Z0 z_b40
    have E40_b37 := E39c.ext E40
    have E40_al39 := G39a.ext E40
    have V40_t39 := A39c.ext E40
    have F40_al39_coder := G39b.ext E40
    have F40_al39_value := G39c.ext E40
    have F40_b37_coder := C39c.ext E40
    have F40_b37_value := V39c.ext E40
    have O40 := own_ext_trans O39 E40
    have hk40 : T39.heap.size ≤ h40.size := Nat.le_trans (Nat.le_refl T39.heap.size) E40.1
    have F40_b40_value : Fld Z h40 b40 "java/lang/String" "value" "[B" .null := D40 (Or.inr (hw _ (List.mem_of_getElem? (i := 21) rfl))) (ty := (.array .byte)) (by decide)
    have F40_b40_coder : Fld Z h40 b40 "java/lang/String" "coder" "B" (.int (0 : Int32)) := D40 (Or.inr (hw _ (List.mem_of_getElem? (i := 22) rfl))) (ty := .byte) (by decide)
    have pre41 : ∀ t, Steps p.tables e below (T40.setTop (mkF m 149 #[.val (.int p1), .val (.int p2), .val (.int p3), .val (.int p4), .val (.int p5), .val (.int (0 : Int32)), .val (.int x0), .val (.int x1), .val (.int y0), .val (.int y1), .val (.int (2 : Int32)), .val (.int bo1), .val (.int bo2), .val (.int kd), .val (.ref b37), .unset, .unset, .unset, .unset, .unset, .unset, .unset] [(.int y1), (.int y0), (.int (2 : Int32)), (.ref b40), (.ref b40)])) t → Steps p.tables e below (s₁.setTop (entryFrame m #[(.int p1), (.int p2), (.int p3), (.int p4), (.int p5)] maxLocals)) t := fun t k => pre20 t (by
      show Steps p.tables e below (s₁.setTop (mkF m 121 #[.val (.int p1), .val (.int p2), .val (.int p3), .val (.int p4), .val (.int p5), .val (.int (0 : Int32)), .val (.int x0), .val (.int x1), .val (.int y0), .val (.int y1), .val (.int (2 : Int32)), .val (.int bo1), .val (.int bo2), .val (.int kd), .unset, .unset, .unset, .unset, .unset, .unset, .unset, .unset] [])) _
      refine st37 _ ?_
      show Steps p.tables e below (T37.setTop (mkF m 124 #[.val (.int p1), .val (.int p2), .val (.int p3), .val (.int p4), .val (.int p5), .val (.int (0 : Int32)), .val (.int x0), .val (.int x1), .val (.int y0), .val (.int y1), .val (.int (2 : Int32)), .val (.int bo1), .val (.int bo2), .val (.int kd), .unset, .unset, .unset, .unset, .unset, .unset, .unset, .unset] [(.ref b37)])) _
      refine XS.dup X37.here hx rfl (hb hby at_124) rfl rfl ?_
      show Steps p.tables e below (T37.setTop (mkF m 125 #[.val (.int p1), .val (.int p2), .val (.int p3), .val (.int p4), .val (.int p5), .val (.int (0 : Int32)), .val (.int x0), .val (.int x1), .val (.int y0), .val (.int y1), .val (.int (2 : Int32)), .val (.int bo1), .val (.int bo2), .val (.int kd), .unset, .unset, .unset, .unset, .unset, .unset, .unset, .unset] [(.ref b37), (.ref b37)])) _
      refine XS.iload X37.here hx rfl (hb hby at_125) rfl ?_
      show Steps p.tables e below (T37.setTop (mkF m 127 #[.val (.int p1), .val (.int p2), .val (.int p3), .val (.int p4), .val (.int p5), .val (.int (0 : Int32)), .val (.int x0), .val (.int x1), .val (.int y0), .val (.int y1), .val (.int (2 : Int32)), .val (.int bo1), .val (.int bo2), .val (.int kd), .unset, .unset, .unset, .unset, .unset, .unset, .unset, .unset] [(.int (0 : Int32)), (.ref b37), (.ref b37)])) _
      refine XS.iload X37.here hx rfl (hb hby at_127) rfl ?_
      show Steps p.tables e below (T37.setTop (mkF m 129 #[.val (.int p1), .val (.int p2), .val (.int p3), .val (.int p4), .val (.int p5), .val (.int (0 : Int32)), .val (.int x0), .val (.int x1), .val (.int y0), .val (.int y1), .val (.int (2 : Int32)), .val (.int bo1), .val (.int bo2), .val (.int kd), .unset, .unset, .unset, .unset, .unset, .unset, .unset, .unset] [(.int x0), (.int (0 : Int32)), (.ref b37), (.ref b37)])) _
      refine XS.iload X37.here hx rfl (hb hby at_129) rfl ?_
      show Steps p.tables e below (T37.setTop (mkF m 131 #[.val (.int p1), .val (.int p2), .val (.int p3), .val (.int p4), .val (.int p5), .val (.int (0 : Int32)), .val (.int x0), .val (.int x1), .val (.int y0), .val (.int y1), .val (.int (2 : Int32)), .val (.int bo1), .val (.int bo2), .val (.int kd), .unset, .unset, .unset, .unset, .unset, .unset, .unset, .unset] [(.int x1), (.int x0), (.int (0 : Int32)), (.ref b37), (.ref b37)])) _
      refine st38 _ ?_
      show Steps p.tables e below (T38.setTop (mkF m 134 #[.val (.int p1), .val (.int p2), .val (.int p3), .val (.int p4), .val (.int p5), .val (.int (0 : Int32)), .val (.int x0), .val (.int x1), .val (.int y0), .val (.int y1), .val (.int (2 : Int32)), .val (.int bo1), .val (.int bo2), .val (.int kd), .unset, .unset, .unset, .unset, .unset, .unset, .unset, .unset] [(.ref b38), (.ref b37), (.ref b37)])) _
      refine st39.trans ?_
      show Steps p.tables e below (T39.setTop (mkF m 137 #[.val (.int p1), .val (.int p2), .val (.int p3), .val (.int p4), .val (.int p5), .val (.int (0 : Int32)), .val (.int x0), .val (.int x1), .val (.int y0), .val (.int y1), .val (.int (2 : Int32)), .val (.int bo1), .val (.int bo2), .val (.int kd), .unset, .unset, .unset, .unset, .unset, .unset, .unset, .unset] [(.ref b37)])) _
      refine XS.astore X39.here hx rfl (hb hby at_137) rfl rfl (l' := #[.val (.int p1), .val (.int p2), .val (.int p3), .val (.int p4), .val (.int p5), .val (.int (0 : Int32)), .val (.int x0), .val (.int x1), .val (.int y0), .val (.int y1), .val (.int (2 : Int32)), .val (.int bo1), .val (.int bo2), .val (.int kd), .val (.ref b37), .unset, .unset, .unset, .unset, .unset, .unset, .unset]) rfl ?_
      show Steps p.tables e below (T39.setTop (mkF m 139 #[.val (.int p1), .val (.int p2), .val (.int p3), .val (.int p4), .val (.int p5), .val (.int (0 : Int32)), .val (.int x0), .val (.int x1), .val (.int y0), .val (.int y1), .val (.int (2 : Int32)), .val (.int bo1), .val (.int bo2), .val (.int kd), .val (.ref b37), .unset, .unset, .unset, .unset, .unset, .unset, .unset] [])) _
      refine st40 _ ?_
      show Steps p.tables e below (T40.setTop (mkF m 142 #[.val (.int p1), .val (.int p2), .val (.int p3), .val (.int p4), .val (.int p5), .val (.int (0 : Int32)), .val (.int x0), .val (.int x1), .val (.int y0), .val (.int y1), .val (.int (2 : Int32)), .val (.int bo1), .val (.int bo2), .val (.int kd), .val (.ref b37), .unset, .unset, .unset, .unset, .unset, .unset, .unset] [(.ref b40)])) _
      refine XS.dup X40.here hx rfl (hb hby at_142) rfl rfl ?_
      show Steps p.tables e below (T40.setTop (mkF m 143 #[.val (.int p1), .val (.int p2), .val (.int p3), .val (.int p4), .val (.int p5), .val (.int (0 : Int32)), .val (.int x0), .val (.int x1), .val (.int y0), .val (.int y1), .val (.int (2 : Int32)), .val (.int bo1), .val (.int bo2), .val (.int kd), .val (.ref b37), .unset, .unset, .unset, .unset, .unset, .unset, .unset] [(.ref b40), (.ref b40)])) _
      refine XS.iload X40.here hx rfl (hb hby at_143) rfl ?_
      show Steps p.tables e below (T40.setTop (mkF m 145 #[.val (.int p1), .val (.int p2), .val (.int p3), .val (.int p4), .val (.int p5), .val (.int (0 : Int32)), .val (.int x0), .val (.int x1), .val (.int y0), .val (.int y1), .val (.int (2 : Int32)), .val (.int bo1), .val (.int bo2), .val (.int kd), .val (.ref b37), .unset, .unset, .unset, .unset, .unset, .unset, .unset] [(.int (2 : Int32)), (.ref b40), (.ref b40)])) _
      refine XS.iload X40.here hx rfl (hb hby at_145) rfl ?_
      show Steps p.tables e below (T40.setTop (mkF m 147 #[.val (.int p1), .val (.int p2), .val (.int p3), .val (.int p4), .val (.int p5), .val (.int (0 : Int32)), .val (.int x0), .val (.int x1), .val (.int y0), .val (.int y1), .val (.int (2 : Int32)), .val (.int bo1), .val (.int bo2), .val (.int kd), .val (.ref b37), .unset, .unset, .unset, .unset, .unset, .unset, .unset] [(.int y0), (.int (2 : Int32)), (.ref b40), (.ref b40)])) _
      refine XS.iload X40.here hx rfl (hb hby at_147) rfl ?_
      exact k)
    obtain ⟨_, _, ⟨T42, L42, k42, n42⟩, -, X42, ⟨Lc42, hQ42, l42, y42, z42⟩, st42⟩ := Jvm.LawKit.callS X40 hx (y := (⟨"com/example/steadyhand/steadyhand/history/RecordedExecutionEqualsPinLaw", "chars", "(III)[C"⟩ : MethodName)) hown39 (mvT hZ39 (hw _ (List.mem_of_getElem? (i := 4) rfl))) (mvT hZ39 (hw _ (List.mem_of_getElem? (i := 5) rfl))) (mvT hZ39 (hw _ (List.mem_of_getElem? (i := 6) rfl))) (mvT hZ39 (hw _ (List.mem_of_getElem? (i := 7) rfl))) (by decide) (backOf (W := 2) (rm_ch2 l Z a0 hw [] y0 y1 h40 n0 (Nat.le_trans Z0 O40.1) h_y0 h_y1) hZ39 (hw _ (List.mem_of_getElem? (i := 7) rfl)) (hw _ (List.mem_of_getElem? (i := 6) rfl)) (by decide) (by decide)) (g := (mkF m 149 #[.val (.int p1), .val (.int p2), .val (.int p3), .val (.int p4), .val (.int p5), .val (.int (0 : Int32)), .val (.int x0), .val (.int x1), .val (.int y0), .val (.int y1), .val (.int (2 : Int32)), .val (.int bo1), .val (.int bo2), .val (.int kd), .val (.ref b37), .unset, .unset, .unset, .unset, .unset, .unset, .unset] [(.int y1), (.int y0), (.int (2 : Int32)), (.ref b40), (.ref b40)])) rfl (by rw [hml]; rfl) (argsL := [(.int (2 : Int32)), (.int y0), (.int y1)]) (rest := [(.ref b40), (.ref b40)]) (lenOf pd_4 rfl) rfl (by show 2 * 0 + _ ≤ _; exact Nat.le_of_eq rfl) (hb hby at_149) (fun _ _ => ⟨rfl, e40, (by decide : 5 + 1 ≤ _), (by decide : 12 + 2 ≤ _)⟩)
    dsimp only [Pt.U, Pt.locs, Pt.cells, Pt.slots] at X42 l42 y42 z42 st42 hQ42
    rw [y42, z42] at X42
    obtain ⟨b42, kc42, rfl, N42q, E42, zz42, V42⟩ := hQ42
    have N42 : Fr n0 L42 := by rw [l42]; exact Fr.app N39 N42q
    have ne_b37_b42 : b37 ≠ b42 := Nat.ne_of_lt (Nat.lt_of_lt_of_le E40_b37.lt zz42)
    have ne_al39_b42 : al39 ≠ b42 := Nat.ne_of_lt (Nat.lt_of_lt_of_le E40_al39.lt zz42)
    have ne_b40_b42 : b40 ≠ b42 := Nat.ne_of_lt (Nat.lt_of_lt_of_le A40.lt zz42)
    have ne_t39_b42 : t39 ≠ b42 := Nat.ne_of_lt (Nat.lt_of_lt_of_le V40_t39.lt zz42)
    have z_b42 : h0.size ≤ b42 := Nat.le_trans O40.1 zz42
    have g_b42 : n0 ≤ b42 := Nat.le_trans Z0 z_b42
    have E42_b37 := E40_b37.ext E42
    have E42_al39 := E40_al39.ext E42
    have E42_b40 := A40.ext E42
    have V42_t39 := V40_t39.ext E42
    have F42_al39_coder := F40_al39_coder.ext E42
    have F42_al39_value := F40_al39_value.ext E42
    have F42_b37_coder := F40_b37_coder.ext E42
    have F42_b37_value := F40_b37_value.ext E42
    have F42_b40_value := F40_b40_value.ext E42
    have F42_b40_coder := F40_b40_coder.ext E42
    have O42 := own_ext_trans O40 E42
    have hk42 : T39.heap.size ≤ T42.heap.size := Nat.le_trans hk40 E42.1
    obtain ⟨_, _, ⟨T43, L43, k43, n43⟩, -, X43, ⟨Lc43, hQ43, l43, y43, z43⟩, st43⟩ := X42.specialBack hx (y := (⟨"java/lang/String", "<init>", "([C)V"⟩ : MethodName)) rfl hown39 (mvT hZ39 (hw _ (List.mem_of_getElem? (i := 9) rfl))) (mvT hZ39 (hw _ (List.mem_of_getElem? (i := 10) rfl))) (mvT hZ39 (hw _ (List.mem_of_getElem? (i := 11) rfl))) (by decide) (StrChars.Road.backV (W := 1) hZ39 hws (kI := 4) (hw _ (List.mem_of_getElem? (i := 2) rfl)) (x := b40) (b := b42) (cs := [y0, y1]) (bs := [y0.toInt8.toInt32, y1.toInt8.toInt32]) (n := 2) (n0 := n0) g_b40 (Nat.le_trans Z0 O42.1) E42_b40 F42_b40_value F42_b40_coder V42 (Sc.ext O42) hzc rfl rfl (by decide) (by decide) (own_all2 h_y0 h_y1) rfl (by decide) (by decide)) (g := (mkF m 152 #[.val (.int p1), .val (.int p2), .val (.int p3), .val (.int p4), .val (.int p5), .val (.int (0 : Int32)), .val (.int x0), .val (.int x1), .val (.int y0), .val (.int y1), .val (.int (2 : Int32)), .val (.int bo1), .val (.int bo2), .val (.int kd), .val (.ref b37), .unset, .unset, .unset, .unset, .unset, .unset, .unset] [(.ref b42), (.ref b40), (.ref b40)])) rfl (by rw [hml]; rfl) (Steps.refl _) (a := b40) (argsL := [(.ref b42)]) (rest := [(.ref b40)]) (lenOf pd_5 rfl) rfl (by show 2 * 0 + _ ≤ _; exact Nat.le_of_eq rfl) (hb hby at_152) (fun _ _ => ⟨rfl, rfl, (by decide : 6 + 1 ≤ _), (by decide : 14 + 2 ≤ _)⟩)
    dsimp only [Pt.U, Pt.locs, Pt.cells, Pt.slots] at X43 l43 y43 z43 st43 hQ43
    rw [y43, z43] at X43
    obtain ⟨rfl, N43q, K43c, E43c, C43c, t43, kb43, _, _, _, V43c, A43c⟩ := hQ43
    have N43 : Fr n0 L43 := by rw [l43]; exact Fr.app N42 N43q
    have E43_b37 := E42_b37.keep K43c
    have E43_al39 := E42_al39.keep K43c
    have E43_b40 := E42_b40.keep K43c
    have V43_t39 := V42_t39.keep K43c (ninS ne_t39_b40 nin0)
    have V43_b42 := V42.keep K43c (ninS (Ne.symm ne_b40_b42) nin0)
    have F43_al39_coder := F42_al39_coder.keep K43c (ninS ne_al39_b40 nin0)
    have F43_al39_value := F42_al39_value.keep K43c (ninS ne_al39_b40 nin0)
    have F43_b37_coder := F42_b37_coder.keep K43c (ninS ne_b37_b40 nin0)
    have F43_b37_value := F42_b37_value.keep K43c (ninS ne_b37_b40 nin0)
    have O43 := own_ext_keep O42 K43c (allS z_b40 all0)
    have hk43 : T39.heap.size ≤ T43.heap.size := Nat.le_trans hk42 K43c.1
    have pre44 : ∀ t, Steps p.tables e below (T43.setTop (mkF m 157 #[.val (.int p1), .val (.int p2), .val (.int p3), .val (.int p4), .val (.int p5), .val (.int (0 : Int32)), .val (.int x0), .val (.int x1), .val (.int y0), .val (.int y1), .val (.int (2 : Int32)), .val (.int bo1), .val (.int bo2), .val (.int kd), .val (.ref b37), .val (.ref b40), .unset, .unset, .unset, .unset, .unset, .unset] [])) t → Steps p.tables e below (s₁.setTop (entryFrame m #[(.int p1), (.int p2), (.int p3), (.int p4), (.int p5)] maxLocals)) t := fun t k => pre41 t (by
      show Steps p.tables e below (T40.setTop (mkF m 149 #[.val (.int p1), .val (.int p2), .val (.int p3), .val (.int p4), .val (.int p5), .val (.int (0 : Int32)), .val (.int x0), .val (.int x1), .val (.int y0), .val (.int y1), .val (.int (2 : Int32)), .val (.int bo1), .val (.int bo2), .val (.int kd), .val (.ref b37), .unset, .unset, .unset, .unset, .unset, .unset, .unset] [(.int y1), (.int y0), (.int (2 : Int32)), (.ref b40), (.ref b40)])) _
      refine st42 _ ?_
      show Steps p.tables e below (T42.setTop (mkF m 152 #[.val (.int p1), .val (.int p2), .val (.int p3), .val (.int p4), .val (.int p5), .val (.int (0 : Int32)), .val (.int x0), .val (.int x1), .val (.int y0), .val (.int y1), .val (.int (2 : Int32)), .val (.int bo1), .val (.int bo2), .val (.int kd), .val (.ref b37), .unset, .unset, .unset, .unset, .unset, .unset, .unset] [(.ref b42), (.ref b40), (.ref b40)])) _
      refine st43.trans ?_
      show Steps p.tables e below (T43.setTop (mkF m 155 #[.val (.int p1), .val (.int p2), .val (.int p3), .val (.int p4), .val (.int p5), .val (.int (0 : Int32)), .val (.int x0), .val (.int x1), .val (.int y0), .val (.int y1), .val (.int (2 : Int32)), .val (.int bo1), .val (.int bo2), .val (.int kd), .val (.ref b37), .unset, .unset, .unset, .unset, .unset, .unset, .unset] [(.ref b40)])) _
      refine XS.astore X43.here hx rfl (hb hby at_155) rfl rfl (l' := #[.val (.int p1), .val (.int p2), .val (.int p3), .val (.int p4), .val (.int p5), .val (.int (0 : Int32)), .val (.int x0), .val (.int x1), .val (.int y0), .val (.int y1), .val (.int (2 : Int32)), .val (.int bo1), .val (.int bo2), .val (.int kd), .val (.ref b37), .val (.ref b40), .unset, .unset, .unset, .unset, .unset, .unset]) rfl ?_
      exact k)
    exact own_tail (s := s) Z a0 hw p1 p2 p3 p4 p5 (0 : Int32) x0 x1 y0 y1 (2 : Int32) bo1 bo2 kd b37 b40 [] [y0, y1] T43.heap n0 (Nat.le_trans Z0 O43.1) (X43.more (by decide) (by decide)) hx hby hml Bd.returns Bd.notSynchronized hZ39 hown39 hS39 hk43 rfl N43 (own_str0 E43_b37 F43_b37_coder F43_b37_value V43_t39) (own_strN (cs := [y0, y1]) (bs := [y0.toInt8.toInt32, y1.toInt8.toInt32]) (n := 2) rfl (by decide) rfl rfl (own_all2 h_y0 h_y1) E43c C43c V43c A43c) (Or.inl ⟨rfl, rfl⟩) (Or.inr (Or.inr ⟨rfl, rfl⟩)) h_bo1 h_bo2 zc (Sc.ext O43) hzc pre44
  · rw [hl1, hl2] at pre20
    have O0 := own_ext_refl h0
    obtain ⟨T45, h45, X45, e45, E45, A45, D45, -, st45⟩ := newO X0 hx hZ hown (hw _ (List.mem_of_getElem? (i := 1) rfl)) (hw _ (List.mem_of_getElem? (i := 2) rfl)) (hw _ (List.mem_of_getElem? (i := 3) rfl)) e0 (g := (mkF m 121 #[.val (.int p1), .val (.int p2), .val (.int p3), .val (.int p4), .val (.int p5), .val (.int (1 : Int32)), .val (.int x0), .val (.int x1), .val (.int y0), .val (.int y1), .val (.int (0 : Int32)), .val (.int bo1), .val (.int bo2), .val (.int kd), .unset, .unset, .unset, .unset, .unset, .unset, .unset, .unset] [])) rfl (hb hby at_121) (by decide) (by decide)
    obtain ⟨b45, g45⟩ : ∃ z, z = h0.size := ⟨_, rfl⟩
    rw [← g45] at A45 D45 st45
    have z_b45 : h0.size ≤ b45 := Nat.le_trans O0.1 (Nat.le_of_eq g45.symm)
    have g_b45 : n0 ≤ b45 := Nat.le_trans Z0 z_b45
    have O45 := own_ext_trans O0 E45
    have F45_b45_value : Fld Z h45 b45 "java/lang/String" "value" "[B" .null := D45 (Or.inr (hw _ (List.mem_of_getElem? (i := 21) rfl))) (ty := (.array .byte)) (by decide)
    have F45_b45_coder : Fld Z h45 b45 "java/lang/String" "coder" "B" (.int (0 : Int32)) := D45 (Or.inr (hw _ (List.mem_of_getElem? (i := 22) rfl))) (ty := .byte) (by decide)
    obtain ⟨_, _, ⟨T46, L46, k46, n46⟩, -, X46, ⟨Lc46, hQ46, l46, y46, z46⟩, st46⟩ := Jvm.LawKit.callS X45 hx (y := (⟨"com/example/steadyhand/steadyhand/history/RecordedExecutionEqualsPinLaw", "chars", "(III)[C"⟩ : MethodName)) hown (mvT hZ (hw _ (List.mem_of_getElem? (i := 4) rfl))) (mvT hZ (hw _ (List.mem_of_getElem? (i := 5) rfl))) (mvT hZ (hw _ (List.mem_of_getElem? (i := 6) rfl))) (mvT hZ (hw _ (List.mem_of_getElem? (i := 7) rfl))) (by decide) (backOf (W := 2) (rm_ch1 l Z a0 hw [] x0 x1 h45 n0 (Nat.le_trans Z0 O45.1) h_x0 h_x1) hZ (hw _ (List.mem_of_getElem? (i := 7) rfl)) (hw _ (List.mem_of_getElem? (i := 6) rfl)) (by decide) (by decide)) (g := (mkF m 131 #[.val (.int p1), .val (.int p2), .val (.int p3), .val (.int p4), .val (.int p5), .val (.int (1 : Int32)), .val (.int x0), .val (.int x1), .val (.int y0), .val (.int y1), .val (.int (0 : Int32)), .val (.int bo1), .val (.int bo2), .val (.int kd), .unset, .unset, .unset, .unset, .unset, .unset, .unset, .unset] [(.int x1), (.int x0), (.int (1 : Int32)), (.ref b45), (.ref b45)])) rfl (by rw [hml]; rfl) (argsL := [(.int (1 : Int32)), (.int x0), (.int x1)]) (rest := [(.ref b45), (.ref b45)]) (lenOf pd_4 rfl) rfl (by show 2 * 0 + _ ≤ _; exact Nat.le_of_eq rfl) (hb hby at_131) (fun _ _ => ⟨rfl, e45, (by decide : 1 + 1 ≤ _), (by decide : 4 + 1 ≤ _)⟩)
    dsimp only [Pt.U, Pt.locs, Pt.cells, Pt.slots] at X46 l46 y46 z46 st46 hQ46
    rw [y46, z46] at X46
    obtain ⟨b46, kc46, rfl, N46q, E46, zz46, V46⟩ := hQ46
    have N46 : Fr n0 L46 := by rw [l46]; exact Fr.app N0 N46q
    have ne_b45_b46 : b45 ≠ b46 := Nat.ne_of_lt (Nat.lt_of_lt_of_le A45.lt zz46)
    have z_b46 : h0.size ≤ b46 := Nat.le_trans O45.1 zz46
    have g_b46 : n0 ≤ b46 := Nat.le_trans Z0 z_b46
    have E46_b45 := A45.ext E46
    have F46_b45_value := F45_b45_value.ext E46
    have F46_b45_coder := F45_b45_coder.ext E46
    have O46 := own_ext_trans O45 E46
    obtain ⟨_, _, ⟨T47, L47, k47, n47⟩, -, X47, ⟨Lc47, hQ47, l47, y47, z47⟩, st47⟩ := X46.specialBack hx (y := (⟨"java/lang/String", "<init>", "([C)V"⟩ : MethodName)) rfl hown (mvT hZ (hw _ (List.mem_of_getElem? (i := 9) rfl))) (mvT hZ (hw _ (List.mem_of_getElem? (i := 10) rfl))) (mvT hZ (hw _ (List.mem_of_getElem? (i := 11) rfl))) (by decide) (StrChars.Road.backV (W := 1) hZ hws (kI := 4) (hw _ (List.mem_of_getElem? (i := 2) rfl)) (x := b45) (b := b46) (cs := [x0]) (bs := [x0.toInt8.toInt32]) (n := 1) (n0 := n0) g_b45 (Nat.le_trans Z0 O46.1) E46_b45 F46_b45_value F46_b45_coder V46 (Sc.ext O46) hzc rfl rfl (by decide) (by decide) (own_all1 h_x0) rfl (by decide) (by decide)) (g := (mkF m 134 #[.val (.int p1), .val (.int p2), .val (.int p3), .val (.int p4), .val (.int p5), .val (.int (1 : Int32)), .val (.int x0), .val (.int x1), .val (.int y0), .val (.int y1), .val (.int (0 : Int32)), .val (.int bo1), .val (.int bo2), .val (.int kd), .unset, .unset, .unset, .unset, .unset, .unset, .unset, .unset] [(.ref b46), (.ref b45), (.ref b45)])) rfl (by rw [hml]; rfl) (Steps.refl _) (a := b45) (argsL := [(.ref b46)]) (rest := [(.ref b45)]) (lenOf pd_5 rfl) rfl (by show 2 * 0 + _ ≤ _; exact Nat.le_of_eq rfl) (hb hby at_134) (fun _ _ => ⟨rfl, rfl, (by decide : 2 + 1 ≤ _), (by decide : 5 + 1 ≤ _)⟩)
    dsimp only [Pt.U, Pt.locs, Pt.cells, Pt.slots] at X47 l47 y47 z47 st47 hQ47
    rw [y47, z47] at X47
    obtain ⟨rfl, N47q, K47c, E47c, C47c, t47, kb47, _, _, _, V47c, A47c⟩ := hQ47
    have N47 : Fr n0 L47 := by rw [l47]; exact Fr.app N46 N47q
    have E47_b45 := E46_b45.keep K47c
    have V47_b46 := V46.keep K47c (ninS (Ne.symm ne_b45_b46) nin0)
    have O47 := own_ext_keep O46 K47c (allS z_b45 all0)
    obtain ⟨T48, h48, X48, e48, E48, A48, D48, -, st48⟩ := newO X47 hx hZ hown (hw _ (List.mem_of_getElem? (i := 1) rfl)) (hw _ (List.mem_of_getElem? (i := 2) rfl)) (hw _ (List.mem_of_getElem? (i := 3) rfl)) rfl (g := (mkF m 139 #[.val (.int p1), .val (.int p2), .val (.int p3), .val (.int p4), .val (.int p5), .val (.int (1 : Int32)), .val (.int x0), .val (.int x1), .val (.int y0), .val (.int y1), .val (.int (0 : Int32)), .val (.int bo1), .val (.int bo2), .val (.int kd), .val (.ref b45), .unset, .unset, .unset, .unset, .unset, .unset, .unset] [])) rfl (hb hby at_139) (by decide) (by decide)
    obtain ⟨b48, g48⟩ : ∃ z, z = T47.heap.size := ⟨_, rfl⟩
    rw [← g48] at A48 D48 st48
    have ne_b45_b48 : b45 ≠ b48 := Nat.ne_of_lt (Nat.lt_of_lt_of_le E47c.lt (Nat.le_of_eq g48.symm))
    have ne_t47_b48 : t47 ≠ b48 := Nat.ne_of_lt (Nat.lt_of_lt_of_le A47c.lt (Nat.le_of_eq g48.symm))
    have z_b48 : h0.size ≤ b48 := Nat.le_trans O47.1 (Nat.le_of_eq g48.symm)
    have g_b48 : n0 ≤ b48 := Nat.le_trans Z0 z_b48
    have E48_b45 := E47c.ext E48
    have V48_t47 := A47c.ext E48
    have F48_b45_coder := C47c.ext E48
    have F48_b45_value := V47c.ext E48
    have O48 := own_ext_trans O47 E48
    have F48_b48_value : Fld Z h48 b48 "java/lang/String" "value" "[B" .null := D48 (Or.inr (hw _ (List.mem_of_getElem? (i := 21) rfl))) (ty := (.array .byte)) (by decide)
    have F48_b48_coder : Fld Z h48 b48 "java/lang/String" "coder" "B" (.int (0 : Int32)) := D48 (Or.inr (hw _ (List.mem_of_getElem? (i := 22) rfl))) (ty := .byte) (by decide)
    have pre49 : ∀ t, Steps p.tables e below (T48.setTop (mkF m 149 #[.val (.int p1), .val (.int p2), .val (.int p3), .val (.int p4), .val (.int p5), .val (.int (1 : Int32)), .val (.int x0), .val (.int x1), .val (.int y0), .val (.int y1), .val (.int (0 : Int32)), .val (.int bo1), .val (.int bo2), .val (.int kd), .val (.ref b45), .unset, .unset, .unset, .unset, .unset, .unset, .unset] [(.int y1), (.int y0), (.int (0 : Int32)), (.ref b48), (.ref b48)])) t → Steps p.tables e below (s₁.setTop (entryFrame m #[(.int p1), (.int p2), (.int p3), (.int p4), (.int p5)] maxLocals)) t := fun t k => pre20 t (by
      show Steps p.tables e below (s₁.setTop (mkF m 121 #[.val (.int p1), .val (.int p2), .val (.int p3), .val (.int p4), .val (.int p5), .val (.int (1 : Int32)), .val (.int x0), .val (.int x1), .val (.int y0), .val (.int y1), .val (.int (0 : Int32)), .val (.int bo1), .val (.int bo2), .val (.int kd), .unset, .unset, .unset, .unset, .unset, .unset, .unset, .unset] [])) _
      refine st45 _ ?_
      show Steps p.tables e below (T45.setTop (mkF m 124 #[.val (.int p1), .val (.int p2), .val (.int p3), .val (.int p4), .val (.int p5), .val (.int (1 : Int32)), .val (.int x0), .val (.int x1), .val (.int y0), .val (.int y1), .val (.int (0 : Int32)), .val (.int bo1), .val (.int bo2), .val (.int kd), .unset, .unset, .unset, .unset, .unset, .unset, .unset, .unset] [(.ref b45)])) _
      refine XS.dup X45.here hx rfl (hb hby at_124) rfl rfl ?_
      show Steps p.tables e below (T45.setTop (mkF m 125 #[.val (.int p1), .val (.int p2), .val (.int p3), .val (.int p4), .val (.int p5), .val (.int (1 : Int32)), .val (.int x0), .val (.int x1), .val (.int y0), .val (.int y1), .val (.int (0 : Int32)), .val (.int bo1), .val (.int bo2), .val (.int kd), .unset, .unset, .unset, .unset, .unset, .unset, .unset, .unset] [(.ref b45), (.ref b45)])) _
      refine XS.iload X45.here hx rfl (hb hby at_125) rfl ?_
      show Steps p.tables e below (T45.setTop (mkF m 127 #[.val (.int p1), .val (.int p2), .val (.int p3), .val (.int p4), .val (.int p5), .val (.int (1 : Int32)), .val (.int x0), .val (.int x1), .val (.int y0), .val (.int y1), .val (.int (0 : Int32)), .val (.int bo1), .val (.int bo2), .val (.int kd), .unset, .unset, .unset, .unset, .unset, .unset, .unset, .unset] [(.int (1 : Int32)), (.ref b45), (.ref b45)])) _
      refine XS.iload X45.here hx rfl (hb hby at_127) rfl ?_
      show Steps p.tables e below (T45.setTop (mkF m 129 #[.val (.int p1), .val (.int p2), .val (.int p3), .val (.int p4), .val (.int p5), .val (.int (1 : Int32)), .val (.int x0), .val (.int x1), .val (.int y0), .val (.int y1), .val (.int (0 : Int32)), .val (.int bo1), .val (.int bo2), .val (.int kd), .unset, .unset, .unset, .unset, .unset, .unset, .unset, .unset] [(.int x0), (.int (1 : Int32)), (.ref b45), (.ref b45)])) _
      refine XS.iload X45.here hx rfl (hb hby at_129) rfl ?_
      show Steps p.tables e below (T45.setTop (mkF m 131 #[.val (.int p1), .val (.int p2), .val (.int p3), .val (.int p4), .val (.int p5), .val (.int (1 : Int32)), .val (.int x0), .val (.int x1), .val (.int y0), .val (.int y1), .val (.int (0 : Int32)), .val (.int bo1), .val (.int bo2), .val (.int kd), .unset, .unset, .unset, .unset, .unset, .unset, .unset, .unset] [(.int x1), (.int x0), (.int (1 : Int32)), (.ref b45), (.ref b45)])) _
      refine st46 _ ?_
      show Steps p.tables e below (T46.setTop (mkF m 134 #[.val (.int p1), .val (.int p2), .val (.int p3), .val (.int p4), .val (.int p5), .val (.int (1 : Int32)), .val (.int x0), .val (.int x1), .val (.int y0), .val (.int y1), .val (.int (0 : Int32)), .val (.int bo1), .val (.int bo2), .val (.int kd), .unset, .unset, .unset, .unset, .unset, .unset, .unset, .unset] [(.ref b46), (.ref b45), (.ref b45)])) _
      refine st47.trans ?_
      show Steps p.tables e below (T47.setTop (mkF m 137 #[.val (.int p1), .val (.int p2), .val (.int p3), .val (.int p4), .val (.int p5), .val (.int (1 : Int32)), .val (.int x0), .val (.int x1), .val (.int y0), .val (.int y1), .val (.int (0 : Int32)), .val (.int bo1), .val (.int bo2), .val (.int kd), .unset, .unset, .unset, .unset, .unset, .unset, .unset, .unset] [(.ref b45)])) _
      refine XS.astore X47.here hx rfl (hb hby at_137) rfl rfl (l' := #[.val (.int p1), .val (.int p2), .val (.int p3), .val (.int p4), .val (.int p5), .val (.int (1 : Int32)), .val (.int x0), .val (.int x1), .val (.int y0), .val (.int y1), .val (.int (0 : Int32)), .val (.int bo1), .val (.int bo2), .val (.int kd), .val (.ref b45), .unset, .unset, .unset, .unset, .unset, .unset, .unset]) rfl ?_
      show Steps p.tables e below (T47.setTop (mkF m 139 #[.val (.int p1), .val (.int p2), .val (.int p3), .val (.int p4), .val (.int p5), .val (.int (1 : Int32)), .val (.int x0), .val (.int x1), .val (.int y0), .val (.int y1), .val (.int (0 : Int32)), .val (.int bo1), .val (.int bo2), .val (.int kd), .val (.ref b45), .unset, .unset, .unset, .unset, .unset, .unset, .unset] [])) _
      refine st48 _ ?_
      show Steps p.tables e below (T48.setTop (mkF m 142 #[.val (.int p1), .val (.int p2), .val (.int p3), .val (.int p4), .val (.int p5), .val (.int (1 : Int32)), .val (.int x0), .val (.int x1), .val (.int y0), .val (.int y1), .val (.int (0 : Int32)), .val (.int bo1), .val (.int bo2), .val (.int kd), .val (.ref b45), .unset, .unset, .unset, .unset, .unset, .unset, .unset] [(.ref b48)])) _
      refine XS.dup X48.here hx rfl (hb hby at_142) rfl rfl ?_
      show Steps p.tables e below (T48.setTop (mkF m 143 #[.val (.int p1), .val (.int p2), .val (.int p3), .val (.int p4), .val (.int p5), .val (.int (1 : Int32)), .val (.int x0), .val (.int x1), .val (.int y0), .val (.int y1), .val (.int (0 : Int32)), .val (.int bo1), .val (.int bo2), .val (.int kd), .val (.ref b45), .unset, .unset, .unset, .unset, .unset, .unset, .unset] [(.ref b48), (.ref b48)])) _
      refine XS.iload X48.here hx rfl (hb hby at_143) rfl ?_
      show Steps p.tables e below (T48.setTop (mkF m 145 #[.val (.int p1), .val (.int p2), .val (.int p3), .val (.int p4), .val (.int p5), .val (.int (1 : Int32)), .val (.int x0), .val (.int x1), .val (.int y0), .val (.int y1), .val (.int (0 : Int32)), .val (.int bo1), .val (.int bo2), .val (.int kd), .val (.ref b45), .unset, .unset, .unset, .unset, .unset, .unset, .unset] [(.int (0 : Int32)), (.ref b48), (.ref b48)])) _
      refine XS.iload X48.here hx rfl (hb hby at_145) rfl ?_
      show Steps p.tables e below (T48.setTop (mkF m 147 #[.val (.int p1), .val (.int p2), .val (.int p3), .val (.int p4), .val (.int p5), .val (.int (1 : Int32)), .val (.int x0), .val (.int x1), .val (.int y0), .val (.int y1), .val (.int (0 : Int32)), .val (.int bo1), .val (.int bo2), .val (.int kd), .val (.ref b45), .unset, .unset, .unset, .unset, .unset, .unset, .unset] [(.int y0), (.int (0 : Int32)), (.ref b48), (.ref b48)])) _
      refine XS.iload X48.here hx rfl (hb hby at_147) rfl ?_
      exact k)
    obtain ⟨_, _, ⟨T50, L50, k50, n50⟩, -, X50, ⟨Lc50, hQ50, l50, y50, z50⟩, st50⟩ := Jvm.LawKit.callS X48 hx (y := (⟨"com/example/steadyhand/steadyhand/history/RecordedExecutionEqualsPinLaw", "chars", "(III)[C"⟩ : MethodName)) hown (mvT hZ (hw _ (List.mem_of_getElem? (i := 4) rfl))) (mvT hZ (hw _ (List.mem_of_getElem? (i := 5) rfl))) (mvT hZ (hw _ (List.mem_of_getElem? (i := 6) rfl))) (mvT hZ (hw _ (List.mem_of_getElem? (i := 7) rfl))) (by decide) (backOf (W := 2) (rm_ch0 l Z a0 hw [] y0 y1 h48 n0 (Nat.le_trans Z0 O48.1) h_y0 h_y1) hZ (hw _ (List.mem_of_getElem? (i := 7) rfl)) (hw _ (List.mem_of_getElem? (i := 6) rfl)) (by decide) (by decide)) (g := (mkF m 149 #[.val (.int p1), .val (.int p2), .val (.int p3), .val (.int p4), .val (.int p5), .val (.int (1 : Int32)), .val (.int x0), .val (.int x1), .val (.int y0), .val (.int y1), .val (.int (0 : Int32)), .val (.int bo1), .val (.int bo2), .val (.int kd), .val (.ref b45), .unset, .unset, .unset, .unset, .unset, .unset, .unset] [(.int y1), (.int y0), (.int (0 : Int32)), (.ref b48), (.ref b48)])) rfl (by rw [hml]; rfl) (argsL := [(.int (0 : Int32)), (.int y0), (.int y1)]) (rest := [(.ref b48), (.ref b48)]) (lenOf pd_4 rfl) rfl (by show 2 * 0 + _ ≤ _; exact Nat.le_of_eq rfl) (hb hby at_149) (fun _ _ => ⟨rfl, e48, (by decide : 4 + 1 ≤ _), (by decide : 10 + 0 ≤ _)⟩)
    dsimp only [Pt.U, Pt.locs, Pt.cells, Pt.slots] at X50 l50 y50 z50 st50 hQ50
    rw [y50, z50] at X50
    obtain ⟨b50, kc50, rfl, N50q, E50, zz50, V50⟩ := hQ50
    have N50 : Fr n0 L50 := by rw [l50]; exact Fr.app N47 N50q
    have ne_b45_b50 : b45 ≠ b50 := Nat.ne_of_lt (Nat.lt_of_lt_of_le E48_b45.lt zz50)
    have ne_b48_b50 : b48 ≠ b50 := Nat.ne_of_lt (Nat.lt_of_lt_of_le A48.lt zz50)
    have ne_t47_b50 : t47 ≠ b50 := Nat.ne_of_lt (Nat.lt_of_lt_of_le V48_t47.lt zz50)
    have z_b50 : h0.size ≤ b50 := Nat.le_trans O48.1 zz50
    have g_b50 : n0 ≤ b50 := Nat.le_trans Z0 z_b50
    have E50_b45 := E48_b45.ext E50
    have E50_b48 := A48.ext E50
    have V50_t47 := V48_t47.ext E50
    have F50_b45_coder := F48_b45_coder.ext E50
    have F50_b45_value := F48_b45_value.ext E50
    have F50_b48_value := F48_b48_value.ext E50
    have F50_b48_coder := F48_b48_coder.ext E50
    have O50 := own_ext_trans O48 E50
    obtain ⟨_, vq51, ⟨T51, L51, k51, n51⟩, hm51, X51, hS51, hg51, ⟨Lc51, hQ51, l51, y51, z51⟩, st51⟩ := X50.specialBackS hx (y := (⟨"java/lang/String", "<init>", "([C)V"⟩ : MethodName)) rfl hown (mvT hZ (hw _ (List.mem_of_getElem? (i := 9) rfl))) (mvT hZ (hw _ (List.mem_of_getElem? (i := 10) rfl))) (mvT hZ (hw _ (List.mem_of_getElem? (i := 11) rfl))) (by decide) (own_backS (W := 1) (G := fun vm => IB Z vm []) (Q := fun v h vm L => Qem Z b48 T50.heap n0 v h vm L) (rm_sBF l Z a0 hw [] b48 b50 T50.heap n0 (Nat.le_trans Z0 O50.1) E50_b48 (.int (0 : Int32)) F50_b48_value F50_b48_coder g_b48 kc50 [] (.int (0 : Int32)) V50 (own_ext_trans hK0 O50) hcH hcW) hZ (hw _ (List.mem_of_getElem? (i := 11) rfl)) (hw _ (List.mem_of_getElem? (i := 3) rfl)) (by decide) (by decide)) (g := (mkF m 152 #[.val (.int p1), .val (.int p2), .val (.int p3), .val (.int p4), .val (.int p5), .val (.int (1 : Int32)), .val (.int x0), .val (.int x1), .val (.int y0), .val (.int y1), .val (.int (0 : Int32)), .val (.int bo1), .val (.int bo2), .val (.int kd), .val (.ref b45), .unset, .unset, .unset, .unset, .unset, .unset, .unset] [(.ref b50), (.ref b48), (.ref b48)])) rfl (by rw [hml]; rfl) (Steps.refl _) (a := b48) (argsL := [(.ref b50)]) (rest := [(.ref b48)]) (lenOf pd_5 rfl) rfl (by show 2 * 0 + _ ≤ _; exact Nat.le_of_eq rfl) (hb hby at_152) (fun vmw hvw => ⟨rfl, rfl, own_ib hG hvw, (by decide : 5 + 2 ≤ _), (by decide : 10 + 4 ≤ _)⟩)
    dsimp only [Pt.U, Pt.locs, Pt.cells, Pt.slots] at X51 hS51 hg51 l51 y51 z51 st51 hQ51
    rw [y51, z51] at X51
    have hZ51 : Z.Warmed39 (s.setVm T51.vm).vm := State.Warmed39.trans hZ hS51.1
    have hown51 : (s.setVm T51.vm).vm.findClass "com/example/steadyhand/steadyhand/history/RecordedExecutionEqualsPinLaw" = some m.cls := (hS51.1.alike.findClass _ _).trans hown
    obtain ⟨rfl, N51q, K51c, E51c, C51c, al51, t51, kb51, V51c, A51c, G51a, G51b, G51c, Li51⟩ := hQ51
    have N51 : Fr n0 L51 := by rw [l51]; exact Fr.app N50 N51q
    have E51_b45 := E50_b45.keep K51c
    have E51_b48 := E50_b48.keep K51c
    have V51_t47 := V50_t47.keep K51c (ninS ne_t47_b48 nin0)
    have V51_b50 := V50.keep K51c (ninS (Ne.symm ne_b48_b50) nin0)
    have F51_b45_coder := F50_b45_coder.keep K51c (ninS ne_b45_b48 nin0)
    have F51_b45_value := F50_b45_value.keep K51c (ninS ne_b45_b48 nin0)
    have O51 := own_ext_keep O50 K51c (allS z_b48 all0)
    have pre52 : ∀ t, Steps p.tables e below (T51.setTop (mkF m 157 #[.val (.int p1), .val (.int p2), .val (.int p3), .val (.int p4), .val (.int p5), .val (.int (1 : Int32)), .val (.int x0), .val (.int x1), .val (.int y0), .val (.int y1), .val (.int (0 : Int32)), .val (.int bo1), .val (.int bo2), .val (.int kd), .val (.ref b45), .val (.ref b48), .unset, .unset, .unset, .unset, .unset, .unset] [])) t → Steps p.tables e below (s₁.setTop (entryFrame m #[(.int p1), (.int p2), (.int p3), (.int p4), (.int p5)] maxLocals)) t := fun t k => pre49 t (by
      show Steps p.tables e below (T48.setTop (mkF m 149 #[.val (.int p1), .val (.int p2), .val (.int p3), .val (.int p4), .val (.int p5), .val (.int (1 : Int32)), .val (.int x0), .val (.int x1), .val (.int y0), .val (.int y1), .val (.int (0 : Int32)), .val (.int bo1), .val (.int bo2), .val (.int kd), .val (.ref b45), .unset, .unset, .unset, .unset, .unset, .unset, .unset] [(.int y1), (.int y0), (.int (0 : Int32)), (.ref b48), (.ref b48)])) _
      refine st50 _ ?_
      show Steps p.tables e below (T50.setTop (mkF m 152 #[.val (.int p1), .val (.int p2), .val (.int p3), .val (.int p4), .val (.int p5), .val (.int (1 : Int32)), .val (.int x0), .val (.int x1), .val (.int y0), .val (.int y1), .val (.int (0 : Int32)), .val (.int bo1), .val (.int bo2), .val (.int kd), .val (.ref b45), .unset, .unset, .unset, .unset, .unset, .unset, .unset] [(.ref b50), (.ref b48), (.ref b48)])) _
      refine st51.trans ?_
      show Steps p.tables e below (T51.setTop (mkF m 155 #[.val (.int p1), .val (.int p2), .val (.int p3), .val (.int p4), .val (.int p5), .val (.int (1 : Int32)), .val (.int x0), .val (.int x1), .val (.int y0), .val (.int y1), .val (.int (0 : Int32)), .val (.int bo1), .val (.int bo2), .val (.int kd), .val (.ref b45), .unset, .unset, .unset, .unset, .unset, .unset, .unset] [(.ref b48)])) _
      refine XS.astore X51.here hx rfl (hb hby at_155) rfl rfl (l' := #[.val (.int p1), .val (.int p2), .val (.int p3), .val (.int p4), .val (.int p5), .val (.int (1 : Int32)), .val (.int x0), .val (.int x1), .val (.int y0), .val (.int y1), .val (.int (0 : Int32)), .val (.int bo1), .val (.int bo2), .val (.int kd), .val (.ref b45), .val (.ref b48), .unset, .unset, .unset, .unset, .unset, .unset]) rfl ?_
      exact k)
    exact own_tail (s := s) Z a0 hw p1 p2 p3 p4 p5 (1 : Int32) x0 x1 y0 y1 (0 : Int32) bo1 bo2 kd b45 b48 [x0] [] T51.heap n0 (Nat.le_trans Z0 O51.1) (X51.more (by decide) (by decide)) hx hby hml Bd.returns Bd.notSynchronized hZ51 hown51 hS51 (Nat.le_refl T51.heap.size) rfl N51 (own_strN (cs := [x0]) (bs := [x0.toInt8.toInt32]) (n := 1) rfl (by decide) rfl rfl (own_all1 h_x0) E51_b45 F51_b45_coder F51_b45_value V51_t47) (own_str0 E51c C51c V51c A51c) (Or.inr (Or.inl ⟨rfl, rfl⟩)) (Or.inl ⟨rfl, rfl⟩) h_bo1 h_bo2 zc (Sc.ext O51) hzc pre52
  · rw [hl1, hl2] at pre20
    have O0 := own_ext_refl h0
    obtain ⟨T53, h53, X53, e53, E53, A53, D53, -, st53⟩ := newO X0 hx hZ hown (hw _ (List.mem_of_getElem? (i := 1) rfl)) (hw _ (List.mem_of_getElem? (i := 2) rfl)) (hw _ (List.mem_of_getElem? (i := 3) rfl)) e0 (g := (mkF m 121 #[.val (.int p1), .val (.int p2), .val (.int p3), .val (.int p4), .val (.int p5), .val (.int (1 : Int32)), .val (.int x0), .val (.int x1), .val (.int y0), .val (.int y1), .val (.int (1 : Int32)), .val (.int bo1), .val (.int bo2), .val (.int kd), .unset, .unset, .unset, .unset, .unset, .unset, .unset, .unset] [])) rfl (hb hby at_121) (by decide) (by decide)
    obtain ⟨b53, g53⟩ : ∃ z, z = h0.size := ⟨_, rfl⟩
    rw [← g53] at A53 D53 st53
    have z_b53 : h0.size ≤ b53 := Nat.le_trans O0.1 (Nat.le_of_eq g53.symm)
    have g_b53 : n0 ≤ b53 := Nat.le_trans Z0 z_b53
    have O53 := own_ext_trans O0 E53
    have F53_b53_value : Fld Z h53 b53 "java/lang/String" "value" "[B" .null := D53 (Or.inr (hw _ (List.mem_of_getElem? (i := 21) rfl))) (ty := (.array .byte)) (by decide)
    have F53_b53_coder : Fld Z h53 b53 "java/lang/String" "coder" "B" (.int (0 : Int32)) := D53 (Or.inr (hw _ (List.mem_of_getElem? (i := 22) rfl))) (ty := .byte) (by decide)
    obtain ⟨_, _, ⟨T54, L54, k54, n54⟩, -, X54, ⟨Lc54, hQ54, l54, y54, z54⟩, st54⟩ := Jvm.LawKit.callS X53 hx (y := (⟨"com/example/steadyhand/steadyhand/history/RecordedExecutionEqualsPinLaw", "chars", "(III)[C"⟩ : MethodName)) hown (mvT hZ (hw _ (List.mem_of_getElem? (i := 4) rfl))) (mvT hZ (hw _ (List.mem_of_getElem? (i := 5) rfl))) (mvT hZ (hw _ (List.mem_of_getElem? (i := 6) rfl))) (mvT hZ (hw _ (List.mem_of_getElem? (i := 7) rfl))) (by decide) (backOf (W := 2) (rm_ch1 l Z a0 hw [] x0 x1 h53 n0 (Nat.le_trans Z0 O53.1) h_x0 h_x1) hZ (hw _ (List.mem_of_getElem? (i := 7) rfl)) (hw _ (List.mem_of_getElem? (i := 6) rfl)) (by decide) (by decide)) (g := (mkF m 131 #[.val (.int p1), .val (.int p2), .val (.int p3), .val (.int p4), .val (.int p5), .val (.int (1 : Int32)), .val (.int x0), .val (.int x1), .val (.int y0), .val (.int y1), .val (.int (1 : Int32)), .val (.int bo1), .val (.int bo2), .val (.int kd), .unset, .unset, .unset, .unset, .unset, .unset, .unset, .unset] [(.int x1), (.int x0), (.int (1 : Int32)), (.ref b53), (.ref b53)])) rfl (by rw [hml]; rfl) (argsL := [(.int (1 : Int32)), (.int x0), (.int x1)]) (rest := [(.ref b53), (.ref b53)]) (lenOf pd_4 rfl) rfl (by show 2 * 0 + _ ≤ _; exact Nat.le_of_eq rfl) (hb hby at_131) (fun _ _ => ⟨rfl, e53, (by decide : 1 + 1 ≤ _), (by decide : 4 + 1 ≤ _)⟩)
    dsimp only [Pt.U, Pt.locs, Pt.cells, Pt.slots] at X54 l54 y54 z54 st54 hQ54
    rw [y54, z54] at X54
    obtain ⟨b54, kc54, rfl, N54q, E54, zz54, V54⟩ := hQ54
    have N54 : Fr n0 L54 := by rw [l54]; exact Fr.app N0 N54q
    have ne_b53_b54 : b53 ≠ b54 := Nat.ne_of_lt (Nat.lt_of_lt_of_le A53.lt zz54)
    have z_b54 : h0.size ≤ b54 := Nat.le_trans O53.1 zz54
    have g_b54 : n0 ≤ b54 := Nat.le_trans Z0 z_b54
    have E54_b53 := A53.ext E54
    have F54_b53_value := F53_b53_value.ext E54
    have F54_b53_coder := F53_b53_coder.ext E54
    have O54 := own_ext_trans O53 E54
    obtain ⟨_, _, ⟨T55, L55, k55, n55⟩, -, X55, ⟨Lc55, hQ55, l55, y55, z55⟩, st55⟩ := X54.specialBack hx (y := (⟨"java/lang/String", "<init>", "([C)V"⟩ : MethodName)) rfl hown (mvT hZ (hw _ (List.mem_of_getElem? (i := 9) rfl))) (mvT hZ (hw _ (List.mem_of_getElem? (i := 10) rfl))) (mvT hZ (hw _ (List.mem_of_getElem? (i := 11) rfl))) (by decide) (StrChars.Road.backV (W := 1) hZ hws (kI := 4) (hw _ (List.mem_of_getElem? (i := 2) rfl)) (x := b53) (b := b54) (cs := [x0]) (bs := [x0.toInt8.toInt32]) (n := 1) (n0 := n0) g_b53 (Nat.le_trans Z0 O54.1) E54_b53 F54_b53_value F54_b53_coder V54 (Sc.ext O54) hzc rfl rfl (by decide) (by decide) (own_all1 h_x0) rfl (by decide) (by decide)) (g := (mkF m 134 #[.val (.int p1), .val (.int p2), .val (.int p3), .val (.int p4), .val (.int p5), .val (.int (1 : Int32)), .val (.int x0), .val (.int x1), .val (.int y0), .val (.int y1), .val (.int (1 : Int32)), .val (.int bo1), .val (.int bo2), .val (.int kd), .unset, .unset, .unset, .unset, .unset, .unset, .unset, .unset] [(.ref b54), (.ref b53), (.ref b53)])) rfl (by rw [hml]; rfl) (Steps.refl _) (a := b53) (argsL := [(.ref b54)]) (rest := [(.ref b53)]) (lenOf pd_5 rfl) rfl (by show 2 * 0 + _ ≤ _; exact Nat.le_of_eq rfl) (hb hby at_134) (fun _ _ => ⟨rfl, rfl, (by decide : 2 + 1 ≤ _), (by decide : 5 + 1 ≤ _)⟩)
    dsimp only [Pt.U, Pt.locs, Pt.cells, Pt.slots] at X55 l55 y55 z55 st55 hQ55
    rw [y55, z55] at X55
    obtain ⟨rfl, N55q, K55c, E55c, C55c, t55, kb55, _, _, _, V55c, A55c⟩ := hQ55
    have N55 : Fr n0 L55 := by rw [l55]; exact Fr.app N54 N55q
    have E55_b53 := E54_b53.keep K55c
    have V55_b54 := V54.keep K55c (ninS (Ne.symm ne_b53_b54) nin0)
    have O55 := own_ext_keep O54 K55c (allS z_b53 all0)
    obtain ⟨T56, h56, X56, e56, E56, A56, D56, -, st56⟩ := newO X55 hx hZ hown (hw _ (List.mem_of_getElem? (i := 1) rfl)) (hw _ (List.mem_of_getElem? (i := 2) rfl)) (hw _ (List.mem_of_getElem? (i := 3) rfl)) rfl (g := (mkF m 139 #[.val (.int p1), .val (.int p2), .val (.int p3), .val (.int p4), .val (.int p5), .val (.int (1 : Int32)), .val (.int x0), .val (.int x1), .val (.int y0), .val (.int y1), .val (.int (1 : Int32)), .val (.int bo1), .val (.int bo2), .val (.int kd), .val (.ref b53), .unset, .unset, .unset, .unset, .unset, .unset, .unset] [])) rfl (hb hby at_139) (by decide) (by decide)
    obtain ⟨b56, g56⟩ : ∃ z, z = T55.heap.size := ⟨_, rfl⟩
    rw [← g56] at A56 D56 st56
    have ne_b53_b56 : b53 ≠ b56 := Nat.ne_of_lt (Nat.lt_of_lt_of_le E55c.lt (Nat.le_of_eq g56.symm))
    have ne_t55_b56 : t55 ≠ b56 := Nat.ne_of_lt (Nat.lt_of_lt_of_le A55c.lt (Nat.le_of_eq g56.symm))
    have z_b56 : h0.size ≤ b56 := Nat.le_trans O55.1 (Nat.le_of_eq g56.symm)
    have g_b56 : n0 ≤ b56 := Nat.le_trans Z0 z_b56
    have E56_b53 := E55c.ext E56
    have V56_t55 := A55c.ext E56
    have F56_b53_coder := C55c.ext E56
    have F56_b53_value := V55c.ext E56
    have O56 := own_ext_trans O55 E56
    have F56_b56_value : Fld Z h56 b56 "java/lang/String" "value" "[B" .null := D56 (Or.inr (hw _ (List.mem_of_getElem? (i := 21) rfl))) (ty := (.array .byte)) (by decide)
    have F56_b56_coder : Fld Z h56 b56 "java/lang/String" "coder" "B" (.int (0 : Int32)) := D56 (Or.inr (hw _ (List.mem_of_getElem? (i := 22) rfl))) (ty := .byte) (by decide)
    have pre57 : ∀ t, Steps p.tables e below (T56.setTop (mkF m 149 #[.val (.int p1), .val (.int p2), .val (.int p3), .val (.int p4), .val (.int p5), .val (.int (1 : Int32)), .val (.int x0), .val (.int x1), .val (.int y0), .val (.int y1), .val (.int (1 : Int32)), .val (.int bo1), .val (.int bo2), .val (.int kd), .val (.ref b53), .unset, .unset, .unset, .unset, .unset, .unset, .unset] [(.int y1), (.int y0), (.int (1 : Int32)), (.ref b56), (.ref b56)])) t → Steps p.tables e below (s₁.setTop (entryFrame m #[(.int p1), (.int p2), (.int p3), (.int p4), (.int p5)] maxLocals)) t := fun t k => pre20 t (by
      show Steps p.tables e below (s₁.setTop (mkF m 121 #[.val (.int p1), .val (.int p2), .val (.int p3), .val (.int p4), .val (.int p5), .val (.int (1 : Int32)), .val (.int x0), .val (.int x1), .val (.int y0), .val (.int y1), .val (.int (1 : Int32)), .val (.int bo1), .val (.int bo2), .val (.int kd), .unset, .unset, .unset, .unset, .unset, .unset, .unset, .unset] [])) _
      refine st53 _ ?_
      show Steps p.tables e below (T53.setTop (mkF m 124 #[.val (.int p1), .val (.int p2), .val (.int p3), .val (.int p4), .val (.int p5), .val (.int (1 : Int32)), .val (.int x0), .val (.int x1), .val (.int y0), .val (.int y1), .val (.int (1 : Int32)), .val (.int bo1), .val (.int bo2), .val (.int kd), .unset, .unset, .unset, .unset, .unset, .unset, .unset, .unset] [(.ref b53)])) _
      refine XS.dup X53.here hx rfl (hb hby at_124) rfl rfl ?_
      show Steps p.tables e below (T53.setTop (mkF m 125 #[.val (.int p1), .val (.int p2), .val (.int p3), .val (.int p4), .val (.int p5), .val (.int (1 : Int32)), .val (.int x0), .val (.int x1), .val (.int y0), .val (.int y1), .val (.int (1 : Int32)), .val (.int bo1), .val (.int bo2), .val (.int kd), .unset, .unset, .unset, .unset, .unset, .unset, .unset, .unset] [(.ref b53), (.ref b53)])) _
      refine XS.iload X53.here hx rfl (hb hby at_125) rfl ?_
      show Steps p.tables e below (T53.setTop (mkF m 127 #[.val (.int p1), .val (.int p2), .val (.int p3), .val (.int p4), .val (.int p5), .val (.int (1 : Int32)), .val (.int x0), .val (.int x1), .val (.int y0), .val (.int y1), .val (.int (1 : Int32)), .val (.int bo1), .val (.int bo2), .val (.int kd), .unset, .unset, .unset, .unset, .unset, .unset, .unset, .unset] [(.int (1 : Int32)), (.ref b53), (.ref b53)])) _
      refine XS.iload X53.here hx rfl (hb hby at_127) rfl ?_
      show Steps p.tables e below (T53.setTop (mkF m 129 #[.val (.int p1), .val (.int p2), .val (.int p3), .val (.int p4), .val (.int p5), .val (.int (1 : Int32)), .val (.int x0), .val (.int x1), .val (.int y0), .val (.int y1), .val (.int (1 : Int32)), .val (.int bo1), .val (.int bo2), .val (.int kd), .unset, .unset, .unset, .unset, .unset, .unset, .unset, .unset] [(.int x0), (.int (1 : Int32)), (.ref b53), (.ref b53)])) _
      refine XS.iload X53.here hx rfl (hb hby at_129) rfl ?_
      show Steps p.tables e below (T53.setTop (mkF m 131 #[.val (.int p1), .val (.int p2), .val (.int p3), .val (.int p4), .val (.int p5), .val (.int (1 : Int32)), .val (.int x0), .val (.int x1), .val (.int y0), .val (.int y1), .val (.int (1 : Int32)), .val (.int bo1), .val (.int bo2), .val (.int kd), .unset, .unset, .unset, .unset, .unset, .unset, .unset, .unset] [(.int x1), (.int x0), (.int (1 : Int32)), (.ref b53), (.ref b53)])) _
      refine st54 _ ?_
      show Steps p.tables e below (T54.setTop (mkF m 134 #[.val (.int p1), .val (.int p2), .val (.int p3), .val (.int p4), .val (.int p5), .val (.int (1 : Int32)), .val (.int x0), .val (.int x1), .val (.int y0), .val (.int y1), .val (.int (1 : Int32)), .val (.int bo1), .val (.int bo2), .val (.int kd), .unset, .unset, .unset, .unset, .unset, .unset, .unset, .unset] [(.ref b54), (.ref b53), (.ref b53)])) _
      refine st55.trans ?_
      show Steps p.tables e below (T55.setTop (mkF m 137 #[.val (.int p1), .val (.int p2), .val (.int p3), .val (.int p4), .val (.int p5), .val (.int (1 : Int32)), .val (.int x0), .val (.int x1), .val (.int y0), .val (.int y1), .val (.int (1 : Int32)), .val (.int bo1), .val (.int bo2), .val (.int kd), .unset, .unset, .unset, .unset, .unset, .unset, .unset, .unset] [(.ref b53)])) _
      refine XS.astore X55.here hx rfl (hb hby at_137) rfl rfl (l' := #[.val (.int p1), .val (.int p2), .val (.int p3), .val (.int p4), .val (.int p5), .val (.int (1 : Int32)), .val (.int x0), .val (.int x1), .val (.int y0), .val (.int y1), .val (.int (1 : Int32)), .val (.int bo1), .val (.int bo2), .val (.int kd), .val (.ref b53), .unset, .unset, .unset, .unset, .unset, .unset, .unset]) rfl ?_
      show Steps p.tables e below (T55.setTop (mkF m 139 #[.val (.int p1), .val (.int p2), .val (.int p3), .val (.int p4), .val (.int p5), .val (.int (1 : Int32)), .val (.int x0), .val (.int x1), .val (.int y0), .val (.int y1), .val (.int (1 : Int32)), .val (.int bo1), .val (.int bo2), .val (.int kd), .val (.ref b53), .unset, .unset, .unset, .unset, .unset, .unset, .unset] [])) _
      refine st56 _ ?_
      show Steps p.tables e below (T56.setTop (mkF m 142 #[.val (.int p1), .val (.int p2), .val (.int p3), .val (.int p4), .val (.int p5), .val (.int (1 : Int32)), .val (.int x0), .val (.int x1), .val (.int y0), .val (.int y1), .val (.int (1 : Int32)), .val (.int bo1), .val (.int bo2), .val (.int kd), .val (.ref b53), .unset, .unset, .unset, .unset, .unset, .unset, .unset] [(.ref b56)])) _
      refine XS.dup X56.here hx rfl (hb hby at_142) rfl rfl ?_
      show Steps p.tables e below (T56.setTop (mkF m 143 #[.val (.int p1), .val (.int p2), .val (.int p3), .val (.int p4), .val (.int p5), .val (.int (1 : Int32)), .val (.int x0), .val (.int x1), .val (.int y0), .val (.int y1), .val (.int (1 : Int32)), .val (.int bo1), .val (.int bo2), .val (.int kd), .val (.ref b53), .unset, .unset, .unset, .unset, .unset, .unset, .unset] [(.ref b56), (.ref b56)])) _
      refine XS.iload X56.here hx rfl (hb hby at_143) rfl ?_
      show Steps p.tables e below (T56.setTop (mkF m 145 #[.val (.int p1), .val (.int p2), .val (.int p3), .val (.int p4), .val (.int p5), .val (.int (1 : Int32)), .val (.int x0), .val (.int x1), .val (.int y0), .val (.int y1), .val (.int (1 : Int32)), .val (.int bo1), .val (.int bo2), .val (.int kd), .val (.ref b53), .unset, .unset, .unset, .unset, .unset, .unset, .unset] [(.int (1 : Int32)), (.ref b56), (.ref b56)])) _
      refine XS.iload X56.here hx rfl (hb hby at_145) rfl ?_
      show Steps p.tables e below (T56.setTop (mkF m 147 #[.val (.int p1), .val (.int p2), .val (.int p3), .val (.int p4), .val (.int p5), .val (.int (1 : Int32)), .val (.int x0), .val (.int x1), .val (.int y0), .val (.int y1), .val (.int (1 : Int32)), .val (.int bo1), .val (.int bo2), .val (.int kd), .val (.ref b53), .unset, .unset, .unset, .unset, .unset, .unset, .unset] [(.int y0), (.int (1 : Int32)), (.ref b56), (.ref b56)])) _
      refine XS.iload X56.here hx rfl (hb hby at_147) rfl ?_
      exact k)
    obtain ⟨_, _, ⟨T58, L58, k58, n58⟩, -, X58, ⟨Lc58, hQ58, l58, y58, z58⟩, st58⟩ := Jvm.LawKit.callS X56 hx (y := (⟨"com/example/steadyhand/steadyhand/history/RecordedExecutionEqualsPinLaw", "chars", "(III)[C"⟩ : MethodName)) hown (mvT hZ (hw _ (List.mem_of_getElem? (i := 4) rfl))) (mvT hZ (hw _ (List.mem_of_getElem? (i := 5) rfl))) (mvT hZ (hw _ (List.mem_of_getElem? (i := 6) rfl))) (mvT hZ (hw _ (List.mem_of_getElem? (i := 7) rfl))) (by decide) (backOf (W := 2) (rm_ch1 l Z a0 hw [] y0 y1 h56 n0 (Nat.le_trans Z0 O56.1) h_y0 h_y1) hZ (hw _ (List.mem_of_getElem? (i := 7) rfl)) (hw _ (List.mem_of_getElem? (i := 6) rfl)) (by decide) (by decide)) (g := (mkF m 149 #[.val (.int p1), .val (.int p2), .val (.int p3), .val (.int p4), .val (.int p5), .val (.int (1 : Int32)), .val (.int x0), .val (.int x1), .val (.int y0), .val (.int y1), .val (.int (1 : Int32)), .val (.int bo1), .val (.int bo2), .val (.int kd), .val (.ref b53), .unset, .unset, .unset, .unset, .unset, .unset, .unset] [(.int y1), (.int y0), (.int (1 : Int32)), (.ref b56), (.ref b56)])) rfl (by rw [hml]; rfl) (argsL := [(.int (1 : Int32)), (.int y0), (.int y1)]) (rest := [(.ref b56), (.ref b56)]) (lenOf pd_4 rfl) rfl (by show 2 * 0 + _ ≤ _; exact Nat.le_of_eq rfl) (hb hby at_149) (fun _ _ => ⟨rfl, e56, (by decide : 4 + 1 ≤ _), (by decide : 10 + 1 ≤ _)⟩)
    dsimp only [Pt.U, Pt.locs, Pt.cells, Pt.slots] at X58 l58 y58 z58 st58 hQ58
    rw [y58, z58] at X58
    obtain ⟨b58, kc58, rfl, N58q, E58, zz58, V58⟩ := hQ58
    have N58 : Fr n0 L58 := by rw [l58]; exact Fr.app N55 N58q
    have ne_b53_b58 : b53 ≠ b58 := Nat.ne_of_lt (Nat.lt_of_lt_of_le E56_b53.lt zz58)
    have ne_b56_b58 : b56 ≠ b58 := Nat.ne_of_lt (Nat.lt_of_lt_of_le A56.lt zz58)
    have ne_t55_b58 : t55 ≠ b58 := Nat.ne_of_lt (Nat.lt_of_lt_of_le V56_t55.lt zz58)
    have z_b58 : h0.size ≤ b58 := Nat.le_trans O56.1 zz58
    have g_b58 : n0 ≤ b58 := Nat.le_trans Z0 z_b58
    have E58_b53 := E56_b53.ext E58
    have E58_b56 := A56.ext E58
    have V58_t55 := V56_t55.ext E58
    have F58_b53_coder := F56_b53_coder.ext E58
    have F58_b53_value := F56_b53_value.ext E58
    have F58_b56_value := F56_b56_value.ext E58
    have F58_b56_coder := F56_b56_coder.ext E58
    have O58 := own_ext_trans O56 E58
    obtain ⟨_, _, ⟨T59, L59, k59, n59⟩, -, X59, ⟨Lc59, hQ59, l59, y59, z59⟩, st59⟩ := X58.specialBack hx (y := (⟨"java/lang/String", "<init>", "([C)V"⟩ : MethodName)) rfl hown (mvT hZ (hw _ (List.mem_of_getElem? (i := 9) rfl))) (mvT hZ (hw _ (List.mem_of_getElem? (i := 10) rfl))) (mvT hZ (hw _ (List.mem_of_getElem? (i := 11) rfl))) (by decide) (StrChars.Road.backV (W := 1) hZ hws (kI := 4) (hw _ (List.mem_of_getElem? (i := 2) rfl)) (x := b56) (b := b58) (cs := [y0]) (bs := [y0.toInt8.toInt32]) (n := 1) (n0 := n0) g_b56 (Nat.le_trans Z0 O58.1) E58_b56 F58_b56_value F58_b56_coder V58 (Sc.ext O58) hzc rfl rfl (by decide) (by decide) (own_all1 h_y0) rfl (by decide) (by decide)) (g := (mkF m 152 #[.val (.int p1), .val (.int p2), .val (.int p3), .val (.int p4), .val (.int p5), .val (.int (1 : Int32)), .val (.int x0), .val (.int x1), .val (.int y0), .val (.int y1), .val (.int (1 : Int32)), .val (.int bo1), .val (.int bo2), .val (.int kd), .val (.ref b53), .unset, .unset, .unset, .unset, .unset, .unset, .unset] [(.ref b58), (.ref b56), (.ref b56)])) rfl (by rw [hml]; rfl) (Steps.refl _) (a := b56) (argsL := [(.ref b58)]) (rest := [(.ref b56)]) (lenOf pd_5 rfl) rfl (by show 2 * 0 + _ ≤ _; exact Nat.le_of_eq rfl) (hb hby at_152) (fun _ _ => ⟨rfl, rfl, (by decide : 5 + 1 ≤ _), (by decide : 11 + 1 ≤ _)⟩)
    dsimp only [Pt.U, Pt.locs, Pt.cells, Pt.slots] at X59 l59 y59 z59 st59 hQ59
    rw [y59, z59] at X59
    obtain ⟨rfl, N59q, K59c, E59c, C59c, t59, kb59, _, _, _, V59c, A59c⟩ := hQ59
    have N59 : Fr n0 L59 := by rw [l59]; exact Fr.app N58 N59q
    have E59_b53 := E58_b53.keep K59c
    have E59_b56 := E58_b56.keep K59c
    have V59_t55 := V58_t55.keep K59c (ninS ne_t55_b56 nin0)
    have V59_b58 := V58.keep K59c (ninS (Ne.symm ne_b56_b58) nin0)
    have F59_b53_coder := F58_b53_coder.keep K59c (ninS ne_b53_b56 nin0)
    have F59_b53_value := F58_b53_value.keep K59c (ninS ne_b53_b56 nin0)
    have O59 := own_ext_keep O58 K59c (allS z_b56 all0)
    have pre60 : ∀ t, Steps p.tables e below (T59.setTop (mkF m 157 #[.val (.int p1), .val (.int p2), .val (.int p3), .val (.int p4), .val (.int p5), .val (.int (1 : Int32)), .val (.int x0), .val (.int x1), .val (.int y0), .val (.int y1), .val (.int (1 : Int32)), .val (.int bo1), .val (.int bo2), .val (.int kd), .val (.ref b53), .val (.ref b56), .unset, .unset, .unset, .unset, .unset, .unset] [])) t → Steps p.tables e below (s₁.setTop (entryFrame m #[(.int p1), (.int p2), (.int p3), (.int p4), (.int p5)] maxLocals)) t := fun t k => pre57 t (by
      show Steps p.tables e below (T56.setTop (mkF m 149 #[.val (.int p1), .val (.int p2), .val (.int p3), .val (.int p4), .val (.int p5), .val (.int (1 : Int32)), .val (.int x0), .val (.int x1), .val (.int y0), .val (.int y1), .val (.int (1 : Int32)), .val (.int bo1), .val (.int bo2), .val (.int kd), .val (.ref b53), .unset, .unset, .unset, .unset, .unset, .unset, .unset] [(.int y1), (.int y0), (.int (1 : Int32)), (.ref b56), (.ref b56)])) _
      refine st58 _ ?_
      show Steps p.tables e below (T58.setTop (mkF m 152 #[.val (.int p1), .val (.int p2), .val (.int p3), .val (.int p4), .val (.int p5), .val (.int (1 : Int32)), .val (.int x0), .val (.int x1), .val (.int y0), .val (.int y1), .val (.int (1 : Int32)), .val (.int bo1), .val (.int bo2), .val (.int kd), .val (.ref b53), .unset, .unset, .unset, .unset, .unset, .unset, .unset] [(.ref b58), (.ref b56), (.ref b56)])) _
      refine st59.trans ?_
      show Steps p.tables e below (T59.setTop (mkF m 155 #[.val (.int p1), .val (.int p2), .val (.int p3), .val (.int p4), .val (.int p5), .val (.int (1 : Int32)), .val (.int x0), .val (.int x1), .val (.int y0), .val (.int y1), .val (.int (1 : Int32)), .val (.int bo1), .val (.int bo2), .val (.int kd), .val (.ref b53), .unset, .unset, .unset, .unset, .unset, .unset, .unset] [(.ref b56)])) _
      refine XS.astore X59.here hx rfl (hb hby at_155) rfl rfl (l' := #[.val (.int p1), .val (.int p2), .val (.int p3), .val (.int p4), .val (.int p5), .val (.int (1 : Int32)), .val (.int x0), .val (.int x1), .val (.int y0), .val (.int y1), .val (.int (1 : Int32)), .val (.int bo1), .val (.int bo2), .val (.int kd), .val (.ref b53), .val (.ref b56), .unset, .unset, .unset, .unset, .unset, .unset]) rfl ?_
      exact k)
    exact own_tail (s := s) (vm0 := s.vm) Z a0 hw p1 p2 p3 p4 p5 (1 : Int32) x0 x1 y0 y1 (1 : Int32) bo1 bo2 kd b53 b56 [x0] [y0] T59.heap n0 (Nat.le_trans Z0 O59.1) (X59.more (by decide) (by decide)) hx hby hml Bd.returns Bd.notSynchronized hZ hown ((State.WarmedH.refl s).since T59.heap.size) (Nat.le_refl _) rfl N59 (own_strN (cs := [x0]) (bs := [x0.toInt8.toInt32]) (n := 1) rfl (by decide) rfl rfl (own_all1 h_x0) E59_b53 F59_b53_coder F59_b53_value V59_t55) (own_strN (cs := [y0]) (bs := [y0.toInt8.toInt32]) (n := 1) rfl (by decide) rfl rfl (own_all1 h_y0) E59c C59c V59c A59c) (Or.inr (Or.inl ⟨rfl, rfl⟩)) (Or.inr (Or.inl ⟨rfl, rfl⟩)) h_bo1 h_bo2 zc (Sc.ext O59) hzc pre60
  · rw [hl1, hl2] at pre20
    have O0 := own_ext_refl h0
    obtain ⟨T61, h61, X61, e61, E61, A61, D61, -, st61⟩ := newO X0 hx hZ hown (hw _ (List.mem_of_getElem? (i := 1) rfl)) (hw _ (List.mem_of_getElem? (i := 2) rfl)) (hw _ (List.mem_of_getElem? (i := 3) rfl)) e0 (g := (mkF m 121 #[.val (.int p1), .val (.int p2), .val (.int p3), .val (.int p4), .val (.int p5), .val (.int (1 : Int32)), .val (.int x0), .val (.int x1), .val (.int y0), .val (.int y1), .val (.int (2 : Int32)), .val (.int bo1), .val (.int bo2), .val (.int kd), .unset, .unset, .unset, .unset, .unset, .unset, .unset, .unset] [])) rfl (hb hby at_121) (by decide) (by decide)
    obtain ⟨b61, g61⟩ : ∃ z, z = h0.size := ⟨_, rfl⟩
    rw [← g61] at A61 D61 st61
    have z_b61 : h0.size ≤ b61 := Nat.le_trans O0.1 (Nat.le_of_eq g61.symm)
    have g_b61 : n0 ≤ b61 := Nat.le_trans Z0 z_b61
    have O61 := own_ext_trans O0 E61
    have F61_b61_value : Fld Z h61 b61 "java/lang/String" "value" "[B" .null := D61 (Or.inr (hw _ (List.mem_of_getElem? (i := 21) rfl))) (ty := (.array .byte)) (by decide)
    have F61_b61_coder : Fld Z h61 b61 "java/lang/String" "coder" "B" (.int (0 : Int32)) := D61 (Or.inr (hw _ (List.mem_of_getElem? (i := 22) rfl))) (ty := .byte) (by decide)
    obtain ⟨_, _, ⟨T62, L62, k62, n62⟩, -, X62, ⟨Lc62, hQ62, l62, y62, z62⟩, st62⟩ := Jvm.LawKit.callS X61 hx (y := (⟨"com/example/steadyhand/steadyhand/history/RecordedExecutionEqualsPinLaw", "chars", "(III)[C"⟩ : MethodName)) hown (mvT hZ (hw _ (List.mem_of_getElem? (i := 4) rfl))) (mvT hZ (hw _ (List.mem_of_getElem? (i := 5) rfl))) (mvT hZ (hw _ (List.mem_of_getElem? (i := 6) rfl))) (mvT hZ (hw _ (List.mem_of_getElem? (i := 7) rfl))) (by decide) (backOf (W := 2) (rm_ch1 l Z a0 hw [] x0 x1 h61 n0 (Nat.le_trans Z0 O61.1) h_x0 h_x1) hZ (hw _ (List.mem_of_getElem? (i := 7) rfl)) (hw _ (List.mem_of_getElem? (i := 6) rfl)) (by decide) (by decide)) (g := (mkF m 131 #[.val (.int p1), .val (.int p2), .val (.int p3), .val (.int p4), .val (.int p5), .val (.int (1 : Int32)), .val (.int x0), .val (.int x1), .val (.int y0), .val (.int y1), .val (.int (2 : Int32)), .val (.int bo1), .val (.int bo2), .val (.int kd), .unset, .unset, .unset, .unset, .unset, .unset, .unset, .unset] [(.int x1), (.int x0), (.int (1 : Int32)), (.ref b61), (.ref b61)])) rfl (by rw [hml]; rfl) (argsL := [(.int (1 : Int32)), (.int x0), (.int x1)]) (rest := [(.ref b61), (.ref b61)]) (lenOf pd_4 rfl) rfl (by show 2 * 0 + _ ≤ _; exact Nat.le_of_eq rfl) (hb hby at_131) (fun _ _ => ⟨rfl, e61, (by decide : 1 + 1 ≤ _), (by decide : 4 + 1 ≤ _)⟩)
    dsimp only [Pt.U, Pt.locs, Pt.cells, Pt.slots] at X62 l62 y62 z62 st62 hQ62
    rw [y62, z62] at X62
    obtain ⟨b62, kc62, rfl, N62q, E62, zz62, V62⟩ := hQ62
    have N62 : Fr n0 L62 := by rw [l62]; exact Fr.app N0 N62q
    have ne_b61_b62 : b61 ≠ b62 := Nat.ne_of_lt (Nat.lt_of_lt_of_le A61.lt zz62)
    have z_b62 : h0.size ≤ b62 := Nat.le_trans O61.1 zz62
    have g_b62 : n0 ≤ b62 := Nat.le_trans Z0 z_b62
    have E62_b61 := A61.ext E62
    have F62_b61_value := F61_b61_value.ext E62
    have F62_b61_coder := F61_b61_coder.ext E62
    have O62 := own_ext_trans O61 E62
    obtain ⟨_, _, ⟨T63, L63, k63, n63⟩, -, X63, ⟨Lc63, hQ63, l63, y63, z63⟩, st63⟩ := X62.specialBack hx (y := (⟨"java/lang/String", "<init>", "([C)V"⟩ : MethodName)) rfl hown (mvT hZ (hw _ (List.mem_of_getElem? (i := 9) rfl))) (mvT hZ (hw _ (List.mem_of_getElem? (i := 10) rfl))) (mvT hZ (hw _ (List.mem_of_getElem? (i := 11) rfl))) (by decide) (StrChars.Road.backV (W := 1) hZ hws (kI := 4) (hw _ (List.mem_of_getElem? (i := 2) rfl)) (x := b61) (b := b62) (cs := [x0]) (bs := [x0.toInt8.toInt32]) (n := 1) (n0 := n0) g_b61 (Nat.le_trans Z0 O62.1) E62_b61 F62_b61_value F62_b61_coder V62 (Sc.ext O62) hzc rfl rfl (by decide) (by decide) (own_all1 h_x0) rfl (by decide) (by decide)) (g := (mkF m 134 #[.val (.int p1), .val (.int p2), .val (.int p3), .val (.int p4), .val (.int p5), .val (.int (1 : Int32)), .val (.int x0), .val (.int x1), .val (.int y0), .val (.int y1), .val (.int (2 : Int32)), .val (.int bo1), .val (.int bo2), .val (.int kd), .unset, .unset, .unset, .unset, .unset, .unset, .unset, .unset] [(.ref b62), (.ref b61), (.ref b61)])) rfl (by rw [hml]; rfl) (Steps.refl _) (a := b61) (argsL := [(.ref b62)]) (rest := [(.ref b61)]) (lenOf pd_5 rfl) rfl (by show 2 * 0 + _ ≤ _; exact Nat.le_of_eq rfl) (hb hby at_134) (fun _ _ => ⟨rfl, rfl, (by decide : 2 + 1 ≤ _), (by decide : 5 + 1 ≤ _)⟩)
    dsimp only [Pt.U, Pt.locs, Pt.cells, Pt.slots] at X63 l63 y63 z63 st63 hQ63
    rw [y63, z63] at X63
    obtain ⟨rfl, N63q, K63c, E63c, C63c, t63, kb63, _, _, _, V63c, A63c⟩ := hQ63
    have N63 : Fr n0 L63 := by rw [l63]; exact Fr.app N62 N63q
    have E63_b61 := E62_b61.keep K63c
    have V63_b62 := V62.keep K63c (ninS (Ne.symm ne_b61_b62) nin0)
    have O63 := own_ext_keep O62 K63c (allS z_b61 all0)
    obtain ⟨T64, h64, X64, e64, E64, A64, D64, -, st64⟩ := newO X63 hx hZ hown (hw _ (List.mem_of_getElem? (i := 1) rfl)) (hw _ (List.mem_of_getElem? (i := 2) rfl)) (hw _ (List.mem_of_getElem? (i := 3) rfl)) rfl (g := (mkF m 139 #[.val (.int p1), .val (.int p2), .val (.int p3), .val (.int p4), .val (.int p5), .val (.int (1 : Int32)), .val (.int x0), .val (.int x1), .val (.int y0), .val (.int y1), .val (.int (2 : Int32)), .val (.int bo1), .val (.int bo2), .val (.int kd), .val (.ref b61), .unset, .unset, .unset, .unset, .unset, .unset, .unset] [])) rfl (hb hby at_139) (by decide) (by decide)
    obtain ⟨b64, g64⟩ : ∃ z, z = T63.heap.size := ⟨_, rfl⟩
    rw [← g64] at A64 D64 st64
    have ne_b61_b64 : b61 ≠ b64 := Nat.ne_of_lt (Nat.lt_of_lt_of_le E63c.lt (Nat.le_of_eq g64.symm))
    have ne_t63_b64 : t63 ≠ b64 := Nat.ne_of_lt (Nat.lt_of_lt_of_le A63c.lt (Nat.le_of_eq g64.symm))
    have z_b64 : h0.size ≤ b64 := Nat.le_trans O63.1 (Nat.le_of_eq g64.symm)
    have g_b64 : n0 ≤ b64 := Nat.le_trans Z0 z_b64
    have E64_b61 := E63c.ext E64
    have V64_t63 := A63c.ext E64
    have F64_b61_coder := C63c.ext E64
    have F64_b61_value := V63c.ext E64
    have O64 := own_ext_trans O63 E64
    have F64_b64_value : Fld Z h64 b64 "java/lang/String" "value" "[B" .null := D64 (Or.inr (hw _ (List.mem_of_getElem? (i := 21) rfl))) (ty := (.array .byte)) (by decide)
    have F64_b64_coder : Fld Z h64 b64 "java/lang/String" "coder" "B" (.int (0 : Int32)) := D64 (Or.inr (hw _ (List.mem_of_getElem? (i := 22) rfl))) (ty := .byte) (by decide)
    have pre65 : ∀ t, Steps p.tables e below (T64.setTop (mkF m 149 #[.val (.int p1), .val (.int p2), .val (.int p3), .val (.int p4), .val (.int p5), .val (.int (1 : Int32)), .val (.int x0), .val (.int x1), .val (.int y0), .val (.int y1), .val (.int (2 : Int32)), .val (.int bo1), .val (.int bo2), .val (.int kd), .val (.ref b61), .unset, .unset, .unset, .unset, .unset, .unset, .unset] [(.int y1), (.int y0), (.int (2 : Int32)), (.ref b64), (.ref b64)])) t → Steps p.tables e below (s₁.setTop (entryFrame m #[(.int p1), (.int p2), (.int p3), (.int p4), (.int p5)] maxLocals)) t := fun t k => pre20 t (by
      show Steps p.tables e below (s₁.setTop (mkF m 121 #[.val (.int p1), .val (.int p2), .val (.int p3), .val (.int p4), .val (.int p5), .val (.int (1 : Int32)), .val (.int x0), .val (.int x1), .val (.int y0), .val (.int y1), .val (.int (2 : Int32)), .val (.int bo1), .val (.int bo2), .val (.int kd), .unset, .unset, .unset, .unset, .unset, .unset, .unset, .unset] [])) _
      refine st61 _ ?_
      show Steps p.tables e below (T61.setTop (mkF m 124 #[.val (.int p1), .val (.int p2), .val (.int p3), .val (.int p4), .val (.int p5), .val (.int (1 : Int32)), .val (.int x0), .val (.int x1), .val (.int y0), .val (.int y1), .val (.int (2 : Int32)), .val (.int bo1), .val (.int bo2), .val (.int kd), .unset, .unset, .unset, .unset, .unset, .unset, .unset, .unset] [(.ref b61)])) _
      refine XS.dup X61.here hx rfl (hb hby at_124) rfl rfl ?_
      show Steps p.tables e below (T61.setTop (mkF m 125 #[.val (.int p1), .val (.int p2), .val (.int p3), .val (.int p4), .val (.int p5), .val (.int (1 : Int32)), .val (.int x0), .val (.int x1), .val (.int y0), .val (.int y1), .val (.int (2 : Int32)), .val (.int bo1), .val (.int bo2), .val (.int kd), .unset, .unset, .unset, .unset, .unset, .unset, .unset, .unset] [(.ref b61), (.ref b61)])) _
      refine XS.iload X61.here hx rfl (hb hby at_125) rfl ?_
      show Steps p.tables e below (T61.setTop (mkF m 127 #[.val (.int p1), .val (.int p2), .val (.int p3), .val (.int p4), .val (.int p5), .val (.int (1 : Int32)), .val (.int x0), .val (.int x1), .val (.int y0), .val (.int y1), .val (.int (2 : Int32)), .val (.int bo1), .val (.int bo2), .val (.int kd), .unset, .unset, .unset, .unset, .unset, .unset, .unset, .unset] [(.int (1 : Int32)), (.ref b61), (.ref b61)])) _
      refine XS.iload X61.here hx rfl (hb hby at_127) rfl ?_
      show Steps p.tables e below (T61.setTop (mkF m 129 #[.val (.int p1), .val (.int p2), .val (.int p3), .val (.int p4), .val (.int p5), .val (.int (1 : Int32)), .val (.int x0), .val (.int x1), .val (.int y0), .val (.int y1), .val (.int (2 : Int32)), .val (.int bo1), .val (.int bo2), .val (.int kd), .unset, .unset, .unset, .unset, .unset, .unset, .unset, .unset] [(.int x0), (.int (1 : Int32)), (.ref b61), (.ref b61)])) _
      refine XS.iload X61.here hx rfl (hb hby at_129) rfl ?_
      show Steps p.tables e below (T61.setTop (mkF m 131 #[.val (.int p1), .val (.int p2), .val (.int p3), .val (.int p4), .val (.int p5), .val (.int (1 : Int32)), .val (.int x0), .val (.int x1), .val (.int y0), .val (.int y1), .val (.int (2 : Int32)), .val (.int bo1), .val (.int bo2), .val (.int kd), .unset, .unset, .unset, .unset, .unset, .unset, .unset, .unset] [(.int x1), (.int x0), (.int (1 : Int32)), (.ref b61), (.ref b61)])) _
      refine st62 _ ?_
      show Steps p.tables e below (T62.setTop (mkF m 134 #[.val (.int p1), .val (.int p2), .val (.int p3), .val (.int p4), .val (.int p5), .val (.int (1 : Int32)), .val (.int x0), .val (.int x1), .val (.int y0), .val (.int y1), .val (.int (2 : Int32)), .val (.int bo1), .val (.int bo2), .val (.int kd), .unset, .unset, .unset, .unset, .unset, .unset, .unset, .unset] [(.ref b62), (.ref b61), (.ref b61)])) _
      refine st63.trans ?_
      show Steps p.tables e below (T63.setTop (mkF m 137 #[.val (.int p1), .val (.int p2), .val (.int p3), .val (.int p4), .val (.int p5), .val (.int (1 : Int32)), .val (.int x0), .val (.int x1), .val (.int y0), .val (.int y1), .val (.int (2 : Int32)), .val (.int bo1), .val (.int bo2), .val (.int kd), .unset, .unset, .unset, .unset, .unset, .unset, .unset, .unset] [(.ref b61)])) _
      refine XS.astore X63.here hx rfl (hb hby at_137) rfl rfl (l' := #[.val (.int p1), .val (.int p2), .val (.int p3), .val (.int p4), .val (.int p5), .val (.int (1 : Int32)), .val (.int x0), .val (.int x1), .val (.int y0), .val (.int y1), .val (.int (2 : Int32)), .val (.int bo1), .val (.int bo2), .val (.int kd), .val (.ref b61), .unset, .unset, .unset, .unset, .unset, .unset, .unset]) rfl ?_
      show Steps p.tables e below (T63.setTop (mkF m 139 #[.val (.int p1), .val (.int p2), .val (.int p3), .val (.int p4), .val (.int p5), .val (.int (1 : Int32)), .val (.int x0), .val (.int x1), .val (.int y0), .val (.int y1), .val (.int (2 : Int32)), .val (.int bo1), .val (.int bo2), .val (.int kd), .val (.ref b61), .unset, .unset, .unset, .unset, .unset, .unset, .unset] [])) _
      refine st64 _ ?_
      show Steps p.tables e below (T64.setTop (mkF m 142 #[.val (.int p1), .val (.int p2), .val (.int p3), .val (.int p4), .val (.int p5), .val (.int (1 : Int32)), .val (.int x0), .val (.int x1), .val (.int y0), .val (.int y1), .val (.int (2 : Int32)), .val (.int bo1), .val (.int bo2), .val (.int kd), .val (.ref b61), .unset, .unset, .unset, .unset, .unset, .unset, .unset] [(.ref b64)])) _
      refine XS.dup X64.here hx rfl (hb hby at_142) rfl rfl ?_
      show Steps p.tables e below (T64.setTop (mkF m 143 #[.val (.int p1), .val (.int p2), .val (.int p3), .val (.int p4), .val (.int p5), .val (.int (1 : Int32)), .val (.int x0), .val (.int x1), .val (.int y0), .val (.int y1), .val (.int (2 : Int32)), .val (.int bo1), .val (.int bo2), .val (.int kd), .val (.ref b61), .unset, .unset, .unset, .unset, .unset, .unset, .unset] [(.ref b64), (.ref b64)])) _
      refine XS.iload X64.here hx rfl (hb hby at_143) rfl ?_
      show Steps p.tables e below (T64.setTop (mkF m 145 #[.val (.int p1), .val (.int p2), .val (.int p3), .val (.int p4), .val (.int p5), .val (.int (1 : Int32)), .val (.int x0), .val (.int x1), .val (.int y0), .val (.int y1), .val (.int (2 : Int32)), .val (.int bo1), .val (.int bo2), .val (.int kd), .val (.ref b61), .unset, .unset, .unset, .unset, .unset, .unset, .unset] [(.int (2 : Int32)), (.ref b64), (.ref b64)])) _
      refine XS.iload X64.here hx rfl (hb hby at_145) rfl ?_
      show Steps p.tables e below (T64.setTop (mkF m 147 #[.val (.int p1), .val (.int p2), .val (.int p3), .val (.int p4), .val (.int p5), .val (.int (1 : Int32)), .val (.int x0), .val (.int x1), .val (.int y0), .val (.int y1), .val (.int (2 : Int32)), .val (.int bo1), .val (.int bo2), .val (.int kd), .val (.ref b61), .unset, .unset, .unset, .unset, .unset, .unset, .unset] [(.int y0), (.int (2 : Int32)), (.ref b64), (.ref b64)])) _
      refine XS.iload X64.here hx rfl (hb hby at_147) rfl ?_
      exact k)
    obtain ⟨_, _, ⟨T66, L66, k66, n66⟩, -, X66, ⟨Lc66, hQ66, l66, y66, z66⟩, st66⟩ := Jvm.LawKit.callS X64 hx (y := (⟨"com/example/steadyhand/steadyhand/history/RecordedExecutionEqualsPinLaw", "chars", "(III)[C"⟩ : MethodName)) hown (mvT hZ (hw _ (List.mem_of_getElem? (i := 4) rfl))) (mvT hZ (hw _ (List.mem_of_getElem? (i := 5) rfl))) (mvT hZ (hw _ (List.mem_of_getElem? (i := 6) rfl))) (mvT hZ (hw _ (List.mem_of_getElem? (i := 7) rfl))) (by decide) (backOf (W := 2) (rm_ch2 l Z a0 hw [] y0 y1 h64 n0 (Nat.le_trans Z0 O64.1) h_y0 h_y1) hZ (hw _ (List.mem_of_getElem? (i := 7) rfl)) (hw _ (List.mem_of_getElem? (i := 6) rfl)) (by decide) (by decide)) (g := (mkF m 149 #[.val (.int p1), .val (.int p2), .val (.int p3), .val (.int p4), .val (.int p5), .val (.int (1 : Int32)), .val (.int x0), .val (.int x1), .val (.int y0), .val (.int y1), .val (.int (2 : Int32)), .val (.int bo1), .val (.int bo2), .val (.int kd), .val (.ref b61), .unset, .unset, .unset, .unset, .unset, .unset, .unset] [(.int y1), (.int y0), (.int (2 : Int32)), (.ref b64), (.ref b64)])) rfl (by rw [hml]; rfl) (argsL := [(.int (2 : Int32)), (.int y0), (.int y1)]) (rest := [(.ref b64), (.ref b64)]) (lenOf pd_4 rfl) rfl (by show 2 * 0 + _ ≤ _; exact Nat.le_of_eq rfl) (hb hby at_149) (fun _ _ => ⟨rfl, e64, (by decide : 4 + 1 ≤ _), (by decide : 10 + 2 ≤ _)⟩)
    dsimp only [Pt.U, Pt.locs, Pt.cells, Pt.slots] at X66 l66 y66 z66 st66 hQ66
    rw [y66, z66] at X66
    obtain ⟨b66, kc66, rfl, N66q, E66, zz66, V66⟩ := hQ66
    have N66 : Fr n0 L66 := by rw [l66]; exact Fr.app N63 N66q
    have ne_b61_b66 : b61 ≠ b66 := Nat.ne_of_lt (Nat.lt_of_lt_of_le E64_b61.lt zz66)
    have ne_b64_b66 : b64 ≠ b66 := Nat.ne_of_lt (Nat.lt_of_lt_of_le A64.lt zz66)
    have ne_t63_b66 : t63 ≠ b66 := Nat.ne_of_lt (Nat.lt_of_lt_of_le V64_t63.lt zz66)
    have z_b66 : h0.size ≤ b66 := Nat.le_trans O64.1 zz66
    have g_b66 : n0 ≤ b66 := Nat.le_trans Z0 z_b66
    have E66_b61 := E64_b61.ext E66
    have E66_b64 := A64.ext E66
    have V66_t63 := V64_t63.ext E66
    have F66_b61_coder := F64_b61_coder.ext E66
    have F66_b61_value := F64_b61_value.ext E66
    have F66_b64_value := F64_b64_value.ext E66
    have F66_b64_coder := F64_b64_coder.ext E66
    have O66 := own_ext_trans O64 E66
    obtain ⟨_, _, ⟨T67, L67, k67, n67⟩, -, X67, ⟨Lc67, hQ67, l67, y67, z67⟩, st67⟩ := X66.specialBack hx (y := (⟨"java/lang/String", "<init>", "([C)V"⟩ : MethodName)) rfl hown (mvT hZ (hw _ (List.mem_of_getElem? (i := 9) rfl))) (mvT hZ (hw _ (List.mem_of_getElem? (i := 10) rfl))) (mvT hZ (hw _ (List.mem_of_getElem? (i := 11) rfl))) (by decide) (StrChars.Road.backV (W := 1) hZ hws (kI := 4) (hw _ (List.mem_of_getElem? (i := 2) rfl)) (x := b64) (b := b66) (cs := [y0, y1]) (bs := [y0.toInt8.toInt32, y1.toInt8.toInt32]) (n := 2) (n0 := n0) g_b64 (Nat.le_trans Z0 O66.1) E66_b64 F66_b64_value F66_b64_coder V66 (Sc.ext O66) hzc rfl rfl (by decide) (by decide) (own_all2 h_y0 h_y1) rfl (by decide) (by decide)) (g := (mkF m 152 #[.val (.int p1), .val (.int p2), .val (.int p3), .val (.int p4), .val (.int p5), .val (.int (1 : Int32)), .val (.int x0), .val (.int x1), .val (.int y0), .val (.int y1), .val (.int (2 : Int32)), .val (.int bo1), .val (.int bo2), .val (.int kd), .val (.ref b61), .unset, .unset, .unset, .unset, .unset, .unset, .unset] [(.ref b66), (.ref b64), (.ref b64)])) rfl (by rw [hml]; rfl) (Steps.refl _) (a := b64) (argsL := [(.ref b66)]) (rest := [(.ref b64)]) (lenOf pd_5 rfl) rfl (by show 2 * 0 + _ ≤ _; exact Nat.le_of_eq rfl) (hb hby at_152) (fun _ _ => ⟨rfl, rfl, (by decide : 5 + 1 ≤ _), (by decide : 12 + 2 ≤ _)⟩)
    dsimp only [Pt.U, Pt.locs, Pt.cells, Pt.slots] at X67 l67 y67 z67 st67 hQ67
    rw [y67, z67] at X67
    obtain ⟨rfl, N67q, K67c, E67c, C67c, t67, kb67, _, _, _, V67c, A67c⟩ := hQ67
    have N67 : Fr n0 L67 := by rw [l67]; exact Fr.app N66 N67q
    have E67_b61 := E66_b61.keep K67c
    have E67_b64 := E66_b64.keep K67c
    have V67_t63 := V66_t63.keep K67c (ninS ne_t63_b64 nin0)
    have V67_b66 := V66.keep K67c (ninS (Ne.symm ne_b64_b66) nin0)
    have F67_b61_coder := F66_b61_coder.keep K67c (ninS ne_b61_b64 nin0)
    have F67_b61_value := F66_b61_value.keep K67c (ninS ne_b61_b64 nin0)
    have O67 := own_ext_keep O66 K67c (allS z_b64 all0)
    have pre68 : ∀ t, Steps p.tables e below (T67.setTop (mkF m 157 #[.val (.int p1), .val (.int p2), .val (.int p3), .val (.int p4), .val (.int p5), .val (.int (1 : Int32)), .val (.int x0), .val (.int x1), .val (.int y0), .val (.int y1), .val (.int (2 : Int32)), .val (.int bo1), .val (.int bo2), .val (.int kd), .val (.ref b61), .val (.ref b64), .unset, .unset, .unset, .unset, .unset, .unset] [])) t → Steps p.tables e below (s₁.setTop (entryFrame m #[(.int p1), (.int p2), (.int p3), (.int p4), (.int p5)] maxLocals)) t := fun t k => pre65 t (by
      show Steps p.tables e below (T64.setTop (mkF m 149 #[.val (.int p1), .val (.int p2), .val (.int p3), .val (.int p4), .val (.int p5), .val (.int (1 : Int32)), .val (.int x0), .val (.int x1), .val (.int y0), .val (.int y1), .val (.int (2 : Int32)), .val (.int bo1), .val (.int bo2), .val (.int kd), .val (.ref b61), .unset, .unset, .unset, .unset, .unset, .unset, .unset] [(.int y1), (.int y0), (.int (2 : Int32)), (.ref b64), (.ref b64)])) _
      refine st66 _ ?_
      show Steps p.tables e below (T66.setTop (mkF m 152 #[.val (.int p1), .val (.int p2), .val (.int p3), .val (.int p4), .val (.int p5), .val (.int (1 : Int32)), .val (.int x0), .val (.int x1), .val (.int y0), .val (.int y1), .val (.int (2 : Int32)), .val (.int bo1), .val (.int bo2), .val (.int kd), .val (.ref b61), .unset, .unset, .unset, .unset, .unset, .unset, .unset] [(.ref b66), (.ref b64), (.ref b64)])) _
      refine st67.trans ?_
      show Steps p.tables e below (T67.setTop (mkF m 155 #[.val (.int p1), .val (.int p2), .val (.int p3), .val (.int p4), .val (.int p5), .val (.int (1 : Int32)), .val (.int x0), .val (.int x1), .val (.int y0), .val (.int y1), .val (.int (2 : Int32)), .val (.int bo1), .val (.int bo2), .val (.int kd), .val (.ref b61), .unset, .unset, .unset, .unset, .unset, .unset, .unset] [(.ref b64)])) _
      refine XS.astore X67.here hx rfl (hb hby at_155) rfl rfl (l' := #[.val (.int p1), .val (.int p2), .val (.int p3), .val (.int p4), .val (.int p5), .val (.int (1 : Int32)), .val (.int x0), .val (.int x1), .val (.int y0), .val (.int y1), .val (.int (2 : Int32)), .val (.int bo1), .val (.int bo2), .val (.int kd), .val (.ref b61), .val (.ref b64), .unset, .unset, .unset, .unset, .unset, .unset]) rfl ?_
      exact k)
    exact own_tail (s := s) (vm0 := s.vm) Z a0 hw p1 p2 p3 p4 p5 (1 : Int32) x0 x1 y0 y1 (2 : Int32) bo1 bo2 kd b61 b64 [x0] [y0, y1] T67.heap n0 (Nat.le_trans Z0 O67.1) (X67.more (by decide) (by decide)) hx hby hml Bd.returns Bd.notSynchronized hZ hown ((State.WarmedH.refl s).since T67.heap.size) (Nat.le_refl _) rfl N67 (own_strN (cs := [x0]) (bs := [x0.toInt8.toInt32]) (n := 1) rfl (by decide) rfl rfl (own_all1 h_x0) E67_b61 F67_b61_coder F67_b61_value V67_t63) (own_strN (cs := [y0, y1]) (bs := [y0.toInt8.toInt32, y1.toInt8.toInt32]) (n := 2) rfl (by decide) rfl rfl (own_all2 h_y0 h_y1) E67c C67c V67c A67c) (Or.inr (Or.inl ⟨rfl, rfl⟩)) (Or.inr (Or.inr ⟨rfl, rfl⟩)) h_bo1 h_bo2 zc (Sc.ext O67) hzc pre68
  · rw [hl1, hl2] at pre20
    have O0 := own_ext_refl h0
    obtain ⟨T69, h69, X69, e69, E69, A69, D69, -, st69⟩ := newO X0 hx hZ hown (hw _ (List.mem_of_getElem? (i := 1) rfl)) (hw _ (List.mem_of_getElem? (i := 2) rfl)) (hw _ (List.mem_of_getElem? (i := 3) rfl)) e0 (g := (mkF m 121 #[.val (.int p1), .val (.int p2), .val (.int p3), .val (.int p4), .val (.int p5), .val (.int (2 : Int32)), .val (.int x0), .val (.int x1), .val (.int y0), .val (.int y1), .val (.int (0 : Int32)), .val (.int bo1), .val (.int bo2), .val (.int kd), .unset, .unset, .unset, .unset, .unset, .unset, .unset, .unset] [])) rfl (hb hby at_121) (by decide) (by decide)
    obtain ⟨b69, g69⟩ : ∃ z, z = h0.size := ⟨_, rfl⟩
    rw [← g69] at A69 D69 st69
    have z_b69 : h0.size ≤ b69 := Nat.le_trans O0.1 (Nat.le_of_eq g69.symm)
    have g_b69 : n0 ≤ b69 := Nat.le_trans Z0 z_b69
    have O69 := own_ext_trans O0 E69
    have F69_b69_value : Fld Z h69 b69 "java/lang/String" "value" "[B" .null := D69 (Or.inr (hw _ (List.mem_of_getElem? (i := 21) rfl))) (ty := (.array .byte)) (by decide)
    have F69_b69_coder : Fld Z h69 b69 "java/lang/String" "coder" "B" (.int (0 : Int32)) := D69 (Or.inr (hw _ (List.mem_of_getElem? (i := 22) rfl))) (ty := .byte) (by decide)
    obtain ⟨_, _, ⟨T70, L70, k70, n70⟩, -, X70, ⟨Lc70, hQ70, l70, y70, z70⟩, st70⟩ := Jvm.LawKit.callS X69 hx (y := (⟨"com/example/steadyhand/steadyhand/history/RecordedExecutionEqualsPinLaw", "chars", "(III)[C"⟩ : MethodName)) hown (mvT hZ (hw _ (List.mem_of_getElem? (i := 4) rfl))) (mvT hZ (hw _ (List.mem_of_getElem? (i := 5) rfl))) (mvT hZ (hw _ (List.mem_of_getElem? (i := 6) rfl))) (mvT hZ (hw _ (List.mem_of_getElem? (i := 7) rfl))) (by decide) (backOf (W := 2) (rm_ch2 l Z a0 hw [] x0 x1 h69 n0 (Nat.le_trans Z0 O69.1) h_x0 h_x1) hZ (hw _ (List.mem_of_getElem? (i := 7) rfl)) (hw _ (List.mem_of_getElem? (i := 6) rfl)) (by decide) (by decide)) (g := (mkF m 131 #[.val (.int p1), .val (.int p2), .val (.int p3), .val (.int p4), .val (.int p5), .val (.int (2 : Int32)), .val (.int x0), .val (.int x1), .val (.int y0), .val (.int y1), .val (.int (0 : Int32)), .val (.int bo1), .val (.int bo2), .val (.int kd), .unset, .unset, .unset, .unset, .unset, .unset, .unset, .unset] [(.int x1), (.int x0), (.int (2 : Int32)), (.ref b69), (.ref b69)])) rfl (by rw [hml]; rfl) (argsL := [(.int (2 : Int32)), (.int x0), (.int x1)]) (rest := [(.ref b69), (.ref b69)]) (lenOf pd_4 rfl) rfl (by show 2 * 0 + _ ≤ _; exact Nat.le_of_eq rfl) (hb hby at_131) (fun _ _ => ⟨rfl, e69, (by decide : 1 + 1 ≤ _), (by decide : 4 + 2 ≤ _)⟩)
    dsimp only [Pt.U, Pt.locs, Pt.cells, Pt.slots] at X70 l70 y70 z70 st70 hQ70
    rw [y70, z70] at X70
    obtain ⟨b70, kc70, rfl, N70q, E70, zz70, V70⟩ := hQ70
    have N70 : Fr n0 L70 := by rw [l70]; exact Fr.app N0 N70q
    have ne_b69_b70 : b69 ≠ b70 := Nat.ne_of_lt (Nat.lt_of_lt_of_le A69.lt zz70)
    have z_b70 : h0.size ≤ b70 := Nat.le_trans O69.1 zz70
    have g_b70 : n0 ≤ b70 := Nat.le_trans Z0 z_b70
    have E70_b69 := A69.ext E70
    have F70_b69_value := F69_b69_value.ext E70
    have F70_b69_coder := F69_b69_coder.ext E70
    have O70 := own_ext_trans O69 E70
    obtain ⟨_, _, ⟨T71, L71, k71, n71⟩, -, X71, ⟨Lc71, hQ71, l71, y71, z71⟩, st71⟩ := X70.specialBack hx (y := (⟨"java/lang/String", "<init>", "([C)V"⟩ : MethodName)) rfl hown (mvT hZ (hw _ (List.mem_of_getElem? (i := 9) rfl))) (mvT hZ (hw _ (List.mem_of_getElem? (i := 10) rfl))) (mvT hZ (hw _ (List.mem_of_getElem? (i := 11) rfl))) (by decide) (StrChars.Road.backV (W := 1) hZ hws (kI := 4) (hw _ (List.mem_of_getElem? (i := 2) rfl)) (x := b69) (b := b70) (cs := [x0, x1]) (bs := [x0.toInt8.toInt32, x1.toInt8.toInt32]) (n := 2) (n0 := n0) g_b69 (Nat.le_trans Z0 O70.1) E70_b69 F70_b69_value F70_b69_coder V70 (Sc.ext O70) hzc rfl rfl (by decide) (by decide) (own_all2 h_x0 h_x1) rfl (by decide) (by decide)) (g := (mkF m 134 #[.val (.int p1), .val (.int p2), .val (.int p3), .val (.int p4), .val (.int p5), .val (.int (2 : Int32)), .val (.int x0), .val (.int x1), .val (.int y0), .val (.int y1), .val (.int (0 : Int32)), .val (.int bo1), .val (.int bo2), .val (.int kd), .unset, .unset, .unset, .unset, .unset, .unset, .unset, .unset] [(.ref b70), (.ref b69), (.ref b69)])) rfl (by rw [hml]; rfl) (Steps.refl _) (a := b69) (argsL := [(.ref b70)]) (rest := [(.ref b69)]) (lenOf pd_5 rfl) rfl (by show 2 * 0 + _ ≤ _; exact Nat.le_of_eq rfl) (hb hby at_134) (fun _ _ => ⟨rfl, rfl, (by decide : 2 + 1 ≤ _), (by decide : 6 + 2 ≤ _)⟩)
    dsimp only [Pt.U, Pt.locs, Pt.cells, Pt.slots] at X71 l71 y71 z71 st71 hQ71
    rw [y71, z71] at X71
    obtain ⟨rfl, N71q, K71c, E71c, C71c, t71, kb71, _, _, _, V71c, A71c⟩ := hQ71
    have N71 : Fr n0 L71 := by rw [l71]; exact Fr.app N70 N71q
    have E71_b69 := E70_b69.keep K71c
    have V71_b70 := V70.keep K71c (ninS (Ne.symm ne_b69_b70) nin0)
    have O71 := own_ext_keep O70 K71c (allS z_b69 all0)
    obtain ⟨T72, h72, X72, e72, E72, A72, D72, -, st72⟩ := newO X71 hx hZ hown (hw _ (List.mem_of_getElem? (i := 1) rfl)) (hw _ (List.mem_of_getElem? (i := 2) rfl)) (hw _ (List.mem_of_getElem? (i := 3) rfl)) rfl (g := (mkF m 139 #[.val (.int p1), .val (.int p2), .val (.int p3), .val (.int p4), .val (.int p5), .val (.int (2 : Int32)), .val (.int x0), .val (.int x1), .val (.int y0), .val (.int y1), .val (.int (0 : Int32)), .val (.int bo1), .val (.int bo2), .val (.int kd), .val (.ref b69), .unset, .unset, .unset, .unset, .unset, .unset, .unset] [])) rfl (hb hby at_139) (by decide) (by decide)
    obtain ⟨b72, g72⟩ : ∃ z, z = T71.heap.size := ⟨_, rfl⟩
    rw [← g72] at A72 D72 st72
    have ne_b69_b72 : b69 ≠ b72 := Nat.ne_of_lt (Nat.lt_of_lt_of_le E71c.lt (Nat.le_of_eq g72.symm))
    have ne_t71_b72 : t71 ≠ b72 := Nat.ne_of_lt (Nat.lt_of_lt_of_le A71c.lt (Nat.le_of_eq g72.symm))
    have z_b72 : h0.size ≤ b72 := Nat.le_trans O71.1 (Nat.le_of_eq g72.symm)
    have g_b72 : n0 ≤ b72 := Nat.le_trans Z0 z_b72
    have E72_b69 := E71c.ext E72
    have V72_t71 := A71c.ext E72
    have F72_b69_coder := C71c.ext E72
    have F72_b69_value := V71c.ext E72
    have O72 := own_ext_trans O71 E72
    have F72_b72_value : Fld Z h72 b72 "java/lang/String" "value" "[B" .null := D72 (Or.inr (hw _ (List.mem_of_getElem? (i := 21) rfl))) (ty := (.array .byte)) (by decide)
    have F72_b72_coder : Fld Z h72 b72 "java/lang/String" "coder" "B" (.int (0 : Int32)) := D72 (Or.inr (hw _ (List.mem_of_getElem? (i := 22) rfl))) (ty := .byte) (by decide)
    have pre73 : ∀ t, Steps p.tables e below (T72.setTop (mkF m 149 #[.val (.int p1), .val (.int p2), .val (.int p3), .val (.int p4), .val (.int p5), .val (.int (2 : Int32)), .val (.int x0), .val (.int x1), .val (.int y0), .val (.int y1), .val (.int (0 : Int32)), .val (.int bo1), .val (.int bo2), .val (.int kd), .val (.ref b69), .unset, .unset, .unset, .unset, .unset, .unset, .unset] [(.int y1), (.int y0), (.int (0 : Int32)), (.ref b72), (.ref b72)])) t → Steps p.tables e below (s₁.setTop (entryFrame m #[(.int p1), (.int p2), (.int p3), (.int p4), (.int p5)] maxLocals)) t := fun t k => pre20 t (by
      show Steps p.tables e below (s₁.setTop (mkF m 121 #[.val (.int p1), .val (.int p2), .val (.int p3), .val (.int p4), .val (.int p5), .val (.int (2 : Int32)), .val (.int x0), .val (.int x1), .val (.int y0), .val (.int y1), .val (.int (0 : Int32)), .val (.int bo1), .val (.int bo2), .val (.int kd), .unset, .unset, .unset, .unset, .unset, .unset, .unset, .unset] [])) _
      refine st69 _ ?_
      show Steps p.tables e below (T69.setTop (mkF m 124 #[.val (.int p1), .val (.int p2), .val (.int p3), .val (.int p4), .val (.int p5), .val (.int (2 : Int32)), .val (.int x0), .val (.int x1), .val (.int y0), .val (.int y1), .val (.int (0 : Int32)), .val (.int bo1), .val (.int bo2), .val (.int kd), .unset, .unset, .unset, .unset, .unset, .unset, .unset, .unset] [(.ref b69)])) _
      refine XS.dup X69.here hx rfl (hb hby at_124) rfl rfl ?_
      show Steps p.tables e below (T69.setTop (mkF m 125 #[.val (.int p1), .val (.int p2), .val (.int p3), .val (.int p4), .val (.int p5), .val (.int (2 : Int32)), .val (.int x0), .val (.int x1), .val (.int y0), .val (.int y1), .val (.int (0 : Int32)), .val (.int bo1), .val (.int bo2), .val (.int kd), .unset, .unset, .unset, .unset, .unset, .unset, .unset, .unset] [(.ref b69), (.ref b69)])) _
      refine XS.iload X69.here hx rfl (hb hby at_125) rfl ?_
      show Steps p.tables e below (T69.setTop (mkF m 127 #[.val (.int p1), .val (.int p2), .val (.int p3), .val (.int p4), .val (.int p5), .val (.int (2 : Int32)), .val (.int x0), .val (.int x1), .val (.int y0), .val (.int y1), .val (.int (0 : Int32)), .val (.int bo1), .val (.int bo2), .val (.int kd), .unset, .unset, .unset, .unset, .unset, .unset, .unset, .unset] [(.int (2 : Int32)), (.ref b69), (.ref b69)])) _
      refine XS.iload X69.here hx rfl (hb hby at_127) rfl ?_
      show Steps p.tables e below (T69.setTop (mkF m 129 #[.val (.int p1), .val (.int p2), .val (.int p3), .val (.int p4), .val (.int p5), .val (.int (2 : Int32)), .val (.int x0), .val (.int x1), .val (.int y0), .val (.int y1), .val (.int (0 : Int32)), .val (.int bo1), .val (.int bo2), .val (.int kd), .unset, .unset, .unset, .unset, .unset, .unset, .unset, .unset] [(.int x0), (.int (2 : Int32)), (.ref b69), (.ref b69)])) _
      refine XS.iload X69.here hx rfl (hb hby at_129) rfl ?_
      show Steps p.tables e below (T69.setTop (mkF m 131 #[.val (.int p1), .val (.int p2), .val (.int p3), .val (.int p4), .val (.int p5), .val (.int (2 : Int32)), .val (.int x0), .val (.int x1), .val (.int y0), .val (.int y1), .val (.int (0 : Int32)), .val (.int bo1), .val (.int bo2), .val (.int kd), .unset, .unset, .unset, .unset, .unset, .unset, .unset, .unset] [(.int x1), (.int x0), (.int (2 : Int32)), (.ref b69), (.ref b69)])) _
      refine st70 _ ?_
      show Steps p.tables e below (T70.setTop (mkF m 134 #[.val (.int p1), .val (.int p2), .val (.int p3), .val (.int p4), .val (.int p5), .val (.int (2 : Int32)), .val (.int x0), .val (.int x1), .val (.int y0), .val (.int y1), .val (.int (0 : Int32)), .val (.int bo1), .val (.int bo2), .val (.int kd), .unset, .unset, .unset, .unset, .unset, .unset, .unset, .unset] [(.ref b70), (.ref b69), (.ref b69)])) _
      refine st71.trans ?_
      show Steps p.tables e below (T71.setTop (mkF m 137 #[.val (.int p1), .val (.int p2), .val (.int p3), .val (.int p4), .val (.int p5), .val (.int (2 : Int32)), .val (.int x0), .val (.int x1), .val (.int y0), .val (.int y1), .val (.int (0 : Int32)), .val (.int bo1), .val (.int bo2), .val (.int kd), .unset, .unset, .unset, .unset, .unset, .unset, .unset, .unset] [(.ref b69)])) _
      refine XS.astore X71.here hx rfl (hb hby at_137) rfl rfl (l' := #[.val (.int p1), .val (.int p2), .val (.int p3), .val (.int p4), .val (.int p5), .val (.int (2 : Int32)), .val (.int x0), .val (.int x1), .val (.int y0), .val (.int y1), .val (.int (0 : Int32)), .val (.int bo1), .val (.int bo2), .val (.int kd), .val (.ref b69), .unset, .unset, .unset, .unset, .unset, .unset, .unset]) rfl ?_
      show Steps p.tables e below (T71.setTop (mkF m 139 #[.val (.int p1), .val (.int p2), .val (.int p3), .val (.int p4), .val (.int p5), .val (.int (2 : Int32)), .val (.int x0), .val (.int x1), .val (.int y0), .val (.int y1), .val (.int (0 : Int32)), .val (.int bo1), .val (.int bo2), .val (.int kd), .val (.ref b69), .unset, .unset, .unset, .unset, .unset, .unset, .unset] [])) _
      refine st72 _ ?_
      show Steps p.tables e below (T72.setTop (mkF m 142 #[.val (.int p1), .val (.int p2), .val (.int p3), .val (.int p4), .val (.int p5), .val (.int (2 : Int32)), .val (.int x0), .val (.int x1), .val (.int y0), .val (.int y1), .val (.int (0 : Int32)), .val (.int bo1), .val (.int bo2), .val (.int kd), .val (.ref b69), .unset, .unset, .unset, .unset, .unset, .unset, .unset] [(.ref b72)])) _
      refine XS.dup X72.here hx rfl (hb hby at_142) rfl rfl ?_
      show Steps p.tables e below (T72.setTop (mkF m 143 #[.val (.int p1), .val (.int p2), .val (.int p3), .val (.int p4), .val (.int p5), .val (.int (2 : Int32)), .val (.int x0), .val (.int x1), .val (.int y0), .val (.int y1), .val (.int (0 : Int32)), .val (.int bo1), .val (.int bo2), .val (.int kd), .val (.ref b69), .unset, .unset, .unset, .unset, .unset, .unset, .unset] [(.ref b72), (.ref b72)])) _
      refine XS.iload X72.here hx rfl (hb hby at_143) rfl ?_
      show Steps p.tables e below (T72.setTop (mkF m 145 #[.val (.int p1), .val (.int p2), .val (.int p3), .val (.int p4), .val (.int p5), .val (.int (2 : Int32)), .val (.int x0), .val (.int x1), .val (.int y0), .val (.int y1), .val (.int (0 : Int32)), .val (.int bo1), .val (.int bo2), .val (.int kd), .val (.ref b69), .unset, .unset, .unset, .unset, .unset, .unset, .unset] [(.int (0 : Int32)), (.ref b72), (.ref b72)])) _
      refine XS.iload X72.here hx rfl (hb hby at_145) rfl ?_
      show Steps p.tables e below (T72.setTop (mkF m 147 #[.val (.int p1), .val (.int p2), .val (.int p3), .val (.int p4), .val (.int p5), .val (.int (2 : Int32)), .val (.int x0), .val (.int x1), .val (.int y0), .val (.int y1), .val (.int (0 : Int32)), .val (.int bo1), .val (.int bo2), .val (.int kd), .val (.ref b69), .unset, .unset, .unset, .unset, .unset, .unset, .unset] [(.int y0), (.int (0 : Int32)), (.ref b72), (.ref b72)])) _
      refine XS.iload X72.here hx rfl (hb hby at_147) rfl ?_
      exact k)
    obtain ⟨_, _, ⟨T74, L74, k74, n74⟩, -, X74, ⟨Lc74, hQ74, l74, y74, z74⟩, st74⟩ := Jvm.LawKit.callS X72 hx (y := (⟨"com/example/steadyhand/steadyhand/history/RecordedExecutionEqualsPinLaw", "chars", "(III)[C"⟩ : MethodName)) hown (mvT hZ (hw _ (List.mem_of_getElem? (i := 4) rfl))) (mvT hZ (hw _ (List.mem_of_getElem? (i := 5) rfl))) (mvT hZ (hw _ (List.mem_of_getElem? (i := 6) rfl))) (mvT hZ (hw _ (List.mem_of_getElem? (i := 7) rfl))) (by decide) (backOf (W := 2) (rm_ch0 l Z a0 hw [] y0 y1 h72 n0 (Nat.le_trans Z0 O72.1) h_y0 h_y1) hZ (hw _ (List.mem_of_getElem? (i := 7) rfl)) (hw _ (List.mem_of_getElem? (i := 6) rfl)) (by decide) (by decide)) (g := (mkF m 149 #[.val (.int p1), .val (.int p2), .val (.int p3), .val (.int p4), .val (.int p5), .val (.int (2 : Int32)), .val (.int x0), .val (.int x1), .val (.int y0), .val (.int y1), .val (.int (0 : Int32)), .val (.int bo1), .val (.int bo2), .val (.int kd), .val (.ref b69), .unset, .unset, .unset, .unset, .unset, .unset, .unset] [(.int y1), (.int y0), (.int (0 : Int32)), (.ref b72), (.ref b72)])) rfl (by rw [hml]; rfl) (argsL := [(.int (0 : Int32)), (.int y0), (.int y1)]) (rest := [(.ref b72), (.ref b72)]) (lenOf pd_4 rfl) rfl (by show 2 * 0 + _ ≤ _; exact Nat.le_of_eq rfl) (hb hby at_149) (fun _ _ => ⟨rfl, e72, (by decide : 4 + 1 ≤ _), (by decide : 12 + 0 ≤ _)⟩)
    dsimp only [Pt.U, Pt.locs, Pt.cells, Pt.slots] at X74 l74 y74 z74 st74 hQ74
    rw [y74, z74] at X74
    obtain ⟨b74, kc74, rfl, N74q, E74, zz74, V74⟩ := hQ74
    have N74 : Fr n0 L74 := by rw [l74]; exact Fr.app N71 N74q
    have ne_b69_b74 : b69 ≠ b74 := Nat.ne_of_lt (Nat.lt_of_lt_of_le E72_b69.lt zz74)
    have ne_b72_b74 : b72 ≠ b74 := Nat.ne_of_lt (Nat.lt_of_lt_of_le A72.lt zz74)
    have ne_t71_b74 : t71 ≠ b74 := Nat.ne_of_lt (Nat.lt_of_lt_of_le V72_t71.lt zz74)
    have z_b74 : h0.size ≤ b74 := Nat.le_trans O72.1 zz74
    have g_b74 : n0 ≤ b74 := Nat.le_trans Z0 z_b74
    have E74_b69 := E72_b69.ext E74
    have E74_b72 := A72.ext E74
    have V74_t71 := V72_t71.ext E74
    have F74_b69_coder := F72_b69_coder.ext E74
    have F74_b69_value := F72_b69_value.ext E74
    have F74_b72_value := F72_b72_value.ext E74
    have F74_b72_coder := F72_b72_coder.ext E74
    have O74 := own_ext_trans O72 E74
    obtain ⟨_, vq75, ⟨T75, L75, k75, n75⟩, hm75, X75, hS75, hg75, ⟨Lc75, hQ75, l75, y75, z75⟩, st75⟩ := X74.specialBackS hx (y := (⟨"java/lang/String", "<init>", "([C)V"⟩ : MethodName)) rfl hown (mvT hZ (hw _ (List.mem_of_getElem? (i := 9) rfl))) (mvT hZ (hw _ (List.mem_of_getElem? (i := 10) rfl))) (mvT hZ (hw _ (List.mem_of_getElem? (i := 11) rfl))) (by decide) (own_backS (W := 1) (G := fun vm => IB Z vm []) (Q := fun v h vm L => Qem Z b72 T74.heap n0 v h vm L) (rm_sBF l Z a0 hw [] b72 b74 T74.heap n0 (Nat.le_trans Z0 O74.1) E74_b72 (.int (0 : Int32)) F74_b72_value F74_b72_coder g_b72 kc74 [] (.int (0 : Int32)) V74 (own_ext_trans hK0 O74) hcH hcW) hZ (hw _ (List.mem_of_getElem? (i := 11) rfl)) (hw _ (List.mem_of_getElem? (i := 3) rfl)) (by decide) (by decide)) (g := (mkF m 152 #[.val (.int p1), .val (.int p2), .val (.int p3), .val (.int p4), .val (.int p5), .val (.int (2 : Int32)), .val (.int x0), .val (.int x1), .val (.int y0), .val (.int y1), .val (.int (0 : Int32)), .val (.int bo1), .val (.int bo2), .val (.int kd), .val (.ref b69), .unset, .unset, .unset, .unset, .unset, .unset, .unset] [(.ref b74), (.ref b72), (.ref b72)])) rfl (by rw [hml]; rfl) (Steps.refl _) (a := b72) (argsL := [(.ref b74)]) (rest := [(.ref b72)]) (lenOf pd_5 rfl) rfl (by show 2 * 0 + _ ≤ _; exact Nat.le_of_eq rfl) (hb hby at_152) (fun vmw hvw => ⟨rfl, rfl, own_ib hG hvw, (by decide : 5 + 2 ≤ _), (by decide : 12 + 4 ≤ _)⟩)
    dsimp only [Pt.U, Pt.locs, Pt.cells, Pt.slots] at X75 hS75 hg75 l75 y75 z75 st75 hQ75
    rw [y75, z75] at X75
    have hZ75 : Z.Warmed39 (s.setVm T75.vm).vm := State.Warmed39.trans hZ hS75.1
    have hown75 : (s.setVm T75.vm).vm.findClass "com/example/steadyhand/steadyhand/history/RecordedExecutionEqualsPinLaw" = some m.cls := (hS75.1.alike.findClass _ _).trans hown
    obtain ⟨rfl, N75q, K75c, E75c, C75c, al75, t75, kb75, V75c, A75c, G75a, G75b, G75c, Li75⟩ := hQ75
    have N75 : Fr n0 L75 := by rw [l75]; exact Fr.app N74 N75q
    have E75_b69 := E74_b69.keep K75c
    have E75_b72 := E74_b72.keep K75c
    have V75_t71 := V74_t71.keep K75c (ninS ne_t71_b72 nin0)
    have V75_b74 := V74.keep K75c (ninS (Ne.symm ne_b72_b74) nin0)
    have F75_b69_coder := F74_b69_coder.keep K75c (ninS ne_b69_b72 nin0)
    have F75_b69_value := F74_b69_value.keep K75c (ninS ne_b69_b72 nin0)
    have O75 := own_ext_keep O74 K75c (allS z_b72 all0)
    have pre76 : ∀ t, Steps p.tables e below (T75.setTop (mkF m 157 #[.val (.int p1), .val (.int p2), .val (.int p3), .val (.int p4), .val (.int p5), .val (.int (2 : Int32)), .val (.int x0), .val (.int x1), .val (.int y0), .val (.int y1), .val (.int (0 : Int32)), .val (.int bo1), .val (.int bo2), .val (.int kd), .val (.ref b69), .val (.ref b72), .unset, .unset, .unset, .unset, .unset, .unset] [])) t → Steps p.tables e below (s₁.setTop (entryFrame m #[(.int p1), (.int p2), (.int p3), (.int p4), (.int p5)] maxLocals)) t := fun t k => pre73 t (by
      show Steps p.tables e below (T72.setTop (mkF m 149 #[.val (.int p1), .val (.int p2), .val (.int p3), .val (.int p4), .val (.int p5), .val (.int (2 : Int32)), .val (.int x0), .val (.int x1), .val (.int y0), .val (.int y1), .val (.int (0 : Int32)), .val (.int bo1), .val (.int bo2), .val (.int kd), .val (.ref b69), .unset, .unset, .unset, .unset, .unset, .unset, .unset] [(.int y1), (.int y0), (.int (0 : Int32)), (.ref b72), (.ref b72)])) _
      refine st74 _ ?_
      show Steps p.tables e below (T74.setTop (mkF m 152 #[.val (.int p1), .val (.int p2), .val (.int p3), .val (.int p4), .val (.int p5), .val (.int (2 : Int32)), .val (.int x0), .val (.int x1), .val (.int y0), .val (.int y1), .val (.int (0 : Int32)), .val (.int bo1), .val (.int bo2), .val (.int kd), .val (.ref b69), .unset, .unset, .unset, .unset, .unset, .unset, .unset] [(.ref b74), (.ref b72), (.ref b72)])) _
      refine st75.trans ?_
      show Steps p.tables e below (T75.setTop (mkF m 155 #[.val (.int p1), .val (.int p2), .val (.int p3), .val (.int p4), .val (.int p5), .val (.int (2 : Int32)), .val (.int x0), .val (.int x1), .val (.int y0), .val (.int y1), .val (.int (0 : Int32)), .val (.int bo1), .val (.int bo2), .val (.int kd), .val (.ref b69), .unset, .unset, .unset, .unset, .unset, .unset, .unset] [(.ref b72)])) _
      refine XS.astore X75.here hx rfl (hb hby at_155) rfl rfl (l' := #[.val (.int p1), .val (.int p2), .val (.int p3), .val (.int p4), .val (.int p5), .val (.int (2 : Int32)), .val (.int x0), .val (.int x1), .val (.int y0), .val (.int y1), .val (.int (0 : Int32)), .val (.int bo1), .val (.int bo2), .val (.int kd), .val (.ref b69), .val (.ref b72), .unset, .unset, .unset, .unset, .unset, .unset]) rfl ?_
      exact k)
    exact own_tail (s := s) Z a0 hw p1 p2 p3 p4 p5 (2 : Int32) x0 x1 y0 y1 (0 : Int32) bo1 bo2 kd b69 b72 [x0, x1] [] T75.heap n0 (Nat.le_trans Z0 O75.1) (X75.more (by decide) (by decide)) hx hby hml Bd.returns Bd.notSynchronized hZ75 hown75 hS75 (Nat.le_refl T75.heap.size) rfl N75 (own_strN (cs := [x0, x1]) (bs := [x0.toInt8.toInt32, x1.toInt8.toInt32]) (n := 2) rfl (by decide) rfl rfl (own_all2 h_x0 h_x1) E75_b69 F75_b69_coder F75_b69_value V75_t71) (own_str0 E75c C75c V75c A75c) (Or.inr (Or.inr ⟨rfl, rfl⟩)) (Or.inl ⟨rfl, rfl⟩) h_bo1 h_bo2 zc (Sc.ext O75) hzc pre76
  · rw [hl1, hl2] at pre20
    have O0 := own_ext_refl h0
    obtain ⟨T77, h77, X77, e77, E77, A77, D77, -, st77⟩ := newO X0 hx hZ hown (hw _ (List.mem_of_getElem? (i := 1) rfl)) (hw _ (List.mem_of_getElem? (i := 2) rfl)) (hw _ (List.mem_of_getElem? (i := 3) rfl)) e0 (g := (mkF m 121 #[.val (.int p1), .val (.int p2), .val (.int p3), .val (.int p4), .val (.int p5), .val (.int (2 : Int32)), .val (.int x0), .val (.int x1), .val (.int y0), .val (.int y1), .val (.int (1 : Int32)), .val (.int bo1), .val (.int bo2), .val (.int kd), .unset, .unset, .unset, .unset, .unset, .unset, .unset, .unset] [])) rfl (hb hby at_121) (by decide) (by decide)
    obtain ⟨b77, g77⟩ : ∃ z, z = h0.size := ⟨_, rfl⟩
    rw [← g77] at A77 D77 st77
    have z_b77 : h0.size ≤ b77 := Nat.le_trans O0.1 (Nat.le_of_eq g77.symm)
    have g_b77 : n0 ≤ b77 := Nat.le_trans Z0 z_b77
    have O77 := own_ext_trans O0 E77
    have F77_b77_value : Fld Z h77 b77 "java/lang/String" "value" "[B" .null := D77 (Or.inr (hw _ (List.mem_of_getElem? (i := 21) rfl))) (ty := (.array .byte)) (by decide)
    have F77_b77_coder : Fld Z h77 b77 "java/lang/String" "coder" "B" (.int (0 : Int32)) := D77 (Or.inr (hw _ (List.mem_of_getElem? (i := 22) rfl))) (ty := .byte) (by decide)
    obtain ⟨_, _, ⟨T78, L78, k78, n78⟩, -, X78, ⟨Lc78, hQ78, l78, y78, z78⟩, st78⟩ := Jvm.LawKit.callS X77 hx (y := (⟨"com/example/steadyhand/steadyhand/history/RecordedExecutionEqualsPinLaw", "chars", "(III)[C"⟩ : MethodName)) hown (mvT hZ (hw _ (List.mem_of_getElem? (i := 4) rfl))) (mvT hZ (hw _ (List.mem_of_getElem? (i := 5) rfl))) (mvT hZ (hw _ (List.mem_of_getElem? (i := 6) rfl))) (mvT hZ (hw _ (List.mem_of_getElem? (i := 7) rfl))) (by decide) (backOf (W := 2) (rm_ch2 l Z a0 hw [] x0 x1 h77 n0 (Nat.le_trans Z0 O77.1) h_x0 h_x1) hZ (hw _ (List.mem_of_getElem? (i := 7) rfl)) (hw _ (List.mem_of_getElem? (i := 6) rfl)) (by decide) (by decide)) (g := (mkF m 131 #[.val (.int p1), .val (.int p2), .val (.int p3), .val (.int p4), .val (.int p5), .val (.int (2 : Int32)), .val (.int x0), .val (.int x1), .val (.int y0), .val (.int y1), .val (.int (1 : Int32)), .val (.int bo1), .val (.int bo2), .val (.int kd), .unset, .unset, .unset, .unset, .unset, .unset, .unset, .unset] [(.int x1), (.int x0), (.int (2 : Int32)), (.ref b77), (.ref b77)])) rfl (by rw [hml]; rfl) (argsL := [(.int (2 : Int32)), (.int x0), (.int x1)]) (rest := [(.ref b77), (.ref b77)]) (lenOf pd_4 rfl) rfl (by show 2 * 0 + _ ≤ _; exact Nat.le_of_eq rfl) (hb hby at_131) (fun _ _ => ⟨rfl, e77, (by decide : 1 + 1 ≤ _), (by decide : 4 + 2 ≤ _)⟩)
    dsimp only [Pt.U, Pt.locs, Pt.cells, Pt.slots] at X78 l78 y78 z78 st78 hQ78
    rw [y78, z78] at X78
    obtain ⟨b78, kc78, rfl, N78q, E78, zz78, V78⟩ := hQ78
    have N78 : Fr n0 L78 := by rw [l78]; exact Fr.app N0 N78q
    have ne_b77_b78 : b77 ≠ b78 := Nat.ne_of_lt (Nat.lt_of_lt_of_le A77.lt zz78)
    have z_b78 : h0.size ≤ b78 := Nat.le_trans O77.1 zz78
    have g_b78 : n0 ≤ b78 := Nat.le_trans Z0 z_b78
    have E78_b77 := A77.ext E78
    have F78_b77_value := F77_b77_value.ext E78
    have F78_b77_coder := F77_b77_coder.ext E78
    have O78 := own_ext_trans O77 E78
    obtain ⟨_, _, ⟨T79, L79, k79, n79⟩, -, X79, ⟨Lc79, hQ79, l79, y79, z79⟩, st79⟩ := X78.specialBack hx (y := (⟨"java/lang/String", "<init>", "([C)V"⟩ : MethodName)) rfl hown (mvT hZ (hw _ (List.mem_of_getElem? (i := 9) rfl))) (mvT hZ (hw _ (List.mem_of_getElem? (i := 10) rfl))) (mvT hZ (hw _ (List.mem_of_getElem? (i := 11) rfl))) (by decide) (StrChars.Road.backV (W := 1) hZ hws (kI := 4) (hw _ (List.mem_of_getElem? (i := 2) rfl)) (x := b77) (b := b78) (cs := [x0, x1]) (bs := [x0.toInt8.toInt32, x1.toInt8.toInt32]) (n := 2) (n0 := n0) g_b77 (Nat.le_trans Z0 O78.1) E78_b77 F78_b77_value F78_b77_coder V78 (Sc.ext O78) hzc rfl rfl (by decide) (by decide) (own_all2 h_x0 h_x1) rfl (by decide) (by decide)) (g := (mkF m 134 #[.val (.int p1), .val (.int p2), .val (.int p3), .val (.int p4), .val (.int p5), .val (.int (2 : Int32)), .val (.int x0), .val (.int x1), .val (.int y0), .val (.int y1), .val (.int (1 : Int32)), .val (.int bo1), .val (.int bo2), .val (.int kd), .unset, .unset, .unset, .unset, .unset, .unset, .unset, .unset] [(.ref b78), (.ref b77), (.ref b77)])) rfl (by rw [hml]; rfl) (Steps.refl _) (a := b77) (argsL := [(.ref b78)]) (rest := [(.ref b77)]) (lenOf pd_5 rfl) rfl (by show 2 * 0 + _ ≤ _; exact Nat.le_of_eq rfl) (hb hby at_134) (fun _ _ => ⟨rfl, rfl, (by decide : 2 + 1 ≤ _), (by decide : 6 + 2 ≤ _)⟩)
    dsimp only [Pt.U, Pt.locs, Pt.cells, Pt.slots] at X79 l79 y79 z79 st79 hQ79
    rw [y79, z79] at X79
    obtain ⟨rfl, N79q, K79c, E79c, C79c, t79, kb79, _, _, _, V79c, A79c⟩ := hQ79
    have N79 : Fr n0 L79 := by rw [l79]; exact Fr.app N78 N79q
    have E79_b77 := E78_b77.keep K79c
    have V79_b78 := V78.keep K79c (ninS (Ne.symm ne_b77_b78) nin0)
    have O79 := own_ext_keep O78 K79c (allS z_b77 all0)
    obtain ⟨T80, h80, X80, e80, E80, A80, D80, -, st80⟩ := newO X79 hx hZ hown (hw _ (List.mem_of_getElem? (i := 1) rfl)) (hw _ (List.mem_of_getElem? (i := 2) rfl)) (hw _ (List.mem_of_getElem? (i := 3) rfl)) rfl (g := (mkF m 139 #[.val (.int p1), .val (.int p2), .val (.int p3), .val (.int p4), .val (.int p5), .val (.int (2 : Int32)), .val (.int x0), .val (.int x1), .val (.int y0), .val (.int y1), .val (.int (1 : Int32)), .val (.int bo1), .val (.int bo2), .val (.int kd), .val (.ref b77), .unset, .unset, .unset, .unset, .unset, .unset, .unset] [])) rfl (hb hby at_139) (by decide) (by decide)
    obtain ⟨b80, g80⟩ : ∃ z, z = T79.heap.size := ⟨_, rfl⟩
    rw [← g80] at A80 D80 st80
    have ne_b77_b80 : b77 ≠ b80 := Nat.ne_of_lt (Nat.lt_of_lt_of_le E79c.lt (Nat.le_of_eq g80.symm))
    have ne_t79_b80 : t79 ≠ b80 := Nat.ne_of_lt (Nat.lt_of_lt_of_le A79c.lt (Nat.le_of_eq g80.symm))
    have z_b80 : h0.size ≤ b80 := Nat.le_trans O79.1 (Nat.le_of_eq g80.symm)
    have g_b80 : n0 ≤ b80 := Nat.le_trans Z0 z_b80
    have E80_b77 := E79c.ext E80
    have V80_t79 := A79c.ext E80
    have F80_b77_coder := C79c.ext E80
    have F80_b77_value := V79c.ext E80
    have O80 := own_ext_trans O79 E80
    have F80_b80_value : Fld Z h80 b80 "java/lang/String" "value" "[B" .null := D80 (Or.inr (hw _ (List.mem_of_getElem? (i := 21) rfl))) (ty := (.array .byte)) (by decide)
    have F80_b80_coder : Fld Z h80 b80 "java/lang/String" "coder" "B" (.int (0 : Int32)) := D80 (Or.inr (hw _ (List.mem_of_getElem? (i := 22) rfl))) (ty := .byte) (by decide)
    have pre81 : ∀ t, Steps p.tables e below (T80.setTop (mkF m 149 #[.val (.int p1), .val (.int p2), .val (.int p3), .val (.int p4), .val (.int p5), .val (.int (2 : Int32)), .val (.int x0), .val (.int x1), .val (.int y0), .val (.int y1), .val (.int (1 : Int32)), .val (.int bo1), .val (.int bo2), .val (.int kd), .val (.ref b77), .unset, .unset, .unset, .unset, .unset, .unset, .unset] [(.int y1), (.int y0), (.int (1 : Int32)), (.ref b80), (.ref b80)])) t → Steps p.tables e below (s₁.setTop (entryFrame m #[(.int p1), (.int p2), (.int p3), (.int p4), (.int p5)] maxLocals)) t := fun t k => pre20 t (by
      show Steps p.tables e below (s₁.setTop (mkF m 121 #[.val (.int p1), .val (.int p2), .val (.int p3), .val (.int p4), .val (.int p5), .val (.int (2 : Int32)), .val (.int x0), .val (.int x1), .val (.int y0), .val (.int y1), .val (.int (1 : Int32)), .val (.int bo1), .val (.int bo2), .val (.int kd), .unset, .unset, .unset, .unset, .unset, .unset, .unset, .unset] [])) _
      refine st77 _ ?_
      show Steps p.tables e below (T77.setTop (mkF m 124 #[.val (.int p1), .val (.int p2), .val (.int p3), .val (.int p4), .val (.int p5), .val (.int (2 : Int32)), .val (.int x0), .val (.int x1), .val (.int y0), .val (.int y1), .val (.int (1 : Int32)), .val (.int bo1), .val (.int bo2), .val (.int kd), .unset, .unset, .unset, .unset, .unset, .unset, .unset, .unset] [(.ref b77)])) _
      refine XS.dup X77.here hx rfl (hb hby at_124) rfl rfl ?_
      show Steps p.tables e below (T77.setTop (mkF m 125 #[.val (.int p1), .val (.int p2), .val (.int p3), .val (.int p4), .val (.int p5), .val (.int (2 : Int32)), .val (.int x0), .val (.int x1), .val (.int y0), .val (.int y1), .val (.int (1 : Int32)), .val (.int bo1), .val (.int bo2), .val (.int kd), .unset, .unset, .unset, .unset, .unset, .unset, .unset, .unset] [(.ref b77), (.ref b77)])) _
      refine XS.iload X77.here hx rfl (hb hby at_125) rfl ?_
      show Steps p.tables e below (T77.setTop (mkF m 127 #[.val (.int p1), .val (.int p2), .val (.int p3), .val (.int p4), .val (.int p5), .val (.int (2 : Int32)), .val (.int x0), .val (.int x1), .val (.int y0), .val (.int y1), .val (.int (1 : Int32)), .val (.int bo1), .val (.int bo2), .val (.int kd), .unset, .unset, .unset, .unset, .unset, .unset, .unset, .unset] [(.int (2 : Int32)), (.ref b77), (.ref b77)])) _
      refine XS.iload X77.here hx rfl (hb hby at_127) rfl ?_
      show Steps p.tables e below (T77.setTop (mkF m 129 #[.val (.int p1), .val (.int p2), .val (.int p3), .val (.int p4), .val (.int p5), .val (.int (2 : Int32)), .val (.int x0), .val (.int x1), .val (.int y0), .val (.int y1), .val (.int (1 : Int32)), .val (.int bo1), .val (.int bo2), .val (.int kd), .unset, .unset, .unset, .unset, .unset, .unset, .unset, .unset] [(.int x0), (.int (2 : Int32)), (.ref b77), (.ref b77)])) _
      refine XS.iload X77.here hx rfl (hb hby at_129) rfl ?_
      show Steps p.tables e below (T77.setTop (mkF m 131 #[.val (.int p1), .val (.int p2), .val (.int p3), .val (.int p4), .val (.int p5), .val (.int (2 : Int32)), .val (.int x0), .val (.int x1), .val (.int y0), .val (.int y1), .val (.int (1 : Int32)), .val (.int bo1), .val (.int bo2), .val (.int kd), .unset, .unset, .unset, .unset, .unset, .unset, .unset, .unset] [(.int x1), (.int x0), (.int (2 : Int32)), (.ref b77), (.ref b77)])) _
      refine st78 _ ?_
      show Steps p.tables e below (T78.setTop (mkF m 134 #[.val (.int p1), .val (.int p2), .val (.int p3), .val (.int p4), .val (.int p5), .val (.int (2 : Int32)), .val (.int x0), .val (.int x1), .val (.int y0), .val (.int y1), .val (.int (1 : Int32)), .val (.int bo1), .val (.int bo2), .val (.int kd), .unset, .unset, .unset, .unset, .unset, .unset, .unset, .unset] [(.ref b78), (.ref b77), (.ref b77)])) _
      refine st79.trans ?_
      show Steps p.tables e below (T79.setTop (mkF m 137 #[.val (.int p1), .val (.int p2), .val (.int p3), .val (.int p4), .val (.int p5), .val (.int (2 : Int32)), .val (.int x0), .val (.int x1), .val (.int y0), .val (.int y1), .val (.int (1 : Int32)), .val (.int bo1), .val (.int bo2), .val (.int kd), .unset, .unset, .unset, .unset, .unset, .unset, .unset, .unset] [(.ref b77)])) _
      refine XS.astore X79.here hx rfl (hb hby at_137) rfl rfl (l' := #[.val (.int p1), .val (.int p2), .val (.int p3), .val (.int p4), .val (.int p5), .val (.int (2 : Int32)), .val (.int x0), .val (.int x1), .val (.int y0), .val (.int y1), .val (.int (1 : Int32)), .val (.int bo1), .val (.int bo2), .val (.int kd), .val (.ref b77), .unset, .unset, .unset, .unset, .unset, .unset, .unset]) rfl ?_
      show Steps p.tables e below (T79.setTop (mkF m 139 #[.val (.int p1), .val (.int p2), .val (.int p3), .val (.int p4), .val (.int p5), .val (.int (2 : Int32)), .val (.int x0), .val (.int x1), .val (.int y0), .val (.int y1), .val (.int (1 : Int32)), .val (.int bo1), .val (.int bo2), .val (.int kd), .val (.ref b77), .unset, .unset, .unset, .unset, .unset, .unset, .unset] [])) _
      refine st80 _ ?_
      show Steps p.tables e below (T80.setTop (mkF m 142 #[.val (.int p1), .val (.int p2), .val (.int p3), .val (.int p4), .val (.int p5), .val (.int (2 : Int32)), .val (.int x0), .val (.int x1), .val (.int y0), .val (.int y1), .val (.int (1 : Int32)), .val (.int bo1), .val (.int bo2), .val (.int kd), .val (.ref b77), .unset, .unset, .unset, .unset, .unset, .unset, .unset] [(.ref b80)])) _
      refine XS.dup X80.here hx rfl (hb hby at_142) rfl rfl ?_
      show Steps p.tables e below (T80.setTop (mkF m 143 #[.val (.int p1), .val (.int p2), .val (.int p3), .val (.int p4), .val (.int p5), .val (.int (2 : Int32)), .val (.int x0), .val (.int x1), .val (.int y0), .val (.int y1), .val (.int (1 : Int32)), .val (.int bo1), .val (.int bo2), .val (.int kd), .val (.ref b77), .unset, .unset, .unset, .unset, .unset, .unset, .unset] [(.ref b80), (.ref b80)])) _
      refine XS.iload X80.here hx rfl (hb hby at_143) rfl ?_
      show Steps p.tables e below (T80.setTop (mkF m 145 #[.val (.int p1), .val (.int p2), .val (.int p3), .val (.int p4), .val (.int p5), .val (.int (2 : Int32)), .val (.int x0), .val (.int x1), .val (.int y0), .val (.int y1), .val (.int (1 : Int32)), .val (.int bo1), .val (.int bo2), .val (.int kd), .val (.ref b77), .unset, .unset, .unset, .unset, .unset, .unset, .unset] [(.int (1 : Int32)), (.ref b80), (.ref b80)])) _
      refine XS.iload X80.here hx rfl (hb hby at_145) rfl ?_
      show Steps p.tables e below (T80.setTop (mkF m 147 #[.val (.int p1), .val (.int p2), .val (.int p3), .val (.int p4), .val (.int p5), .val (.int (2 : Int32)), .val (.int x0), .val (.int x1), .val (.int y0), .val (.int y1), .val (.int (1 : Int32)), .val (.int bo1), .val (.int bo2), .val (.int kd), .val (.ref b77), .unset, .unset, .unset, .unset, .unset, .unset, .unset] [(.int y0), (.int (1 : Int32)), (.ref b80), (.ref b80)])) _
      refine XS.iload X80.here hx rfl (hb hby at_147) rfl ?_
      exact k)
    obtain ⟨_, _, ⟨T82, L82, k82, n82⟩, -, X82, ⟨Lc82, hQ82, l82, y82, z82⟩, st82⟩ := Jvm.LawKit.callS X80 hx (y := (⟨"com/example/steadyhand/steadyhand/history/RecordedExecutionEqualsPinLaw", "chars", "(III)[C"⟩ : MethodName)) hown (mvT hZ (hw _ (List.mem_of_getElem? (i := 4) rfl))) (mvT hZ (hw _ (List.mem_of_getElem? (i := 5) rfl))) (mvT hZ (hw _ (List.mem_of_getElem? (i := 6) rfl))) (mvT hZ (hw _ (List.mem_of_getElem? (i := 7) rfl))) (by decide) (backOf (W := 2) (rm_ch1 l Z a0 hw [] y0 y1 h80 n0 (Nat.le_trans Z0 O80.1) h_y0 h_y1) hZ (hw _ (List.mem_of_getElem? (i := 7) rfl)) (hw _ (List.mem_of_getElem? (i := 6) rfl)) (by decide) (by decide)) (g := (mkF m 149 #[.val (.int p1), .val (.int p2), .val (.int p3), .val (.int p4), .val (.int p5), .val (.int (2 : Int32)), .val (.int x0), .val (.int x1), .val (.int y0), .val (.int y1), .val (.int (1 : Int32)), .val (.int bo1), .val (.int bo2), .val (.int kd), .val (.ref b77), .unset, .unset, .unset, .unset, .unset, .unset, .unset] [(.int y1), (.int y0), (.int (1 : Int32)), (.ref b80), (.ref b80)])) rfl (by rw [hml]; rfl) (argsL := [(.int (1 : Int32)), (.int y0), (.int y1)]) (rest := [(.ref b80), (.ref b80)]) (lenOf pd_4 rfl) rfl (by show 2 * 0 + _ ≤ _; exact Nat.le_of_eq rfl) (hb hby at_149) (fun _ _ => ⟨rfl, e80, (by decide : 4 + 1 ≤ _), (by decide : 12 + 1 ≤ _)⟩)
    dsimp only [Pt.U, Pt.locs, Pt.cells, Pt.slots] at X82 l82 y82 z82 st82 hQ82
    rw [y82, z82] at X82
    obtain ⟨b82, kc82, rfl, N82q, E82, zz82, V82⟩ := hQ82
    have N82 : Fr n0 L82 := by rw [l82]; exact Fr.app N79 N82q
    have ne_b77_b82 : b77 ≠ b82 := Nat.ne_of_lt (Nat.lt_of_lt_of_le E80_b77.lt zz82)
    have ne_b80_b82 : b80 ≠ b82 := Nat.ne_of_lt (Nat.lt_of_lt_of_le A80.lt zz82)
    have ne_t79_b82 : t79 ≠ b82 := Nat.ne_of_lt (Nat.lt_of_lt_of_le V80_t79.lt zz82)
    have z_b82 : h0.size ≤ b82 := Nat.le_trans O80.1 zz82
    have g_b82 : n0 ≤ b82 := Nat.le_trans Z0 z_b82
    have E82_b77 := E80_b77.ext E82
    have E82_b80 := A80.ext E82
    have V82_t79 := V80_t79.ext E82
    have F82_b77_coder := F80_b77_coder.ext E82
    have F82_b77_value := F80_b77_value.ext E82
    have F82_b80_value := F80_b80_value.ext E82
    have F82_b80_coder := F80_b80_coder.ext E82
    have O82 := own_ext_trans O80 E82
    obtain ⟨_, _, ⟨T83, L83, k83, n83⟩, -, X83, ⟨Lc83, hQ83, l83, y83, z83⟩, st83⟩ := X82.specialBack hx (y := (⟨"java/lang/String", "<init>", "([C)V"⟩ : MethodName)) rfl hown (mvT hZ (hw _ (List.mem_of_getElem? (i := 9) rfl))) (mvT hZ (hw _ (List.mem_of_getElem? (i := 10) rfl))) (mvT hZ (hw _ (List.mem_of_getElem? (i := 11) rfl))) (by decide) (StrChars.Road.backV (W := 1) hZ hws (kI := 4) (hw _ (List.mem_of_getElem? (i := 2) rfl)) (x := b80) (b := b82) (cs := [y0]) (bs := [y0.toInt8.toInt32]) (n := 1) (n0 := n0) g_b80 (Nat.le_trans Z0 O82.1) E82_b80 F82_b80_value F82_b80_coder V82 (Sc.ext O82) hzc rfl rfl (by decide) (by decide) (own_all1 h_y0) rfl (by decide) (by decide)) (g := (mkF m 152 #[.val (.int p1), .val (.int p2), .val (.int p3), .val (.int p4), .val (.int p5), .val (.int (2 : Int32)), .val (.int x0), .val (.int x1), .val (.int y0), .val (.int y1), .val (.int (1 : Int32)), .val (.int bo1), .val (.int bo2), .val (.int kd), .val (.ref b77), .unset, .unset, .unset, .unset, .unset, .unset, .unset] [(.ref b82), (.ref b80), (.ref b80)])) rfl (by rw [hml]; rfl) (Steps.refl _) (a := b80) (argsL := [(.ref b82)]) (rest := [(.ref b80)]) (lenOf pd_5 rfl) rfl (by show 2 * 0 + _ ≤ _; exact Nat.le_of_eq rfl) (hb hby at_152) (fun _ _ => ⟨rfl, rfl, (by decide : 5 + 1 ≤ _), (by decide : 13 + 1 ≤ _)⟩)
    dsimp only [Pt.U, Pt.locs, Pt.cells, Pt.slots] at X83 l83 y83 z83 st83 hQ83
    rw [y83, z83] at X83
    obtain ⟨rfl, N83q, K83c, E83c, C83c, t83, kb83, _, _, _, V83c, A83c⟩ := hQ83
    have N83 : Fr n0 L83 := by rw [l83]; exact Fr.app N82 N83q
    have E83_b77 := E82_b77.keep K83c
    have E83_b80 := E82_b80.keep K83c
    have V83_t79 := V82_t79.keep K83c (ninS ne_t79_b80 nin0)
    have V83_b82 := V82.keep K83c (ninS (Ne.symm ne_b80_b82) nin0)
    have F83_b77_coder := F82_b77_coder.keep K83c (ninS ne_b77_b80 nin0)
    have F83_b77_value := F82_b77_value.keep K83c (ninS ne_b77_b80 nin0)
    have O83 := own_ext_keep O82 K83c (allS z_b80 all0)
    have pre84 : ∀ t, Steps p.tables e below (T83.setTop (mkF m 157 #[.val (.int p1), .val (.int p2), .val (.int p3), .val (.int p4), .val (.int p5), .val (.int (2 : Int32)), .val (.int x0), .val (.int x1), .val (.int y0), .val (.int y1), .val (.int (1 : Int32)), .val (.int bo1), .val (.int bo2), .val (.int kd), .val (.ref b77), .val (.ref b80), .unset, .unset, .unset, .unset, .unset, .unset] [])) t → Steps p.tables e below (s₁.setTop (entryFrame m #[(.int p1), (.int p2), (.int p3), (.int p4), (.int p5)] maxLocals)) t := fun t k => pre81 t (by
      show Steps p.tables e below (T80.setTop (mkF m 149 #[.val (.int p1), .val (.int p2), .val (.int p3), .val (.int p4), .val (.int p5), .val (.int (2 : Int32)), .val (.int x0), .val (.int x1), .val (.int y0), .val (.int y1), .val (.int (1 : Int32)), .val (.int bo1), .val (.int bo2), .val (.int kd), .val (.ref b77), .unset, .unset, .unset, .unset, .unset, .unset, .unset] [(.int y1), (.int y0), (.int (1 : Int32)), (.ref b80), (.ref b80)])) _
      refine st82 _ ?_
      show Steps p.tables e below (T82.setTop (mkF m 152 #[.val (.int p1), .val (.int p2), .val (.int p3), .val (.int p4), .val (.int p5), .val (.int (2 : Int32)), .val (.int x0), .val (.int x1), .val (.int y0), .val (.int y1), .val (.int (1 : Int32)), .val (.int bo1), .val (.int bo2), .val (.int kd), .val (.ref b77), .unset, .unset, .unset, .unset, .unset, .unset, .unset] [(.ref b82), (.ref b80), (.ref b80)])) _
      refine st83.trans ?_
      show Steps p.tables e below (T83.setTop (mkF m 155 #[.val (.int p1), .val (.int p2), .val (.int p3), .val (.int p4), .val (.int p5), .val (.int (2 : Int32)), .val (.int x0), .val (.int x1), .val (.int y0), .val (.int y1), .val (.int (1 : Int32)), .val (.int bo1), .val (.int bo2), .val (.int kd), .val (.ref b77), .unset, .unset, .unset, .unset, .unset, .unset, .unset] [(.ref b80)])) _
      refine XS.astore X83.here hx rfl (hb hby at_155) rfl rfl (l' := #[.val (.int p1), .val (.int p2), .val (.int p3), .val (.int p4), .val (.int p5), .val (.int (2 : Int32)), .val (.int x0), .val (.int x1), .val (.int y0), .val (.int y1), .val (.int (1 : Int32)), .val (.int bo1), .val (.int bo2), .val (.int kd), .val (.ref b77), .val (.ref b80), .unset, .unset, .unset, .unset, .unset, .unset]) rfl ?_
      exact k)
    exact own_tail (s := s) (vm0 := s.vm) Z a0 hw p1 p2 p3 p4 p5 (2 : Int32) x0 x1 y0 y1 (1 : Int32) bo1 bo2 kd b77 b80 [x0, x1] [y0] T83.heap n0 (Nat.le_trans Z0 O83.1) (X83.more (by decide) (by decide)) hx hby hml Bd.returns Bd.notSynchronized hZ hown ((State.WarmedH.refl s).since T83.heap.size) (Nat.le_refl _) rfl N83 (own_strN (cs := [x0, x1]) (bs := [x0.toInt8.toInt32, x1.toInt8.toInt32]) (n := 2) rfl (by decide) rfl rfl (own_all2 h_x0 h_x1) E83_b77 F83_b77_coder F83_b77_value V83_t79) (own_strN (cs := [y0]) (bs := [y0.toInt8.toInt32]) (n := 1) rfl (by decide) rfl rfl (own_all1 h_y0) E83c C83c V83c A83c) (Or.inr (Or.inr ⟨rfl, rfl⟩)) (Or.inr (Or.inl ⟨rfl, rfl⟩)) h_bo1 h_bo2 zc (Sc.ext O83) hzc pre84
  · rw [hl1, hl2] at pre20
    have O0 := own_ext_refl h0
    obtain ⟨T85, h85, X85, e85, E85, A85, D85, -, st85⟩ := newO X0 hx hZ hown (hw _ (List.mem_of_getElem? (i := 1) rfl)) (hw _ (List.mem_of_getElem? (i := 2) rfl)) (hw _ (List.mem_of_getElem? (i := 3) rfl)) e0 (g := (mkF m 121 #[.val (.int p1), .val (.int p2), .val (.int p3), .val (.int p4), .val (.int p5), .val (.int (2 : Int32)), .val (.int x0), .val (.int x1), .val (.int y0), .val (.int y1), .val (.int (2 : Int32)), .val (.int bo1), .val (.int bo2), .val (.int kd), .unset, .unset, .unset, .unset, .unset, .unset, .unset, .unset] [])) rfl (hb hby at_121) (by decide) (by decide)
    obtain ⟨b85, g85⟩ : ∃ z, z = h0.size := ⟨_, rfl⟩
    rw [← g85] at A85 D85 st85
    have z_b85 : h0.size ≤ b85 := Nat.le_trans O0.1 (Nat.le_of_eq g85.symm)
    have g_b85 : n0 ≤ b85 := Nat.le_trans Z0 z_b85
    have O85 := own_ext_trans O0 E85
    have F85_b85_value : Fld Z h85 b85 "java/lang/String" "value" "[B" .null := D85 (Or.inr (hw _ (List.mem_of_getElem? (i := 21) rfl))) (ty := (.array .byte)) (by decide)
    have F85_b85_coder : Fld Z h85 b85 "java/lang/String" "coder" "B" (.int (0 : Int32)) := D85 (Or.inr (hw _ (List.mem_of_getElem? (i := 22) rfl))) (ty := .byte) (by decide)
    obtain ⟨_, _, ⟨T86, L86, k86, n86⟩, -, X86, ⟨Lc86, hQ86, l86, y86, z86⟩, st86⟩ := Jvm.LawKit.callS X85 hx (y := (⟨"com/example/steadyhand/steadyhand/history/RecordedExecutionEqualsPinLaw", "chars", "(III)[C"⟩ : MethodName)) hown (mvT hZ (hw _ (List.mem_of_getElem? (i := 4) rfl))) (mvT hZ (hw _ (List.mem_of_getElem? (i := 5) rfl))) (mvT hZ (hw _ (List.mem_of_getElem? (i := 6) rfl))) (mvT hZ (hw _ (List.mem_of_getElem? (i := 7) rfl))) (by decide) (backOf (W := 2) (rm_ch2 l Z a0 hw [] x0 x1 h85 n0 (Nat.le_trans Z0 O85.1) h_x0 h_x1) hZ (hw _ (List.mem_of_getElem? (i := 7) rfl)) (hw _ (List.mem_of_getElem? (i := 6) rfl)) (by decide) (by decide)) (g := (mkF m 131 #[.val (.int p1), .val (.int p2), .val (.int p3), .val (.int p4), .val (.int p5), .val (.int (2 : Int32)), .val (.int x0), .val (.int x1), .val (.int y0), .val (.int y1), .val (.int (2 : Int32)), .val (.int bo1), .val (.int bo2), .val (.int kd), .unset, .unset, .unset, .unset, .unset, .unset, .unset, .unset] [(.int x1), (.int x0), (.int (2 : Int32)), (.ref b85), (.ref b85)])) rfl (by rw [hml]; rfl) (argsL := [(.int (2 : Int32)), (.int x0), (.int x1)]) (rest := [(.ref b85), (.ref b85)]) (lenOf pd_4 rfl) rfl (by show 2 * 0 + _ ≤ _; exact Nat.le_of_eq rfl) (hb hby at_131) (fun _ _ => ⟨rfl, e85, (by decide : 1 + 1 ≤ _), (by decide : 4 + 2 ≤ _)⟩)
    dsimp only [Pt.U, Pt.locs, Pt.cells, Pt.slots] at X86 l86 y86 z86 st86 hQ86
    rw [y86, z86] at X86
    obtain ⟨b86, kc86, rfl, N86q, E86, zz86, V86⟩ := hQ86
    have N86 : Fr n0 L86 := by rw [l86]; exact Fr.app N0 N86q
    have ne_b85_b86 : b85 ≠ b86 := Nat.ne_of_lt (Nat.lt_of_lt_of_le A85.lt zz86)
    have z_b86 : h0.size ≤ b86 := Nat.le_trans O85.1 zz86
    have g_b86 : n0 ≤ b86 := Nat.le_trans Z0 z_b86
    have E86_b85 := A85.ext E86
    have F86_b85_value := F85_b85_value.ext E86
    have F86_b85_coder := F85_b85_coder.ext E86
    have O86 := own_ext_trans O85 E86
    obtain ⟨_, _, ⟨T87, L87, k87, n87⟩, -, X87, ⟨Lc87, hQ87, l87, y87, z87⟩, st87⟩ := X86.specialBack hx (y := (⟨"java/lang/String", "<init>", "([C)V"⟩ : MethodName)) rfl hown (mvT hZ (hw _ (List.mem_of_getElem? (i := 9) rfl))) (mvT hZ (hw _ (List.mem_of_getElem? (i := 10) rfl))) (mvT hZ (hw _ (List.mem_of_getElem? (i := 11) rfl))) (by decide) (StrChars.Road.backV (W := 1) hZ hws (kI := 4) (hw _ (List.mem_of_getElem? (i := 2) rfl)) (x := b85) (b := b86) (cs := [x0, x1]) (bs := [x0.toInt8.toInt32, x1.toInt8.toInt32]) (n := 2) (n0 := n0) g_b85 (Nat.le_trans Z0 O86.1) E86_b85 F86_b85_value F86_b85_coder V86 (Sc.ext O86) hzc rfl rfl (by decide) (by decide) (own_all2 h_x0 h_x1) rfl (by decide) (by decide)) (g := (mkF m 134 #[.val (.int p1), .val (.int p2), .val (.int p3), .val (.int p4), .val (.int p5), .val (.int (2 : Int32)), .val (.int x0), .val (.int x1), .val (.int y0), .val (.int y1), .val (.int (2 : Int32)), .val (.int bo1), .val (.int bo2), .val (.int kd), .unset, .unset, .unset, .unset, .unset, .unset, .unset, .unset] [(.ref b86), (.ref b85), (.ref b85)])) rfl (by rw [hml]; rfl) (Steps.refl _) (a := b85) (argsL := [(.ref b86)]) (rest := [(.ref b85)]) (lenOf pd_5 rfl) rfl (by show 2 * 0 + _ ≤ _; exact Nat.le_of_eq rfl) (hb hby at_134) (fun _ _ => ⟨rfl, rfl, (by decide : 2 + 1 ≤ _), (by decide : 6 + 2 ≤ _)⟩)
    dsimp only [Pt.U, Pt.locs, Pt.cells, Pt.slots] at X87 l87 y87 z87 st87 hQ87
    rw [y87, z87] at X87
    obtain ⟨rfl, N87q, K87c, E87c, C87c, t87, kb87, _, _, _, V87c, A87c⟩ := hQ87
    have N87 : Fr n0 L87 := by rw [l87]; exact Fr.app N86 N87q
    have E87_b85 := E86_b85.keep K87c
    have V87_b86 := V86.keep K87c (ninS (Ne.symm ne_b85_b86) nin0)
    have O87 := own_ext_keep O86 K87c (allS z_b85 all0)
    obtain ⟨T88, h88, X88, e88, E88, A88, D88, -, st88⟩ := newO X87 hx hZ hown (hw _ (List.mem_of_getElem? (i := 1) rfl)) (hw _ (List.mem_of_getElem? (i := 2) rfl)) (hw _ (List.mem_of_getElem? (i := 3) rfl)) rfl (g := (mkF m 139 #[.val (.int p1), .val (.int p2), .val (.int p3), .val (.int p4), .val (.int p5), .val (.int (2 : Int32)), .val (.int x0), .val (.int x1), .val (.int y0), .val (.int y1), .val (.int (2 : Int32)), .val (.int bo1), .val (.int bo2), .val (.int kd), .val (.ref b85), .unset, .unset, .unset, .unset, .unset, .unset, .unset] [])) rfl (hb hby at_139) (by decide) (by decide)
    obtain ⟨b88, g88⟩ : ∃ z, z = T87.heap.size := ⟨_, rfl⟩
    rw [← g88] at A88 D88 st88
    have ne_b85_b88 : b85 ≠ b88 := Nat.ne_of_lt (Nat.lt_of_lt_of_le E87c.lt (Nat.le_of_eq g88.symm))
    have ne_t87_b88 : t87 ≠ b88 := Nat.ne_of_lt (Nat.lt_of_lt_of_le A87c.lt (Nat.le_of_eq g88.symm))
    have z_b88 : h0.size ≤ b88 := Nat.le_trans O87.1 (Nat.le_of_eq g88.symm)
    have g_b88 : n0 ≤ b88 := Nat.le_trans Z0 z_b88
    have E88_b85 := E87c.ext E88
    have V88_t87 := A87c.ext E88
    have F88_b85_coder := C87c.ext E88
    have F88_b85_value := V87c.ext E88
    have O88 := own_ext_trans O87 E88
    have F88_b88_value : Fld Z h88 b88 "java/lang/String" "value" "[B" .null := D88 (Or.inr (hw _ (List.mem_of_getElem? (i := 21) rfl))) (ty := (.array .byte)) (by decide)
    have F88_b88_coder : Fld Z h88 b88 "java/lang/String" "coder" "B" (.int (0 : Int32)) := D88 (Or.inr (hw _ (List.mem_of_getElem? (i := 22) rfl))) (ty := .byte) (by decide)
    have pre89 : ∀ t, Steps p.tables e below (T88.setTop (mkF m 149 #[.val (.int p1), .val (.int p2), .val (.int p3), .val (.int p4), .val (.int p5), .val (.int (2 : Int32)), .val (.int x0), .val (.int x1), .val (.int y0), .val (.int y1), .val (.int (2 : Int32)), .val (.int bo1), .val (.int bo2), .val (.int kd), .val (.ref b85), .unset, .unset, .unset, .unset, .unset, .unset, .unset] [(.int y1), (.int y0), (.int (2 : Int32)), (.ref b88), (.ref b88)])) t → Steps p.tables e below (s₁.setTop (entryFrame m #[(.int p1), (.int p2), (.int p3), (.int p4), (.int p5)] maxLocals)) t := fun t k => pre20 t (by
      show Steps p.tables e below (s₁.setTop (mkF m 121 #[.val (.int p1), .val (.int p2), .val (.int p3), .val (.int p4), .val (.int p5), .val (.int (2 : Int32)), .val (.int x0), .val (.int x1), .val (.int y0), .val (.int y1), .val (.int (2 : Int32)), .val (.int bo1), .val (.int bo2), .val (.int kd), .unset, .unset, .unset, .unset, .unset, .unset, .unset, .unset] [])) _
      refine st85 _ ?_
      show Steps p.tables e below (T85.setTop (mkF m 124 #[.val (.int p1), .val (.int p2), .val (.int p3), .val (.int p4), .val (.int p5), .val (.int (2 : Int32)), .val (.int x0), .val (.int x1), .val (.int y0), .val (.int y1), .val (.int (2 : Int32)), .val (.int bo1), .val (.int bo2), .val (.int kd), .unset, .unset, .unset, .unset, .unset, .unset, .unset, .unset] [(.ref b85)])) _
      refine XS.dup X85.here hx rfl (hb hby at_124) rfl rfl ?_
      show Steps p.tables e below (T85.setTop (mkF m 125 #[.val (.int p1), .val (.int p2), .val (.int p3), .val (.int p4), .val (.int p5), .val (.int (2 : Int32)), .val (.int x0), .val (.int x1), .val (.int y0), .val (.int y1), .val (.int (2 : Int32)), .val (.int bo1), .val (.int bo2), .val (.int kd), .unset, .unset, .unset, .unset, .unset, .unset, .unset, .unset] [(.ref b85), (.ref b85)])) _
      refine XS.iload X85.here hx rfl (hb hby at_125) rfl ?_
      show Steps p.tables e below (T85.setTop (mkF m 127 #[.val (.int p1), .val (.int p2), .val (.int p3), .val (.int p4), .val (.int p5), .val (.int (2 : Int32)), .val (.int x0), .val (.int x1), .val (.int y0), .val (.int y1), .val (.int (2 : Int32)), .val (.int bo1), .val (.int bo2), .val (.int kd), .unset, .unset, .unset, .unset, .unset, .unset, .unset, .unset] [(.int (2 : Int32)), (.ref b85), (.ref b85)])) _
      refine XS.iload X85.here hx rfl (hb hby at_127) rfl ?_
      show Steps p.tables e below (T85.setTop (mkF m 129 #[.val (.int p1), .val (.int p2), .val (.int p3), .val (.int p4), .val (.int p5), .val (.int (2 : Int32)), .val (.int x0), .val (.int x1), .val (.int y0), .val (.int y1), .val (.int (2 : Int32)), .val (.int bo1), .val (.int bo2), .val (.int kd), .unset, .unset, .unset, .unset, .unset, .unset, .unset, .unset] [(.int x0), (.int (2 : Int32)), (.ref b85), (.ref b85)])) _
      refine XS.iload X85.here hx rfl (hb hby at_129) rfl ?_
      show Steps p.tables e below (T85.setTop (mkF m 131 #[.val (.int p1), .val (.int p2), .val (.int p3), .val (.int p4), .val (.int p5), .val (.int (2 : Int32)), .val (.int x0), .val (.int x1), .val (.int y0), .val (.int y1), .val (.int (2 : Int32)), .val (.int bo1), .val (.int bo2), .val (.int kd), .unset, .unset, .unset, .unset, .unset, .unset, .unset, .unset] [(.int x1), (.int x0), (.int (2 : Int32)), (.ref b85), (.ref b85)])) _
      refine st86 _ ?_
      show Steps p.tables e below (T86.setTop (mkF m 134 #[.val (.int p1), .val (.int p2), .val (.int p3), .val (.int p4), .val (.int p5), .val (.int (2 : Int32)), .val (.int x0), .val (.int x1), .val (.int y0), .val (.int y1), .val (.int (2 : Int32)), .val (.int bo1), .val (.int bo2), .val (.int kd), .unset, .unset, .unset, .unset, .unset, .unset, .unset, .unset] [(.ref b86), (.ref b85), (.ref b85)])) _
      refine st87.trans ?_
      show Steps p.tables e below (T87.setTop (mkF m 137 #[.val (.int p1), .val (.int p2), .val (.int p3), .val (.int p4), .val (.int p5), .val (.int (2 : Int32)), .val (.int x0), .val (.int x1), .val (.int y0), .val (.int y1), .val (.int (2 : Int32)), .val (.int bo1), .val (.int bo2), .val (.int kd), .unset, .unset, .unset, .unset, .unset, .unset, .unset, .unset] [(.ref b85)])) _
      refine XS.astore X87.here hx rfl (hb hby at_137) rfl rfl (l' := #[.val (.int p1), .val (.int p2), .val (.int p3), .val (.int p4), .val (.int p5), .val (.int (2 : Int32)), .val (.int x0), .val (.int x1), .val (.int y0), .val (.int y1), .val (.int (2 : Int32)), .val (.int bo1), .val (.int bo2), .val (.int kd), .val (.ref b85), .unset, .unset, .unset, .unset, .unset, .unset, .unset]) rfl ?_
      show Steps p.tables e below (T87.setTop (mkF m 139 #[.val (.int p1), .val (.int p2), .val (.int p3), .val (.int p4), .val (.int p5), .val (.int (2 : Int32)), .val (.int x0), .val (.int x1), .val (.int y0), .val (.int y1), .val (.int (2 : Int32)), .val (.int bo1), .val (.int bo2), .val (.int kd), .val (.ref b85), .unset, .unset, .unset, .unset, .unset, .unset, .unset] [])) _
      refine st88 _ ?_
      show Steps p.tables e below (T88.setTop (mkF m 142 #[.val (.int p1), .val (.int p2), .val (.int p3), .val (.int p4), .val (.int p5), .val (.int (2 : Int32)), .val (.int x0), .val (.int x1), .val (.int y0), .val (.int y1), .val (.int (2 : Int32)), .val (.int bo1), .val (.int bo2), .val (.int kd), .val (.ref b85), .unset, .unset, .unset, .unset, .unset, .unset, .unset] [(.ref b88)])) _
      refine XS.dup X88.here hx rfl (hb hby at_142) rfl rfl ?_
      show Steps p.tables e below (T88.setTop (mkF m 143 #[.val (.int p1), .val (.int p2), .val (.int p3), .val (.int p4), .val (.int p5), .val (.int (2 : Int32)), .val (.int x0), .val (.int x1), .val (.int y0), .val (.int y1), .val (.int (2 : Int32)), .val (.int bo1), .val (.int bo2), .val (.int kd), .val (.ref b85), .unset, .unset, .unset, .unset, .unset, .unset, .unset] [(.ref b88), (.ref b88)])) _
      refine XS.iload X88.here hx rfl (hb hby at_143) rfl ?_
      show Steps p.tables e below (T88.setTop (mkF m 145 #[.val (.int p1), .val (.int p2), .val (.int p3), .val (.int p4), .val (.int p5), .val (.int (2 : Int32)), .val (.int x0), .val (.int x1), .val (.int y0), .val (.int y1), .val (.int (2 : Int32)), .val (.int bo1), .val (.int bo2), .val (.int kd), .val (.ref b85), .unset, .unset, .unset, .unset, .unset, .unset, .unset] [(.int (2 : Int32)), (.ref b88), (.ref b88)])) _
      refine XS.iload X88.here hx rfl (hb hby at_145) rfl ?_
      show Steps p.tables e below (T88.setTop (mkF m 147 #[.val (.int p1), .val (.int p2), .val (.int p3), .val (.int p4), .val (.int p5), .val (.int (2 : Int32)), .val (.int x0), .val (.int x1), .val (.int y0), .val (.int y1), .val (.int (2 : Int32)), .val (.int bo1), .val (.int bo2), .val (.int kd), .val (.ref b85), .unset, .unset, .unset, .unset, .unset, .unset, .unset] [(.int y0), (.int (2 : Int32)), (.ref b88), (.ref b88)])) _
      refine XS.iload X88.here hx rfl (hb hby at_147) rfl ?_
      exact k)
    obtain ⟨_, _, ⟨T90, L90, k90, n90⟩, -, X90, ⟨Lc90, hQ90, l90, y90, z90⟩, st90⟩ := Jvm.LawKit.callS X88 hx (y := (⟨"com/example/steadyhand/steadyhand/history/RecordedExecutionEqualsPinLaw", "chars", "(III)[C"⟩ : MethodName)) hown (mvT hZ (hw _ (List.mem_of_getElem? (i := 4) rfl))) (mvT hZ (hw _ (List.mem_of_getElem? (i := 5) rfl))) (mvT hZ (hw _ (List.mem_of_getElem? (i := 6) rfl))) (mvT hZ (hw _ (List.mem_of_getElem? (i := 7) rfl))) (by decide) (backOf (W := 2) (rm_ch2 l Z a0 hw [] y0 y1 h88 n0 (Nat.le_trans Z0 O88.1) h_y0 h_y1) hZ (hw _ (List.mem_of_getElem? (i := 7) rfl)) (hw _ (List.mem_of_getElem? (i := 6) rfl)) (by decide) (by decide)) (g := (mkF m 149 #[.val (.int p1), .val (.int p2), .val (.int p3), .val (.int p4), .val (.int p5), .val (.int (2 : Int32)), .val (.int x0), .val (.int x1), .val (.int y0), .val (.int y1), .val (.int (2 : Int32)), .val (.int bo1), .val (.int bo2), .val (.int kd), .val (.ref b85), .unset, .unset, .unset, .unset, .unset, .unset, .unset] [(.int y1), (.int y0), (.int (2 : Int32)), (.ref b88), (.ref b88)])) rfl (by rw [hml]; rfl) (argsL := [(.int (2 : Int32)), (.int y0), (.int y1)]) (rest := [(.ref b88), (.ref b88)]) (lenOf pd_4 rfl) rfl (by show 2 * 0 + _ ≤ _; exact Nat.le_of_eq rfl) (hb hby at_149) (fun _ _ => ⟨rfl, e88, (by decide : 4 + 1 ≤ _), (by decide : 12 + 2 ≤ _)⟩)
    dsimp only [Pt.U, Pt.locs, Pt.cells, Pt.slots] at X90 l90 y90 z90 st90 hQ90
    rw [y90, z90] at X90
    obtain ⟨b90, kc90, rfl, N90q, E90, zz90, V90⟩ := hQ90
    have N90 : Fr n0 L90 := by rw [l90]; exact Fr.app N87 N90q
    have ne_b85_b90 : b85 ≠ b90 := Nat.ne_of_lt (Nat.lt_of_lt_of_le E88_b85.lt zz90)
    have ne_b88_b90 : b88 ≠ b90 := Nat.ne_of_lt (Nat.lt_of_lt_of_le A88.lt zz90)
    have ne_t87_b90 : t87 ≠ b90 := Nat.ne_of_lt (Nat.lt_of_lt_of_le V88_t87.lt zz90)
    have z_b90 : h0.size ≤ b90 := Nat.le_trans O88.1 zz90
    have g_b90 : n0 ≤ b90 := Nat.le_trans Z0 z_b90
    have E90_b85 := E88_b85.ext E90
    have E90_b88 := A88.ext E90
    have V90_t87 := V88_t87.ext E90
    have F90_b85_coder := F88_b85_coder.ext E90
    have F90_b85_value := F88_b85_value.ext E90
    have F90_b88_value := F88_b88_value.ext E90
    have F90_b88_coder := F88_b88_coder.ext E90
    have O90 := own_ext_trans O88 E90
    obtain ⟨_, _, ⟨T91, L91, k91, n91⟩, -, X91, ⟨Lc91, hQ91, l91, y91, z91⟩, st91⟩ := X90.specialBack hx (y := (⟨"java/lang/String", "<init>", "([C)V"⟩ : MethodName)) rfl hown (mvT hZ (hw _ (List.mem_of_getElem? (i := 9) rfl))) (mvT hZ (hw _ (List.mem_of_getElem? (i := 10) rfl))) (mvT hZ (hw _ (List.mem_of_getElem? (i := 11) rfl))) (by decide) (StrChars.Road.backV (W := 1) hZ hws (kI := 4) (hw _ (List.mem_of_getElem? (i := 2) rfl)) (x := b88) (b := b90) (cs := [y0, y1]) (bs := [y0.toInt8.toInt32, y1.toInt8.toInt32]) (n := 2) (n0 := n0) g_b88 (Nat.le_trans Z0 O90.1) E90_b88 F90_b88_value F90_b88_coder V90 (Sc.ext O90) hzc rfl rfl (by decide) (by decide) (own_all2 h_y0 h_y1) rfl (by decide) (by decide)) (g := (mkF m 152 #[.val (.int p1), .val (.int p2), .val (.int p3), .val (.int p4), .val (.int p5), .val (.int (2 : Int32)), .val (.int x0), .val (.int x1), .val (.int y0), .val (.int y1), .val (.int (2 : Int32)), .val (.int bo1), .val (.int bo2), .val (.int kd), .val (.ref b85), .unset, .unset, .unset, .unset, .unset, .unset, .unset] [(.ref b90), (.ref b88), (.ref b88)])) rfl (by rw [hml]; rfl) (Steps.refl _) (a := b88) (argsL := [(.ref b90)]) (rest := [(.ref b88)]) (lenOf pd_5 rfl) rfl (by show 2 * 0 + _ ≤ _; exact Nat.le_of_eq rfl) (hb hby at_152) (fun _ _ => ⟨rfl, rfl, (by decide : 5 + 1 ≤ _), (by decide : 14 + 2 ≤ _)⟩)
    dsimp only [Pt.U, Pt.locs, Pt.cells, Pt.slots] at X91 l91 y91 z91 st91 hQ91
    rw [y91, z91] at X91
    obtain ⟨rfl, N91q, K91c, E91c, C91c, t91, kb91, _, _, _, V91c, A91c⟩ := hQ91
    have N91 : Fr n0 L91 := by rw [l91]; exact Fr.app N90 N91q
    have E91_b85 := E90_b85.keep K91c
    have E91_b88 := E90_b88.keep K91c
    have V91_t87 := V90_t87.keep K91c (ninS ne_t87_b88 nin0)
    have V91_b90 := V90.keep K91c (ninS (Ne.symm ne_b88_b90) nin0)
    have F91_b85_coder := F90_b85_coder.keep K91c (ninS ne_b85_b88 nin0)
    have F91_b85_value := F90_b85_value.keep K91c (ninS ne_b85_b88 nin0)
    have O91 := own_ext_keep O90 K91c (allS z_b88 all0)
    have pre92 : ∀ t, Steps p.tables e below (T91.setTop (mkF m 157 #[.val (.int p1), .val (.int p2), .val (.int p3), .val (.int p4), .val (.int p5), .val (.int (2 : Int32)), .val (.int x0), .val (.int x1), .val (.int y0), .val (.int y1), .val (.int (2 : Int32)), .val (.int bo1), .val (.int bo2), .val (.int kd), .val (.ref b85), .val (.ref b88), .unset, .unset, .unset, .unset, .unset, .unset] [])) t → Steps p.tables e below (s₁.setTop (entryFrame m #[(.int p1), (.int p2), (.int p3), (.int p4), (.int p5)] maxLocals)) t := fun t k => pre89 t (by
      show Steps p.tables e below (T88.setTop (mkF m 149 #[.val (.int p1), .val (.int p2), .val (.int p3), .val (.int p4), .val (.int p5), .val (.int (2 : Int32)), .val (.int x0), .val (.int x1), .val (.int y0), .val (.int y1), .val (.int (2 : Int32)), .val (.int bo1), .val (.int bo2), .val (.int kd), .val (.ref b85), .unset, .unset, .unset, .unset, .unset, .unset, .unset] [(.int y1), (.int y0), (.int (2 : Int32)), (.ref b88), (.ref b88)])) _
      refine st90 _ ?_
      show Steps p.tables e below (T90.setTop (mkF m 152 #[.val (.int p1), .val (.int p2), .val (.int p3), .val (.int p4), .val (.int p5), .val (.int (2 : Int32)), .val (.int x0), .val (.int x1), .val (.int y0), .val (.int y1), .val (.int (2 : Int32)), .val (.int bo1), .val (.int bo2), .val (.int kd), .val (.ref b85), .unset, .unset, .unset, .unset, .unset, .unset, .unset] [(.ref b90), (.ref b88), (.ref b88)])) _
      refine st91.trans ?_
      show Steps p.tables e below (T91.setTop (mkF m 155 #[.val (.int p1), .val (.int p2), .val (.int p3), .val (.int p4), .val (.int p5), .val (.int (2 : Int32)), .val (.int x0), .val (.int x1), .val (.int y0), .val (.int y1), .val (.int (2 : Int32)), .val (.int bo1), .val (.int bo2), .val (.int kd), .val (.ref b85), .unset, .unset, .unset, .unset, .unset, .unset, .unset] [(.ref b88)])) _
      refine XS.astore X91.here hx rfl (hb hby at_155) rfl rfl (l' := #[.val (.int p1), .val (.int p2), .val (.int p3), .val (.int p4), .val (.int p5), .val (.int (2 : Int32)), .val (.int x0), .val (.int x1), .val (.int y0), .val (.int y1), .val (.int (2 : Int32)), .val (.int bo1), .val (.int bo2), .val (.int kd), .val (.ref b85), .val (.ref b88), .unset, .unset, .unset, .unset, .unset, .unset]) rfl ?_
      exact k)
    exact own_tail (s := s) (vm0 := s.vm) Z a0 hw p1 p2 p3 p4 p5 (2 : Int32) x0 x1 y0 y1 (2 : Int32) bo1 bo2 kd b85 b88 [x0, x1] [y0, y1] T91.heap n0 (Nat.le_trans Z0 O91.1) (X91.more (by decide) (by decide)) hx hby hml Bd.returns Bd.notSynchronized hZ hown ((State.WarmedH.refl s).since T91.heap.size) (Nat.le_refl _) rfl N91 (own_strN (cs := [x0, x1]) (bs := [x0.toInt8.toInt32, x1.toInt8.toInt32]) (n := 2) rfl (by decide) rfl rfl (own_all2 h_x0 h_x1) E91_b85 F91_b85_coder F91_b85_value V91_t87) (own_strN (cs := [y0, y1]) (bs := [y0.toInt8.toInt32, y1.toInt8.toInt32]) (n := 2) rfl (by decide) rfl rfl (own_all2 h_y0 h_y1) E91c C91c V91c A91c) (Or.inr (Or.inr ⟨rfl, rfl⟩)) (Or.inr (Or.inr ⟨rfl, rfl⟩)) h_bo1 h_bo2 zc (Sc.ext O91) hzc pre92
set_option maxRecDepth 65536 in
set_option maxHeartbeats 40000000 in
theorem comes_1 {Post : Tables → Env → Array Value → State → Outcome → State → Prop} (hpost : ∀ tb e args s v u, (limb_1_1.after args s (.returned v) u = true ∧ limb_1_2.after args s (.returned v) u = true ∧ True) → ReturnedEndW s (.returned v) u (Jvm.fieldLocs frame_1_writes args s ++ Jvm.arrayLocs frame_1_arrays args s ++ Jvm.staticLocs frame_1_statics s) 32 1152 → Post tb e args s (.returned v) u) :
    ArmFor flags0 classFile x code maxLocals ret World_1 tables_1 room_1 Calls_1 rest_1 Pre_1 Post := by
  intro l hfl _ _ p e ha hc hk s m args below hf hA hF happ hP
  obtain ⟨hcalls, hrest, hpre⟩ := hP
  obtain ⟨-, -, -, hnamed, -, -, -, hat⟩ := (Spec.applies_iff hf).mp happ
  obtain ⟨hg, hn⟩ := and_e (Cond.before_iff.mp (show (Jvm.Cond.and given_1 narrow_1).before args s = true from hpre))
  obtain ⟨gc, gr0⟩ := and_e hg
  obtain ⟨ga0, gr1⟩ := and_e gr0
  obtain ⟨ga1, gr2⟩ := and_e gr1
  obtain ⟨ga2, gr3⟩ := and_e gr2
  obtain ⟨ga3, gr4⟩ := and_e gr3
  obtain ⟨w0, w1, w2, w3, w4, rfl⟩ : ∃ w0 w1 w2 w3 w4 : Value, args = #[w0, w1, w2, w3, w4] := by
    have hs : args.size = 5 := by simpa [Cond.value, given_1] using gc
    obtain ⟨L⟩ := args
    match L, hs with
    | [w0, w1, w2, w3, w4], _ => exact ⟨w0, w1, w2, w3, w4, rfl⟩
  have hw := fun d (hd : d ∈ tables_1) => atoms_spec (ws := Jvm.Cond.code x code maxLocals ret :: tables_1) hat d (List.mem_cons_of_mem _ hd)
  have hfit : Fit s := fun {y c} hc i hi => by
    obtain ⟨ha, rfl⟩ := Array.getElem?_eq_some_iff.mp hc
    have q := List.all_eq_true.mp ((Array.all_eq_true_iff_forall_mem.mp hF) _ (Array.getElem_mem ha)) i (List.mem_range.mpr hi)
    simpa [Array.getElem?_eq_getElem hi] using q
  obtain ⟨i0, ei0⟩ := is_v ga0
  obtain rfl : w0 = (.int i0) := Option.some.inj ei0
  obtain ⟨i1, ei1⟩ := is_v ga1
  obtain rfl : w1 = (.int i1) := Option.some.inj ei1
  obtain ⟨i2, ei2⟩ := is_v ga2
  obtain rfl : w2 = (.int i2) := Option.some.inj ei2
  obtain ⟨i3, ei3⟩ := is_v ga3
  obtain rfl : w3 = (.int i3) := Option.some.inj ei3
  obtain ⟨i4, ei4⟩ := is_v gr4
  obtain rfl : w4 = (.int i4) := Option.some.inj ei4
  obtain ⟨hsets, hown0⟩ := atoms_of _ (rest_1_c_eq ▸ (show rest_1_c.before _ s = true from hrest))
  have n3 := not_v (Cond.before_iff.mp (hsets _ (List.mem_of_getElem? (i := 2) rfl)))
  obtain ⟨i7, e6⟩ := is_v (Cond.before_iff.mp (hsets _ (List.mem_of_getElem? (i := 1) rfl)))
  have S8 : Sta s s.heap "java/lang/String" "COMPACT_STRINGS" "Z" (.int i7) := Sta.start e6 (Or.inl (hsets _ (List.mem_of_getElem? (i := 0) rfl)))
  have c9 : ¬ (i7 = (0 : Int32)) := gotF (Cond.eq_ints e6 (Term.int_eval (0))) n3
  obtain ⟨n, o, h1, h2, h3, _, L, rfl, ⟨rfl, N⟩, hq⟩ := rm0 l s _ hw tables_1 i0 i1 i2 i3 i4 s.heap s.heap.size (Nat.le_refl _) (own_ext_refl _) (hcalls.1 ("java/lang/String", 7) (List.mem_of_getElem? (i := 0) rfl)) (hsets _ (List.mem_of_getElem? (i := 2) rfl)) i7 S8 c9 p e ha hc hk s m _ below hf ((Spec.applies_iff_loose hf).mp happ).1 ⟨rfl, State.Warmed39.refl s, rfl, IB.start⟩ trivial
  exact ⟨n, _, h1, h2, h3, hpost _ _ _ _ _ _ ⟨Cond.after_iff.mpr rfl, Cond.after_iff.mpr (eq_i res_at (Term.int_eval (1)) rfl), trivial⟩ ⟨hq.1, hq.2.1, hq.2.2.1, (hq.2.2.2.sift fun y hy => Or.inr (N y hy)).mono (by decide) (by decide)⟩⟩
theorem main_1_1 : Claimed_1_1 := comes_1 fun _ _ _ _ _ _ h hF => ⟨h.1, hF⟩
theorem main_1_2 : Claimed_1_2 := comes_1 fun _ _ _ _ _ _ h hF => ⟨h.2.1, hF⟩
end Jvm.Pilot.@@N@@
namespace Jvm.Pilot.@@N@@
open Jvm Jvm.ClassFile Sem Op Lib Jvm.Free Jvm.Stand Jvm.Pilot.@@N@@.Jvm.D
/-! MADE BY PROGRAM (witnessworld.py) out of the Statement's table words and the real class files: 21 classes; the members and pool entries that the words name. The judged class is class 1, her method 2. -/
namespace start1
open Jvm.ClassFile
def u (s : String) : CpInfo := .utf8 (stringToUtf16 s)
/-- a pool by its gaps: so many unusable entries, then the entry; so many at the end -/
def gap : Nat → List CpInfo → List CpInfo
  | 0, r => r
  | n + 1, r => .unusable :: gap n r
def poolList (es : List (Nat × CpInfo)) (last : Nat) : List CpInfo := es.foldr (fun e r => gap e.1 (e.2 :: r)) (gap last [])
def pool (es : List (Nat × CpInfo)) (last : Nat) : Array CpInfo := ⟨poolList es last⟩
def fileOf (pool : Array CpInfo) (this : Nat) (attrs : Array Attribute := #[]) (ms : Array MethodInfo := #[]) (fl : Nat := 33) (sup : Nat := 0) (ifs : Array Nat := #[]) (fds : Array FieldInfo := #[]) : ClassFile where
  minorVersion := 0
  majorVersion := 65
  constantPool := pool
  accessFlags := fl
  thisClass := this
  superClass := sup
  interfaces := ifs
  fields := fds
  methods := ms
  attributes := attrs
def plain (name : String) (sup : Option ClassId) : Class where
  name := name
  kind := .ordinary
  loader := none
  accessFlags := 33
  super := sup
  interfaces := #[]
  cf := none
  fields := #[]
  methods := #[]
  instanceTypes := #[]
  staticTypes := #[]
  resolved := #[]
  callSites := []
  init := .initialized
  statics := none
  mirror := none

def pool0 : Array CpInfo := pool [(5, u "<init>"), (0, u "()V"), (1, .class_ 10), (1, u "java/lang/Object")] 113

def k0c0 : Code := { maxStack := 0, maxLocals := 1, code := object_method_1_code, exceptionTable := #[], attributes := #[] }
def k0m0 : Method := { name := "<init>", desc := "()V", sig := { parameters := [], returnType := none }, accessFlags := 1, code := some k0c0 }
/-- java/lang/Object -/
def k0 : Class := { plain "java/lang/Object" none with
  accessFlags := 33
  interfaces := #[]
  cf := some (fileOf pool0 8 #[] #[{ accessFlags := 1, nameIndex := 5, descriptorIndex := 6, attributes := #[] }] 33 0 #[] #[])
  fields := #[]
  methods := #[k0m0]
  instanceTypes := #[]
  staticTypes := #[]
  resolved := Array.replicate 124 none
  statics := none }

def pool1 : Array CpInfo := pool [(2, .class_ 4), (1, u "java/lang/Object"), (0, u "<init>"), (0, u "()V"), (0, .integer 2147483647), (0, .class_ 9), (0, u "java/lang/String"), (0, .methodref 11 12), (0, .class_ 13), (0, .nameAndType 14 15), (0, u "com/example/steadyhand/steadyhand/history/RecordedExecutionEqualsPinLaw"), (0, u "chars"), (0, u "(III)[C"), (0, .methodref 8 17), (0, .nameAndType 5 18), (0, u "([C)V"), (0, .class_ 20), (0, u "com/example/steadyhand/steadyhand/history/RecordedExecution"), (0, .methodref 19 22), (0, .nameAndType 5 23), (0, u "(Ljava/lang/String;Z)V"), (0, .methodref 19 25), (0, .nameAndType 26 27), (0, u "equals"), (0, u "(Ljava/lang/Object;)Z"), (5, u "law"), (0, u "(IIIII)Z")] 2

def k1m0 : Method := { name := "<init>", desc := "()V", sig := { parameters := [], returnType := none }, accessFlags := 2, code := none }
def k1c1 : Code := { maxStack := 3, maxLocals := 4, code := method_2_code, exceptionTable := #[], attributes := #[] }
def k1m1 : Method := { name := "chars", desc := "(III)[C", sig := { parameters := [.int, .int, .int], returnType := some (.array .char) }, accessFlags := 10, code := some k1c1 }
def k1c2 : Code := { maxStack := 5, maxLocals := 22, code := code, exceptionTable := #[], attributes := #[] }
def k1m2 : Method := { name := "law", desc := "(IIIII)Z", sig := { parameters := [.int, .int, .int, .int, .int], returnType := some .boolean }, accessFlags := 9, code := some k1c2 }
/-- com/example/steadyhand/steadyhand/history/RecordedExecutionEqualsPinLaw -/
def k1 : Class := { plain "com/example/steadyhand/steadyhand/history/RecordedExecutionEqualsPinLaw" (some 0) with
  accessFlags := 49
  interfaces := #[]
  cf := some (fileOf pool1 11 #[] #[{ accessFlags := 2, nameIndex := 5, descriptorIndex := 6, attributes := #[] }, { accessFlags := 10, nameIndex := 14, descriptorIndex := 15, attributes := #[] }, { accessFlags := 9, nameIndex := 33, descriptorIndex := 34, attributes := #[] }] 49 2 #[] #[])
  fields := #[]
  methods := #[k1m0, k1m1, k1m2]
  instanceTypes := #[]
  staticTypes := #[]
  resolved := Array.replicate 37 none
  statics := none }

def pool2 : Array CpInfo := pool [(1, .class_ 2), (0, u "java/io/Serializable"), (0, .class_ 4), (0, u "java/lang/Object")] 2

/-- java/io/Serializable -/
def k2 : Class := { plain "java/io/Serializable" (some 0) with
  accessFlags := 1537
  interfaces := #[]
  cf := some (fileOf pool2 1 #[] #[] 1537 3 #[] #[])
  fields := #[]
  methods := #[]
  instanceTypes := #[]
  staticTypes := #[]
  resolved := Array.replicate 7 none
  statics := none }

def pool3 : Array CpInfo := pool [(1, .class_ 2), (0, u "java/lang/Comparable"), (0, .class_ 4), (0, u "java/lang/Object")] 7

/-- java/lang/Comparable -/
def k3 : Class := { plain "java/lang/Comparable" (some 0) with
  accessFlags := 1537
  interfaces := #[]
  cf := some (fileOf pool3 1 #[] #[] 1537 3 #[] #[])
  fields := #[]
  methods := #[]
  instanceTypes := #[]
  staticTypes := #[]
  resolved := Array.replicate 12 none
  statics := none }

def pool4 : Array CpInfo := pool [(2, .class_ 4), (1, u "java/lang/CharSequence"), (42, .class_ 48), (0, u "java/lang/CharSequence$1CodePointIterator"), (10, .class_ 60), (0, u "java/lang/CharSequence$1CharIterator"), (5, .class_ 67), (0, u "java/lang/Object")] 63

/-- java/lang/CharSequence -/
def k4 : Class := { plain "java/lang/CharSequence" (some 0) with
  accessFlags := 1537
  interfaces := #[]
  cf := some (fileOf pool4 2 #[.nestMembers #[47, 59]] #[] 1537 66 #[] #[])
  fields := #[]
  methods := #[]
  instanceTypes := #[]
  staticTypes := #[]
  resolved := Array.replicate 131 none
  statics := none }

def pool5 : Array CpInfo := pool [(1, .class_ 2), (0, u "java/lang/constant/Constable"), (0, .class_ 4), (0, u "java/lang/Object")] 6

/-- java/lang/constant/Constable -/
def k5 : Class := { plain "java/lang/constant/Constable" (some 0) with
  accessFlags := 1537
  interfaces := #[]
  cf := some (fileOf pool5 1 #[] #[] 1537 3 #[] #[])
  fields := #[]
  methods := #[]
  instanceTypes := #[]
  staticTypes := #[]
  resolved := Array.replicate 11 none
  statics := none }

def pool6 : Array CpInfo := pool [(1, .class_ 2), (0, u "java/lang/constant/ConstantDesc"), (0, .class_ 4), (0, u "java/lang/Object")] 32

/-- java/lang/constant/ConstantDesc -/
def k6 : Class := { plain "java/lang/constant/ConstantDesc" (some 0) with
  accessFlags := 1537
  interfaces := #[]
  cf := some (fileOf pool6 1 #[] #[] 1537 3 #[] #[])
  fields := #[]
  methods := #[]
  instanceTypes := #[]
  staticTypes := #[]
  resolved := Array.replicate 37 none
  statics := none }

def pool7 : Array CpInfo := pool [(1, .methodref 2 3), (0, .class_ 4), (0, .nameAndType 5 6), (0, u "java/lang/Object"), (0, u "<init>"), (0, u "()V"), (0, .string 8), (0, u ""), (0, .fieldref 10 11), (0, .class_ 12), (0, .nameAndType 13 14), (0, u "java/lang/String"), (0, u "value"), (0, u "[B"), (0, .fieldref 10 16), (0, .nameAndType 17 18), (0, u "coder"), (0, u "B"), (2, u "hash"), (0, u "I"), (2, u "hashIsZero"), (0, u "Z"), (0, .methodref 10 28), (0, .nameAndType 5 29), (0, u "([CIILjava/lang/Void;)V"), (8, .fieldref 10 39), (0, .nameAndType 40 26), (0, u "COMPACT_STRINGS"), (1, .class_ 44), (1, u "java/lang/StringUTF16"), (0, u "compress"), (1, .methodref 42 48), (0, .nameAndType 49 50), (0, u "coderFromArrayLen"), (0, u "([BI)B"), (56, .class_ 109), (1, u "java/lang/StringLatin1"), (67, .methodref 42 178), (0, .nameAndType 45 179), (0, u "([CII)[B"), (361, .methodref 107 542), (0, .nameAndType 543 544), (0, u "equals"), (0, u "([B[B)Z"), (28, u "(Ljava/lang/Object;)Z"), (1, .class_ 576), (0, u "java/lang/CharSequence"), (22, u "CASE_INSENSITIVE_ORDER"), (0, u "Ljava/util/Comparator;"), (409, u "([C)V"), (90, u "serialPersistentFields"), (0, u "[Ljava/io/ObjectStreamField;"), (0, .class_ 1104), (0, u "java/lang/String$CaseInsensitiveComparator"), (1, .class_ 1107), (0, u "java/io/Serializable"), (0, .class_ 1109), (0, u "java/lang/Comparable"), (0, .class_ 1111), (0, u "java/lang/constant/Constable"), (0, .class_ 1113), (0, u "java/lang/constant/ConstantDesc"), (2, u "serialVersionUID"), (0, u "J"), (3, u "REPL"), (0, u "C"), (2, u "LATIN1"), (1, u "UTF16")] 323

def k7m0 : Method := { name := "<init>", desc := "()V", sig := { parameters := [], returnType := none }, accessFlags := 1, code := none }
def k7c1 : Code := { maxStack := 5, maxLocals := 2, code := jdk_42_method_3_code, exceptionTable := #[], attributes := #[] }
def k7m1 : Method := { name := "<init>", desc := "([C)V", sig := { parameters := [(.array .char)], returnType := none }, accessFlags := 1, code := some k7c1 }
def k7c2 : Code := { maxStack := 2, maxLocals := 3, code := jdk_42_method_66_code, exceptionTable := #[], attributes := #[] }
def k7m2 : Method := { name := "equals", desc := "(Ljava/lang/Object;)Z", sig := { parameters := [(.object "java/lang/Object")], returnType := some .boolean }, accessFlags := 1, code := some k7c2 }
def k7c3 : Code := { maxStack := 4, maxLocals := 6, code := jdk_42_method_149_code, exceptionTable := #[], attributes := #[] }
def k7m3 : Method := { name := "<init>", desc := "([CIILjava/lang/Void;)V", sig := { parameters := [(.array .char), .int, .int, (.object "java/lang/Void")], returnType := none }, accessFlags := 2, code := some k7c3 }
/-- java/lang/String -/
def k7 : Class := { plain "java/lang/String" (some 0) with
  accessFlags := 49
  interfaces := #[2, 3, 4, 5, 6]
  cf := some (fileOf pool7 10 #[.nestMembers #[1103]] #[{ accessFlags := 1, nameIndex := 5, descriptorIndex := 6, attributes := #[] }, { accessFlags := 1, nameIndex := 5, descriptorIndex := 1010, attributes := #[] }, { accessFlags := 1, nameIndex := 543, descriptorIndex := 573, attributes := #[] }, { accessFlags := 2, nameIndex := 5, descriptorIndex := 29, attributes := #[] }] 49 2 #[1106, 1108, 575, 1110, 1112] #[{ accessFlags := 18, nameIndex := 13, descriptorIndex := 14, attributes := #[] }, { accessFlags := 18, nameIndex := 17, descriptorIndex := 18, attributes := #[] }, { accessFlags := 2, nameIndex := 21, descriptorIndex := 22, attributes := #[] }, { accessFlags := 2, nameIndex := 25, descriptorIndex := 26, attributes := #[] }, { accessFlags := 26, nameIndex := 1116, descriptorIndex := 1117, attributes := #[] }, { accessFlags := 24, nameIndex := 40, descriptorIndex := 26, attributes := #[] }, { accessFlags := 26, nameIndex := 1101, descriptorIndex := 1102, attributes := #[] }, { accessFlags := 26, nameIndex := 1121, descriptorIndex := 1122, attributes := #[] }, { accessFlags := 25, nameIndex := 599, descriptorIndex := 600, attributes := #[] }, { accessFlags := 24, nameIndex := 1125, descriptorIndex := 18, attributes := #[] }, { accessFlags := 24, nameIndex := 1127, descriptorIndex := 18, attributes := #[] }])
  fields := #[{ name := "value", type := (.array .byte), accessFlags := 18, slot := 0, constantValue := 0 }, { name := "coder", type := .byte, accessFlags := 18, slot := 1, constantValue := 0 }, { name := "hash", type := .int, accessFlags := 2, slot := 2, constantValue := 0 }, { name := "hashIsZero", type := .boolean, accessFlags := 2, slot := 3, constantValue := 0 }, { name := "serialVersionUID", type := .long, accessFlags := 26, slot := 0, constantValue := 0 }, { name := "COMPACT_STRINGS", type := .boolean, accessFlags := 24, slot := 1, constantValue := 0 }, { name := "serialPersistentFields", type := (.array (.object "java/io/ObjectStreamField")), accessFlags := 26, slot := 2, constantValue := 0 }, { name := "REPL", type := .char, accessFlags := 26, slot := 3, constantValue := 0 }, { name := "CASE_INSENSITIVE_ORDER", type := (.object "java/util/Comparator"), accessFlags := 25, slot := 4, constantValue := 0 }, { name := "LATIN1", type := .byte, accessFlags := 24, slot := 5, constantValue := 0 }, { name := "UTF16", type := .byte, accessFlags := 24, slot := 6, constantValue := 0 }]
  methods := #[k7m0, k7m1, k7m2, k7m3]
  instanceTypes := #[(.array .byte), .byte, .int, .boolean]
  staticTypes := #[.long, .boolean, (.array (.object "java/io/ObjectStreamField")), .char, (.object "java/util/Comparator"), .byte, .byte]
  resolved := Array.replicate 1451 none
  statics := some 0 }

def pool8 : Array CpInfo := pool [(1, .methodref 2 3), (0, .class_ 4), (0, .nameAndType 5 6), (0, u "java/lang/Object"), (0, u "<init>"), (0, u "()V"), (0, .methodref 8 9), (0, .class_ 10), (0, .nameAndType 11 12), (0, u "java/util/Objects"), (0, u "requireNonNull"), (0, u "(Ljava/lang/Object;)Ljava/lang/Object;"), (0, .class_ 14), (0, u "java/lang/String"), (0, .fieldref 16 17), (0, .class_ 18), (0, .nameAndType 19 20), (0, u "com/example/steadyhand/steadyhand/history/RecordedExecution"), (0, u "key"), (0, u "Ljava/lang/String;"), (0, .fieldref 16 22), (0, .nameAndType 23 24), (0, u "passed"), (0, u "Z"), (0, .methodref 13 26), (0, .nameAndType 27 28), (0, u "equals"), (0, u "(Ljava/lang/Object;)Z"), (18, u "(Ljava/lang/String;Z)V")] 27

def k8c0 : Code := { maxStack := 2, maxLocals := 3, code := prog_18_method_1_code, exceptionTable := #[], attributes := #[] }
def k8m0 : Method := { name := "<init>", desc := "(Ljava/lang/String;Z)V", sig := { parameters := [(.object "java/lang/String"), .boolean], returnType := none }, accessFlags := 1, code := some k8c0 }
def k8c1 : Code := { maxStack := 2, maxLocals := 3, code := prog_18_method_4_code, exceptionTable := #[], attributes := #[] }
def k8m1 : Method := { name := "equals", desc := "(Ljava/lang/Object;)Z", sig := { parameters := [(.object "java/lang/Object")], returnType := some .boolean }, accessFlags := 1, code := some k8c1 }
/-- com/example/steadyhand/steadyhand/history/RecordedExecution -/
def k8 : Class := { plain "com/example/steadyhand/steadyhand/history/RecordedExecution" (some 0) with
  accessFlags := 49
  interfaces := #[]
  cf := some (fileOf pool8 16 #[] #[{ accessFlags := 1, nameIndex := 5, descriptorIndex := 47, attributes := #[] }, { accessFlags := 1, nameIndex := 27, descriptorIndex := 28, attributes := #[] }] 49 2 #[] #[{ accessFlags := 18, nameIndex := 19, descriptorIndex := 20, attributes := #[] }, { accessFlags := 18, nameIndex := 23, descriptorIndex := 24, attributes := #[] }])
  fields := #[{ name := "key", type := (.object "java/lang/String"), accessFlags := 18, slot := 0, constantValue := 0 }, { name := "passed", type := .boolean, accessFlags := 18, slot := 1, constantValue := 0 }]
  methods := #[k8m0, k8m1]
  instanceTypes := #[(.object "java/lang/String"), .boolean]
  staticTypes := #[]
  resolved := Array.replicate 75 none
  statics := none }

def pool9 : Array CpInfo := pool [(2, .class_ 4), (1, u "java/lang/Object"), (0, u "<init>"), (0, u "()V"), (35, .class_ 44), (1, u "java/util/Objects"), (0, u "requireNonNull"), (0, u "(Ljava/lang/Object;)Ljava/lang/Object;")] 137

def k9m0 : Method := { name := "<init>", desc := "()V", sig := { parameters := [], returnType := none }, accessFlags := 2, code := none }
def k9c1 : Code := { maxStack := 2, maxLocals := 1, code := jdk_31_method_10_code, exceptionTable := #[], attributes := #[] }
def k9m1 : Method := { name := "requireNonNull", desc := "(Ljava/lang/Object;)Ljava/lang/Object;", sig := { parameters := [(.object "java/lang/Object")], returnType := some (.object "java/lang/Object") }, accessFlags := 9, code := some k9c1 }
/-- java/util/Objects -/
def k9 : Class := { plain "java/util/Objects" (some 0) with
  accessFlags := 49
  interfaces := #[]
  cf := some (fileOf pool9 42 #[] #[{ accessFlags := 2, nameIndex := 5, descriptorIndex := 6, attributes := #[] }, { accessFlags := 9, nameIndex := 45, descriptorIndex := 46, attributes := #[] }] 49 2 #[] #[])
  fields := #[]
  methods := #[k9m0, k9m1]
  instanceTypes := #[]
  staticTypes := #[]
  resolved := Array.replicate 184 none
  statics := none }

def pool10 : Array CpInfo := pool [(4, .class_ 6), (1, u "java/lang/Object"), (0, u "<init>"), (0, u "()V"), (5, .class_ 16), (1, u "java/lang/StringLatin1"), (104, u "$assertionsDisabled"), (0, u "Z"), (98, .class_ 223), (1, u "java/lang/StringLatin1$LinesSpliterator"), (57, u "equals"), (0, u "([B[B)Z"), (107, .class_ 391), (0, u "java/lang/StringLatin1$CharsSpliterator")] 3

def k10m0 : Method := { name := "<init>", desc := "()V", sig := { parameters := [], returnType := none }, accessFlags := 0, code := none }
def k10c1 : Code := { maxStack := 3, maxLocals := 3, code := jdk_43_method_13_code, exceptionTable := #[], attributes := #[] }
def k10m1 : Method := { name := "equals", desc := "([B[B)Z", sig := { parameters := [(.array .byte), (.array .byte)], returnType := some .boolean }, accessFlags := 9, code := some k10c1 }
/-- java/lang/StringLatin1 -/
def k10 : Class := { plain "java/lang/StringLatin1" (some 0) with
  accessFlags := 48
  interfaces := #[]
  cf := some (fileOf pool10 14 #[.nestMembers #[390, 221]] #[{ accessFlags := 0, nameIndex := 7, descriptorIndex := 8, attributes := #[] }, { accessFlags := 9, nameIndex := 281, descriptorIndex := 282, attributes := #[] }] 48 4 #[] #[{ accessFlags := 4120, nameIndex := 121, descriptorIndex := 122, attributes := #[] }])
  fields := #[{ name := "$assertionsDisabled", type := .boolean, accessFlags := 4120, slot := 0, constantValue := 0 }]
  methods := #[k10m0, k10m1]
  instanceTypes := #[]
  staticTypes := #[.boolean]
  resolved := Array.replicate 395 none
  statics := none }

def pool11 : Array CpInfo := pool [(6, .class_ 8), (1, u "java/lang/Object"), (0, u "<init>"), (0, u "()V"), (1, .class_ 14), (1, u "java/lang/StringUTF16"), (31, u "$assertionsDisabled"), (0, u "Z"), (13, u "HI_BYTE_SHIFT"), (0, u "I"), (2, u "LO_BYTE_SHIFT"), (49, .methodref 12 116), (0, .nameAndType 117 118), (0, u "compress"), (0, u "([CI[BII)I"), (3, u "([CII)[B"), (138, u "coderFromArrayLen"), (0, u "([BI)B"), (106, .class_ 371), (1, u "java/lang/StringUTF16$LinesSpliterator"), (58, u "MAX_LENGTH"), (196, .class_ 628), (0, u "java/lang/StringUTF16$CodePointsSpliterator"), (0, .class_ 630), (0, u "java/lang/StringUTF16$CharsSpliterator")] 4

def k11m0 : Method := { name := "<init>", desc := "()V", sig := { parameters := [], returnType := none }, accessFlags := 0, code := none }
def k11c1 : Code := { maxStack := 2, maxLocals := 2, code := jdk_52_method_15_code, exceptionTable := #[], attributes := #[] }
def k11m1 : Method := { name := "coderFromArrayLen", desc := "([BI)B", sig := { parameters := [(.array .byte), .int], returnType := some .byte }, accessFlags := 8, code := some k11c1 }
def k11c2 : Code := { maxStack := 5, maxLocals := 6, code := jdk_52_method_16_code, exceptionTable := #[], attributes := #[] }
def k11m2 : Method := { name := "compress", desc := "([CII)[B", sig := { parameters := [(.array .char), .int, .int], returnType := some (.array .byte) }, accessFlags := 9, code := some k11c2 }
def k11c3 : Code := { maxStack := 3, maxLocals := 7, code := jdk_52_method_21_code, exceptionTable := #[], attributes := #[] }
def k11m3 : Method := { name := "compress", desc := "([CI[BII)I", sig := { parameters := [(.array .char), .int, (.array .byte), .int, .int], returnType := some .int }, accessFlags := 9, code := some k11c3 }
/-- java/lang/StringUTF16 -/
def k11 : Class := { plain "java/lang/StringUTF16" (some 0) with
  accessFlags := 48
  interfaces := #[]
  cf := some (fileOf pool11 12 #[.nestMembers #[627, 629, 369]] #[{ accessFlags := 0, nameIndex := 9, descriptorIndex := 10, attributes := #[] }, { accessFlags := 8, nameIndex := 261, descriptorIndex := 262, attributes := #[] }, { accessFlags := 9, nameIndex := 117, descriptorIndex := 122, attributes := #[] }, { accessFlags := 9, nameIndex := 117, descriptorIndex := 118, attributes := #[] }] 48 6 #[] #[{ accessFlags := 26, nameIndex := 61, descriptorIndex := 62, attributes := #[] }, { accessFlags := 26, nameIndex := 65, descriptorIndex := 62, attributes := #[] }, { accessFlags := 24, nameIndex := 430, descriptorIndex := 62, attributes := #[] }, { accessFlags := 4120, nameIndex := 46, descriptorIndex := 47, attributes := #[] }])
  fields := #[{ name := "HI_BYTE_SHIFT", type := .int, accessFlags := 26, slot := 0, constantValue := 0 }, { name := "LO_BYTE_SHIFT", type := .int, accessFlags := 26, slot := 1, constantValue := 0 }, { name := "MAX_LENGTH", type := .int, accessFlags := 24, slot := 2, constantValue := 0 }, { name := "$assertionsDisabled", type := .boolean, accessFlags := 4120, slot := 3, constantValue := 0 }]
  methods := #[k11m0, k11m1, k11m2, k11m3]
  instanceTypes := #[]
  staticTypes := #[.int, .int, .int, .boolean]
  resolved := Array.replicate 635 none
  statics := none }

def pool12 : Array CpInfo := pool [(2, .class_ 4), (1, u "java/lang/Object"), (0, u "<init>"), (0, u "()V"), (17, .class_ 26), (1, u "jdk/internal/util/Preconditions"), (28, .class_ 56), (0, u "jdk/internal/util/Preconditions$4"), (57, .class_ 115), (0, u "jdk/internal/util/Preconditions$1"), (7, u "SIOOBE_FORMATTER"), (0, u "Ljava/util/function/BiFunction;"), (0, .class_ 126), (0, u "jdk/internal/util/Preconditions$2"), (3, u "AIOOBE_FORMATTER"), (0, .class_ 132), (0, u "jdk/internal/util/Preconditions$3"), (3, u "IOOBE_FORMATTER")] 57

def k12m0 : Method := { name := "<init>", desc := "()V", sig := { parameters := [], returnType := none }, accessFlags := 1, code := none }
/-- jdk/internal/util/Preconditions -/
def k12 : Class := { plain "jdk/internal/util/Preconditions" (some 0) with
  accessFlags := 33
  interfaces := #[]
  cf := some (fileOf pool12 24 #[.nestMembers #[55, 131, 125, 114]] #[{ accessFlags := 1, nameIndex := 5, descriptorIndex := 6, attributes := #[] }] 33 2 #[] #[{ accessFlags := 25, nameIndex := 123, descriptorIndex := 124, attributes := #[] }, { accessFlags := 25, nameIndex := 130, descriptorIndex := 124, attributes := #[] }, { accessFlags := 25, nameIndex := 136, descriptorIndex := 124, attributes := #[] }])
  fields := #[{ name := "SIOOBE_FORMATTER", type := (.object "java/util/function/BiFunction"), accessFlags := 25, slot := 0, constantValue := 0 }, { name := "AIOOBE_FORMATTER", type := (.object "java/util/function/BiFunction"), accessFlags := 25, slot := 1, constantValue := 0 }, { name := "IOOBE_FORMATTER", type := (.object "java/util/function/BiFunction"), accessFlags := 25, slot := 2, constantValue := 0 }]
  methods := #[k12m0]
  instanceTypes := #[]
  staticTypes := #[(.object "java/util/function/BiFunction"), (.object "java/util/function/BiFunction"), (.object "java/util/function/BiFunction")]
  resolved := Array.replicate 194 none
  statics := some 1 }

def pool13 : Array CpInfo := pool [(9, u "<init>"), (6, .class_ 18), (1, u "java/lang/Object"), (0, u "()V"), (1, .class_ 23), (1, u "jdk/internal/util/ArraysSupport"), (0, u "LOG2_ARRAY_LONG_INDEX_SCALE"), (0, u "I"), (2, u "U"), (0, u "Ljdk/internal/misc/Unsafe;"), (8, u "BIG_ENDIAN"), (0, u "Z"), (8, u "LOG2_BYTE_BIT_SIZE"), (4, u "LOG2_ARRAY_INT_INDEX_SCALE"), (54, u "JLA"), (0, u "Ljdk/internal/access/JavaLangAccess;"), (11, u "LOG2_ARRAY_BOOLEAN_INDEX_SCALE"), (9, u "LOG2_ARRAY_BYTE_INDEX_SCALE"), (5, u "LOG2_ARRAY_CHAR_INDEX_SCALE"), (5, u "LOG2_ARRAY_SHORT_INDEX_SCALE"), (18, u "LOG2_ARRAY_FLOAT_INDEX_SCALE"), (24, u "LOG2_ARRAY_DOUBLE_INDEX_SCALE"), (89, u "T_BOOLEAN"), (2, u "T_CHAR"), (1, u "T_FLOAT"), (1, u "T_DOUBLE"), (1, u "T_BYTE"), (1, u "T_SHORT"), (1, u "T_INT"), (1, u "T_LONG"), (1, u "SOFT_MAX_ARRAY_LENGTH")] 83

def k13m0 : Method := { name := "<init>", desc := "()V", sig := { parameters := [], returnType := none }, accessFlags := 2, code := none }
/-- jdk/internal/util/ArraysSupport -/
def k13 : Class := { plain "jdk/internal/util/ArraysSupport" (some 0) with
  accessFlags := 33
  interfaces := #[]
  cf := some (fileOf pool13 21 #[] #[{ accessFlags := 2, nameIndex := 9, descriptorIndex := 19, attributes := #[] }] 33 16 #[] #[{ accessFlags := 24, nameIndex := 28, descriptorIndex := 29, attributes := #[] }, { accessFlags := 26, nameIndex := 38, descriptorIndex := 39, attributes := #[] }, { accessFlags := 25, nameIndex := 121, descriptorIndex := 25, attributes := #[] }, { accessFlags := 25, nameIndex := 131, descriptorIndex := 25, attributes := #[] }, { accessFlags := 25, nameIndex := 137, descriptorIndex := 25, attributes := #[] }, { accessFlags := 25, nameIndex := 143, descriptorIndex := 25, attributes := #[] }, { accessFlags := 25, nameIndex := 53, descriptorIndex := 25, attributes := #[] }, { accessFlags := 25, nameIndex := 24, descriptorIndex := 25, attributes := #[] }, { accessFlags := 25, nameIndex := 162, descriptorIndex := 25, attributes := #[] }, { accessFlags := 25, nameIndex := 187, descriptorIndex := 25, attributes := #[] }, { accessFlags := 26, nameIndex := 48, descriptorIndex := 25, attributes := #[] }, { accessFlags := 25, nameIndex := 277, descriptorIndex := 25, attributes := #[] }, { accessFlags := 25, nameIndex := 280, descriptorIndex := 25, attributes := #[] }, { accessFlags := 25, nameIndex := 282, descriptorIndex := 25, attributes := #[] }, { accessFlags := 25, nameIndex := 284, descriptorIndex := 25, attributes := #[] }, { accessFlags := 25, nameIndex := 286, descriptorIndex := 25, attributes := #[] }, { accessFlags := 25, nameIndex := 288, descriptorIndex := 25, attributes := #[] }, { accessFlags := 25, nameIndex := 290, descriptorIndex := 25, attributes := #[] }, { accessFlags := 25, nameIndex := 292, descriptorIndex := 25, attributes := #[] }, { accessFlags := 26, nameIndex := 108, descriptorIndex := 109, attributes := #[] }, { accessFlags := 25, nameIndex := 294, descriptorIndex := 25, attributes := #[] }])
  fields := #[{ name := "U", type := (.object "jdk/internal/misc/Unsafe"), accessFlags := 24, slot := 0, constantValue := 0 }, { name := "BIG_ENDIAN", type := .boolean, accessFlags := 26, slot := 1, constantValue := 0 }, { name := "LOG2_ARRAY_BOOLEAN_INDEX_SCALE", type := .int, accessFlags := 25, slot := 2, constantValue := 0 }, { name := "LOG2_ARRAY_BYTE_INDEX_SCALE", type := .int, accessFlags := 25, slot := 3, constantValue := 0 }, { name := "LOG2_ARRAY_CHAR_INDEX_SCALE", type := .int, accessFlags := 25, slot := 4, constantValue := 0 }, { name := "LOG2_ARRAY_SHORT_INDEX_SCALE", type := .int, accessFlags := 25, slot := 5, constantValue := 0 }, { name := "LOG2_ARRAY_INT_INDEX_SCALE", type := .int, accessFlags := 25, slot := 6, constantValue := 0 }, { name := "LOG2_ARRAY_LONG_INDEX_SCALE", type := .int, accessFlags := 25, slot := 7, constantValue := 0 }, { name := "LOG2_ARRAY_FLOAT_INDEX_SCALE", type := .int, accessFlags := 25, slot := 8, constantValue := 0 }, { name := "LOG2_ARRAY_DOUBLE_INDEX_SCALE", type := .int, accessFlags := 25, slot := 9, constantValue := 0 }, { name := "LOG2_BYTE_BIT_SIZE", type := .int, accessFlags := 26, slot := 10, constantValue := 0 }, { name := "T_BOOLEAN", type := .int, accessFlags := 25, slot := 11, constantValue := 0 }, { name := "T_CHAR", type := .int, accessFlags := 25, slot := 12, constantValue := 0 }, { name := "T_FLOAT", type := .int, accessFlags := 25, slot := 13, constantValue := 0 }, { name := "T_DOUBLE", type := .int, accessFlags := 25, slot := 14, constantValue := 0 }, { name := "T_BYTE", type := .int, accessFlags := 25, slot := 15, constantValue := 0 }, { name := "T_SHORT", type := .int, accessFlags := 25, slot := 16, constantValue := 0 }, { name := "T_INT", type := .int, accessFlags := 25, slot := 17, constantValue := 0 }, { name := "T_LONG", type := .int, accessFlags := 25, slot := 18, constantValue := 0 }, { name := "JLA", type := (.object "jdk/internal/access/JavaLangAccess"), accessFlags := 26, slot := 19, constantValue := 0 }, { name := "SOFT_MAX_ARRAY_LENGTH", type := .int, accessFlags := 25, slot := 20, constantValue := 0 }]
  methods := #[k13m0]
  instanceTypes := #[]
  staticTypes := #[(.object "jdk/internal/misc/Unsafe"), .boolean, .int, .int, .int, .int, .int, .int, .int, .int, .int, .int, .int, .int, .int, .int, .int, .int, .int, (.object "jdk/internal/access/JavaLangAccess"), .int]
  resolved := Array.replicate 378 none
  statics := none }

def pool14 : Array CpInfo := pool [(1, u "java/lang/Cloneable"), (0, .class_ 1), (0, u "java/lang/Object"), (0, .class_ 3)] 3

/-- java/lang/Cloneable -/
def k14 : Class := { plain "java/lang/Cloneable" (some 0) with
  accessFlags := 1537
  interfaces := #[]
  cf := some (fileOf pool14 2 #[] #[] 1537 4 #[] #[])
  fields := #[]
  methods := #[]
  instanceTypes := #[]
  staticTypes := #[]
  resolved := Array.replicate 8 none
  statics := none }

/-- the primitive byte -/
def k15 : Class := { plain "byte" none with kind := .primitive 'B', accessFlags := 0x411 }
/-- [B -/
def k16 : Class := { plain "[B" (some 0) with kind := .array 15 .byte, interfaces := #[14, 2], accessFlags := 1041 }

/-- the primitive char -/
def k17 : Class := { plain "char" none with kind := .primitive 'C', accessFlags := 0x411 }
/-- [C -/
def k18 : Class := { plain "[C" (some 0) with kind := .array 17 .char, interfaces := #[14, 2], accessFlags := 1041 }

/-- the primitive int -/
def k19 : Class := { plain "int" none with kind := .primitive 'I', accessFlags := 0x411 }
/-- [I -/
def k20 : Class := { plain "[I" (some 0) with kind := .array 19 .int, interfaces := #[14, 2], accessFlags := 1041 }

def heap : Heap := #[{ cls := 7, slots := #[.long 0, .int 1, .null, .int 0, .null, .int 0, .int 0], vm := .statics 7 },
  { cls := 12, slots := #[.null, .null, .null], vm := .statics 12 }]
def classes : Array Class := #[k0, k1, k2, k3, k4, k5, k6, k7, k8, k9, k10, k11, k12, k13, k14, k15, k16, k17, k18, k19, k20]
def interned : List (Array UInt16 × Addr) := []
def slotsUsed : Nat := 10
def theMethod : MethodId := ⟨1, 2⟩
def args0 : Array Value := #[.int 1, .int 7, .int 3, .int 1, .int 1]
def aboutOver (below : List Frame) : State where
  vm := { classes := classes, interned := interned.toArray }
  heap := heap
  slotsUsed := slotsUsed
  threads := #[{ frames := .invoking theMethod args0 :: below }]
def below0 : List Frame := [.native { method := ⟨0, 0⟩, args := #[] }]
def about1 : State := aboutOver below0
def p0 : Program := .bare "" "" ""
def e0 : Env := launch0.env 0 0 0
theorem w_frames : about1.frames = Frame.invoking theMethod args0 :: below0 := rfl
set_option maxRecDepth 65536 in
theorem w_args : argsFit about1.vm theMethod args0 = true := by decide +kernel
set_option maxRecDepth 65536 in
theorem w_heap : heapFits about1 = true := by decide +kernel
set_option maxRecDepth 65536 in
theorem w_runnable : about1.curStatus? = some .runnable := by decide +kernel
set_option maxRecDepth 65536 in
theorem w_alone : about1.alone = true := by decide +kernel
set_option maxRecDepth 65536 in
theorem w_named : about1.methodNamed? x = some theMethod := by decide +kernel
set_option maxRecDepth 65536 in
theorem w_hears : about1.hears theMethod below0 = true := by decide +kernel
set_option maxRecDepth 65536 in
theorem w_ripe : about1.ripe theMethod args0 below0 = true := by decide +kernel
theorem w_running : about1.status = .running := rfl
set_option maxRecDepth 65536 in
theorem w_room : about1.hasRoom e0.platform room_1 = true :=
  launch0.hasRoom_least _ room_1 (by decide +kernel) (by decide +kernel) (by decide +kernel) (by decide +kernel) (by decide +kernel) (by decide +kernel)
theorem allAtoms_all (ts : List Jvm.Cond) (a : Array Jvm.Value) (st : Jvm.State) : (allAtoms ts).before a st = ts.all (fun c => c.before a st) := by
  induction ts with
  | nil => rfl
  | cons c t ih =>
    show (Jvm.Cond.and c (allAtoms t)).before a st = _
    rw [Jvm.Cond.before_and, ih, List.all_cons]
def words1 : List Jvm.Cond := Jvm.Cond.code x code maxLocals ret :: tables_1
/-- a 'code' word, met by the world's own term for the bytes: nothing is compared byte by byte -/
theorem code_word {y : MethodName} {bytes : ByteArray} {mx : Nat} {rt : Option FieldType} {a : Array Value} {s : State} {m : MethodId} {meth : Method} {c : Code} (h1 : s.methodNamed? y = some m) (h2 : s.vm.method? m = some meth) (h3 : meth.code = some c) (h4 : c.code = bytes)
    (h5 : (c.maxLocals == mx && c.exceptionTable.isEmpty && decide (c.maxStack ≤ mostOperands) && decide (meth.sig.returnType = rt) && !meth.locks && decide (parseMethodDescriptor y.desc = some meth.sig)) = true) : (Jvm.Cond.code y bytes mx rt).before a s = true := by
  simp only [Bool.and_eq_true, beq_iff_eq, Bool.not_eq_true', decide_eq_true_eq] at h5
  obtain ⟨⟨⟨⟨⟨g1, g2⟩, g3⟩, g4⟩, g5⟩, g6⟩ := h5
  simp [Cond.before, Cond.holds, Cond.value, h1, h2, h3, h4, g1, g2, g3, g4, g5, g6]
def isCode : Jvm.Cond → Bool
  | .code _ _ _ _ => true
  | _ => false
theorem all_split {L : List Jvm.Cond} {P : Jvm.Cond → Bool} (h1 : L.all (fun c => isCode c || P c) = true) (h2 : ∀ c ∈ L.filter isCode, P c = true) : L.all P = true := by
  refine List.all_eq_true.mpr fun c hc => ?_
  have h := List.all_eq_true.mp h1 c hc
  rcases Bool.eq_false_or_eq_true (isCode c) with hi | hi
  · exact h2 c (List.mem_filter.mpr ⟨hc, hi⟩)
  · simpa [hi] using h
set_option maxRecDepth 65536 in
theorem w_c0 : (Jvm.Cond.code x code maxLocals ret).before args0 about1 = true := code_word (m := ⟨1, 2⟩) (meth := k1m2) (c := k1c2) (by decide +kernel) rfl rfl rfl (by decide +kernel)
set_option maxRecDepth 65536 in
theorem w_c1 : (Jvm.Cond.code ({ cls := "com/example/steadyhand/steadyhand/history/RecordedExecutionEqualsPinLaw", name := "chars", desc := "(III)[C" } : Jvm.MethodName) method_2_code (4 : Nat) (Option.some (Jvm.ClassFile.FieldType.array Jvm.ClassFile.FieldType.char))).before args0 about1 = true := code_word (m := ⟨1, 1⟩) (meth := k1m1) (c := k1c1) (by decide +kernel) rfl rfl rfl (by decide +kernel)
set_option maxRecDepth 65536 in
theorem w_c2 : (Jvm.Cond.code ({ cls := "java/lang/String", name := "<init>", desc := "([C)V" } : Jvm.MethodName) jdk_42_method_3_code (2 : Nat) (Option.none : Option Jvm.ClassFile.FieldType)).before args0 about1 = true := code_word (m := ⟨7, 1⟩) (meth := k7m1) (c := k7c1) (by decide +kernel) rfl rfl rfl (by decide +kernel)
set_option maxRecDepth 65536 in
theorem w_c3 : (Jvm.Cond.code ({ cls := "java/lang/String", name := "<init>", desc := "([CIILjava/lang/Void;)V" } : Jvm.MethodName) jdk_42_method_149_code (6 : Nat) (Option.none : Option Jvm.ClassFile.FieldType)).before args0 about1 = true := code_word (m := ⟨7, 3⟩) (meth := k7m3) (c := k7c3) (by decide +kernel) rfl rfl rfl (by decide +kernel)
set_option maxRecDepth 65536 in
theorem w_c4 : (Jvm.Cond.code ({ cls := "java/lang/Object", name := "<init>", desc := "()V" } : Jvm.MethodName) object_method_1_code (1 : Nat) (Option.none : Option Jvm.ClassFile.FieldType)).before args0 about1 = true := code_word (m := ⟨0, 0⟩) (meth := k0m0) (c := k0c0) (by decide +kernel) rfl rfl rfl (by decide +kernel)
set_option maxRecDepth 65536 in
theorem w_c5 : (Jvm.Cond.code ({ cls := "com/example/steadyhand/steadyhand/history/RecordedExecution", name := "<init>", desc := "(Ljava/lang/String;Z)V" } : Jvm.MethodName) prog_18_method_1_code (3 : Nat) (Option.none : Option Jvm.ClassFile.FieldType)).before args0 about1 = true := code_word (m := ⟨8, 0⟩) (meth := k8m0) (c := k8c0) (by decide +kernel) rfl rfl rfl (by decide +kernel)
set_option maxRecDepth 65536 in
theorem w_c6 : (Jvm.Cond.code ({ cls := "java/util/Objects", name := "requireNonNull", desc := "(Ljava/lang/Object;)Ljava/lang/Object;" } : Jvm.MethodName) jdk_31_method_10_code (1 : Nat) (Option.some (Jvm.ClassFile.FieldType.object "java/lang/Object"))).before args0 about1 = true := code_word (m := ⟨9, 1⟩) (meth := k9m1) (c := k9c1) (by decide +kernel) rfl rfl rfl (by decide +kernel)
set_option maxRecDepth 65536 in
theorem w_c7 : (Jvm.Cond.code ({ cls := "com/example/steadyhand/steadyhand/history/RecordedExecution", name := "equals", desc := "(Ljava/lang/Object;)Z" } : Jvm.MethodName) prog_18_method_4_code (3 : Nat) (Option.some Jvm.ClassFile.FieldType.boolean)).before args0 about1 = true := code_word (m := ⟨8, 1⟩) (meth := k8m1) (c := k8c1) (by decide +kernel) rfl rfl rfl (by decide +kernel)
set_option maxRecDepth 65536 in
theorem w_c8 : (Jvm.Cond.code ({ cls := "java/lang/String", name := "equals", desc := "(Ljava/lang/Object;)Z" } : Jvm.MethodName) jdk_42_method_66_code (3 : Nat) (Option.some Jvm.ClassFile.FieldType.boolean)).before args0 about1 = true := code_word (m := ⟨7, 2⟩) (meth := k7m2) (c := k7c2) (by decide +kernel) rfl rfl rfl (by decide +kernel)
set_option maxRecDepth 65536 in
theorem w_c9 : (Jvm.Cond.code ({ cls := "java/lang/StringLatin1", name := "equals", desc := "([B[B)Z" } : Jvm.MethodName) jdk_43_method_13_code (3 : Nat) (Option.some Jvm.ClassFile.FieldType.boolean)).before args0 about1 = true := code_word (m := ⟨10, 1⟩) (meth := k10m1) (c := k10c1) (by decide +kernel) rfl rfl rfl (by decide +kernel)
set_option maxRecDepth 65536 in
theorem w_c10 : (Jvm.Cond.code ({ cls := "java/lang/StringUTF16", name := "compress", desc := "([CII)[B" } : Jvm.MethodName) jdk_52_method_16_code (6 : Nat) (Option.some (Jvm.ClassFile.FieldType.array Jvm.ClassFile.FieldType.byte))).before args0 about1 = true := code_word (m := ⟨11, 2⟩) (meth := k11m2) (c := k11c2) (by decide +kernel) rfl rfl rfl (by decide +kernel)
set_option maxRecDepth 65536 in
theorem w_c11 : (Jvm.Cond.code ({ cls := "java/lang/StringUTF16", name := "compress", desc := "([CI[BII)I" } : Jvm.MethodName) jdk_52_method_21_code (7 : Nat) (Option.some Jvm.ClassFile.FieldType.int)).before args0 about1 = true := code_word (m := ⟨11, 3⟩) (meth := k11m3) (c := k11c3) (by decide +kernel) rfl rfl rfl (by decide +kernel)
set_option maxRecDepth 65536 in
theorem w_c12 : (Jvm.Cond.code ({ cls := "java/lang/StringUTF16", name := "coderFromArrayLen", desc := "([BI)B" } : Jvm.MethodName) jdk_52_method_15_code (2 : Nat) (Option.some Jvm.ClassFile.FieldType.byte)).before args0 about1 = true := code_word (m := ⟨11, 1⟩) (meth := k11m1) (c := k11c1) (by decide +kernel) rfl rfl rfl (by decide +kernel)
def codes1 : List Jvm.Cond := [Jvm.Cond.code x code maxLocals ret, Jvm.Cond.code ({ cls := "com/example/steadyhand/steadyhand/history/RecordedExecutionEqualsPinLaw", name := "chars", desc := "(III)[C" } : Jvm.MethodName) method_2_code (4 : Nat) (Option.some (Jvm.ClassFile.FieldType.array Jvm.ClassFile.FieldType.char)), Jvm.Cond.code ({ cls := "java/lang/String", name := "<init>", desc := "([C)V" } : Jvm.MethodName) jdk_42_method_3_code (2 : Nat) (Option.none : Option Jvm.ClassFile.FieldType), Jvm.Cond.code ({ cls := "java/lang/String", name := "<init>", desc := "([CIILjava/lang/Void;)V" } : Jvm.MethodName) jdk_42_method_149_code (6 : Nat) (Option.none : Option Jvm.ClassFile.FieldType), Jvm.Cond.code ({ cls := "java/lang/Object", name := "<init>", desc := "()V" } : Jvm.MethodName) object_method_1_code (1 : Nat) (Option.none : Option Jvm.ClassFile.FieldType), Jvm.Cond.code ({ cls := "com/example/steadyhand/steadyhand/history/RecordedExecution", name := "<init>", desc := "(Ljava/lang/String;Z)V" } : Jvm.MethodName) prog_18_method_1_code (3 : Nat) (Option.none : Option Jvm.ClassFile.FieldType), Jvm.Cond.code ({ cls := "java/util/Objects", name := "requireNonNull", desc := "(Ljava/lang/Object;)Ljava/lang/Object;" } : Jvm.MethodName) jdk_31_method_10_code (1 : Nat) (Option.some (Jvm.ClassFile.FieldType.object "java/lang/Object")), Jvm.Cond.code ({ cls := "com/example/steadyhand/steadyhand/history/RecordedExecution", name := "equals", desc := "(Ljava/lang/Object;)Z" } : Jvm.MethodName) prog_18_method_4_code (3 : Nat) (Option.some Jvm.ClassFile.FieldType.boolean), Jvm.Cond.code ({ cls := "java/lang/String", name := "equals", desc := "(Ljava/lang/Object;)Z" } : Jvm.MethodName) jdk_42_method_66_code (3 : Nat) (Option.some Jvm.ClassFile.FieldType.boolean), Jvm.Cond.code ({ cls := "java/lang/StringLatin1", name := "equals", desc := "([B[B)Z" } : Jvm.MethodName) jdk_43_method_13_code (3 : Nat) (Option.some Jvm.ClassFile.FieldType.boolean), Jvm.Cond.code ({ cls := "java/lang/StringUTF16", name := "compress", desc := "([CII)[B" } : Jvm.MethodName) jdk_52_method_16_code (6 : Nat) (Option.some (Jvm.ClassFile.FieldType.array Jvm.ClassFile.FieldType.byte)), Jvm.Cond.code ({ cls := "java/lang/StringUTF16", name := "compress", desc := "([CI[BII)I" } : Jvm.MethodName) jdk_52_method_21_code (7 : Nat) (Option.some Jvm.ClassFile.FieldType.int), Jvm.Cond.code ({ cls := "java/lang/StringUTF16", name := "coderFromArrayLen", desc := "([BI)B" } : Jvm.MethodName) jdk_52_method_15_code (2 : Nat) (Option.some Jvm.ClassFile.FieldType.byte)]
set_option maxRecDepth 65536 in
theorem codes_eq : words1.filter isCode = codes1 := rfl
theorem w_codes : ∀ c ∈ words1.filter isCode, c.before args0 about1 = true := by
  rw [codes_eq]
  intro c hc
  simp only [codes1, List.mem_cons, List.not_mem_nil, or_false] at hc
  rcases hc with rfl | rfl | rfl | rfl | rfl | rfl | rfl | rfl | rfl | rfl | rfl | rfl | rfl
  · exact w_c0
  · exact w_c1
  · exact w_c2
  · exact w_c3
  · exact w_c4
  · exact w_c5
  · exact w_c6
  · exact w_c7
  · exact w_c8
  · exact w_c9
  · exact w_c10
  · exact w_c11
  · exact w_c12
set_option maxRecDepth 65536 in
theorem w_t1 : (words1.take 24).all (fun c => isCode c || c.before args0 about1) = true := by decide +kernel
set_option maxRecDepth 65536 in
theorem w_t2 : ((words1.drop 24).take 24).all (fun c => isCode c || c.before args0 about1) = true := by decide +kernel
set_option maxRecDepth 65536 in
theorem w_t3 : (((words1.drop 24).drop 24).take 24).all (fun c => isCode c || c.before args0 about1) = true := by decide +kernel
set_option maxRecDepth 65536 in
theorem w_t4 : (((words1.drop 24).drop 24).drop 24).all (fun c => isCode c || c.before args0 about1) = true := by decide +kernel
theorem w_tables : (allAtoms (Jvm.Cond.code x code maxLocals ret :: tables_1)).before args0 about1 = true := by
  rw [allAtoms_all]
  show words1.all (fun c => c.before args0 about1) = true
  refine all_split ?_ w_codes
  rw [← List.take_append_drop 24 words1, List.all_append, w_t1, ← List.take_append_drop 24 (words1.drop 24), List.all_append, w_t2, ← List.take_append_drop 24 ((words1.drop 24).drop 24), List.all_append, w_t3, w_t4]
  rfl
set_option maxRecDepth 65536 in
theorem w_rest : rest_1_c.before args0 about1 = true := by decide +kernel
set_option maxRecDepth 65536 in
theorem w_case : (Jvm.Cond.and given_1 narrow_1).before args0 about1 = true := by decide +kernel
set_option maxRecDepth 65536 in
theorem w_consts : constsHeld consts_1 about1 := Jvm.Lit.constsHeldB_iff.mp (by decide +kernel)
theorem w_applies : (headSpec (Jvm.Cond.code x code maxLocals ret :: tables_1) room_1).applies x e0.platform about1 = true :=
  (Spec.applies_iff w_frames).mpr ⟨w_running, w_runnable, w_alone, w_named, w_hears, w_ripe, w_room, w_tables⟩
theorem atStart : AtStart classFile x code maxLocals ret World_1 tables_1 room_1 Calls_1 rest_1 Pre_1 launch0 p0 e0 about1 theMethod args0 below0 :=
  ⟨lists_1, trivial, launch0.admits_env _ _ _, launch0.least_env, fairChoices_fair.cas, fairChoices_fair.clock, w_frames, w_args, w_heap, w_applies, ⟨w_consts, trivial⟩, w_rest, w_case⟩
end start1
theorem witness_1 : WitnessClaimed_1 := ⟨start1.p0, start1.e0, start1.about1, start1.theMethod, start1.args0, start1.below0, start1.atStart⟩
end Jvm.Pilot.@@N@@
