import JvmDerived
import JvmDerived.Pilot.@@N@@Statement
import JvmDerived.Pilot.@@N@@Code
set_option linter.unusedVariables false
set_option linter.unusedSimpArgs false
namespace Jvm.Pilot.@@N@@
namespace StrChars
open Jvm Sem ClassFile Op Lib Jvm.Stand Jvm.Free.XT Jvm.Free.ALB Jvm.Free.JM Jvm.Free
open Jvm.Lib.Cold (StaticIs)
/-- a char array whose places are chars -/
def Ch (a : Addr) (A : Cell) (U : State) : Prop := Arr .char a A U ∧ Typed .char A
theorem Ch.mv {a : Addr} {A : Cell} {U U' : State} (h : Ch a A U) (hal : U.vm.Alike U'.vm) (hh : U'.heap = U.heap) : Ch a A U' := ⟨h.1.mv hal hh, h.2⟩
theorem Ch.keep {a : Addr} {A : Cell} {U U' : State} (h : Ch a A U) (hal : U.vm.Alike U'.vm) (hk : U'.heap[a]? = some A) : Ch a A U' := ⟨h.1.keep hal hk, h.2⟩
/-- what place i of a char[]'s cell holds -/
def cv (A : Cell) (i : Nat) : Int32 := match A.slots[i]? with | some (.int x) => x | _ => 0
theorem Ch.get {a : Addr} {A : Cell} {U : State} (h : Ch a A U) {i : Nat} (hi : i < A.slots.size) : A.slots[i]? = some (.int (cv A i)) := by
  have e := Array.getElem?_eq_getElem hi
  have f := h.2 i _ e
  unfold cv; rw [e]
  generalize A.slots[i] = v at f
  cases v <;> simp [fits] at f ⊢
/-- the byte that i2b leaves of a char -/
def lo8 (x : Int32) : Int32 := x.toInt8.toInt32
theorem fits_lo8 (y : Int32) : fits .byte (.int (lo8 y)) = true := by
  have h1 := y.toInt8.le_toInt
  have h2 := y.toInt8.toInt_lt
  simp only [lo8, fits, Bool.and_eq_true, decide_eq_true_eq, Int32.le_iff_toInt_le, Int8.toInt_toInt32, show (-128 : Int32).toInt = -128 from by decide, show (127 : Int32).toInt = 127 from by decide]
  omega
/-- A' is A but that each place j of lo .. hi - 1 holds f j -/
def Laid (A A' : Cell) (lo hi : Nat) (f : Nat → Value) : Prop := A'.cls = A.cls ∧ A'.vm = A.vm ∧ A'.slots.size = A.slots.size ∧ ∀ i, A'.slots[i]? = if lo ≤ i ∧ i < hi then some (f i) else A.slots[i]?
theorem Laid.zero (A : Cell) (lo : Nat) (f : Nat → Value) : Laid A A lo (lo + 0) f := ⟨rfl, rfl, rfl, fun i => by rw [if_neg (by omega)]⟩
theorem Laid.step {A Ak : Cell} {lo k : Nat} {f : Nat → Value} {v : Value} (h : Laid A Ak lo k f) (hlo : lo ≤ k) (hk : k < Ak.slots.size) (hv : v = f k) : Laid A (Ak.setSlot k v) lo (k + 1) f := by
  refine ⟨h.1, h.2.1, by simpa [Cell.setSlot] using h.2.2.1, fun i => ?_⟩
  by_cases e : k = i
  · subst e; rw [Cell.slots_setSlot_self v hk, if_pos (by omega), hv]
  · rw [Cell.slots_setSlot_ne v e, h.2.2.2 i]
    by_cases q : lo ≤ i ∧ i < k
    · rw [if_pos q, if_pos (by omega)]
    · rw [if_neg q, if_neg (by omega)]
def U16 : String := "java/lang/StringUTF16"
namespace Cmp5
def yN : MethodName := ⟨"java/lang/StringUTF16", "compress", "([CI[BII)I"⟩
abbrev yB : ByteArray := jdk_52_method_21_code
theorem d0 : decode yB 0 = .ok (.iconst 0, 1) := by decide +kernel
theorem d1 : decode yB 1 = .ok (.istore 5, 2) := by decide +kernel
theorem d3 : decode yB 3 = .ok (.iload 5, 2) := by decide +kernel
theorem d5 : decode yB 5 = .ok (.iload 4, 2) := by decide +kernel
theorem d7 : decode yB 7 = .ok (.if_icmp (.ge) 37, 3) := by decide +kernel
theorem d10 : decode yB 10 = .ok (.aload_n 0, 1) := by decide +kernel
theorem d11 : decode yB 11 = .ok (.iload_n 1, 1) := by decide +kernel
theorem d12 : decode yB 12 = .ok (.caload, 1) := by decide +kernel
theorem d13 : decode yB 13 = .ok (.istore 6, 2) := by decide +kernel
theorem d15 : decode yB 15 = .ok (.iload 6, 2) := by decide +kernel
theorem d17 : decode yB 17 = .ok (.sipush 255, 3) := by decide +kernel
theorem d20 : decode yB 20 = .ok (.if_icmp (.le) 6, 3) := by decide +kernel
theorem d26 : decode yB 26 = .ok (.aload_n 2, 1) := by decide +kernel
theorem d27 : decode yB 27 = .ok (.iload_n 3, 1) := by decide +kernel
theorem d28 : decode yB 28 = .ok (.iload 6, 2) := by decide +kernel
theorem d30 : decode yB 30 = .ok (.i2b, 1) := by decide +kernel
theorem d31 : decode yB 31 = .ok (.bastore, 1) := by decide +kernel
theorem d32 : decode yB 32 = .ok (.iinc 1 1, 3) := by decide +kernel
theorem d35 : decode yB 35 = .ok (.iinc 3 1, 3) := by decide +kernel
theorem d38 : decode yB 38 = .ok (.iinc 5 1, 3) := by decide +kernel
theorem d41 : decode yB 41 = .ok (.goto (-38), 3) := by decide +kernel
theorem d44 : decode yB 44 = .ok (.iload 4, 2) := by decide +kernel
theorem d46 : decode yB 46 = .ok (.ireturn, 1) := by decide +kernel
def site : List Cond := []
def tab : Cond := tabOf yN yB 7 (some .int) site
def P (b : Addr) (A : Cell) (d : Addr) (B : Cell) (o q len : Nat) (args : Array Value) (s : State) : Prop := args = #[.ref b, .int (Int32.ofNat o), .ref d, .int (Int32.ofNat q), .int (Int32.ofNat len)] ∧ Ch b A s ∧ Arr .byte d B s ∧ b ≠ d ∧ o + len ≤ A.slots.size ∧ q + len ≤ B.slots.size ∧ ∀ i, i < len → ¬ 255 < cv A (o + i)
def E (b : Addr) (A : Cell) (d : Addr) (B : Cell) (o q len : Nat) (r : Option Value) (s u : State) : Prop := r = some (.int (Int32.ofNat len)) ∧ ∃ B', Put d B' s u ∧ Laid B B' q (q + len) (fun j => Value.int (lo8 (cv A (o + (j - q)))))
/-- no char of the range above 255: len; the places written hold each char's low byte -/
theorem law (l : Launch) (b : Addr) (A : Cell) (d : Addr) (B : Cell) (o q len : Nat) : Law l yN 5 5 0 0 yB 7 (some .int) site (P b A d B o q len) (E b A d B o q len) (copyLocs d q len) 0 0 := by
  refine Law.of_walk (plainFor_of_name (by decide +kernel)) (by decide +kernel) (by decide +kernel) (by decide) (fun _ _ h => by rw [h.1]; rfl) (fun _ U U' hal hh h => ⟨h.1, h.2.1.mv hal hh, h.2.2.1.mv hal hh, h.2.2.2⟩) (fun r U U' V V' h1 hal h2 h => ⟨h.1, h.2.elim fun B' q => ⟨B', q.1.mv h1 h2, q.2⟩⟩) ?_
  intro p e s m args below meth c s₁ X0 hexec hbytes hml hret hlk hnm hown hh0 W hP
  obtain ⟨rfl, hA, hB, hne, l1, l2, hp⟩ := hP
  have c1 : Steps p.tables e below (s₁.setTop (entryFrame m #[.ref b, .int (Int32.ofNat o), .ref d, .int (Int32.ofNat q), .int (Int32.ofNat len)] 7)) (s₁.setTop (mkF m 0 #[.val (.ref b), .val (.int (Int32.ofNat o)), .val (.ref d), .val (.int (Int32.ofNat q)), .val (.int (Int32.ofNat len)), .unset, .unset] [])) := entry rfl
  have hA0 := hA.1.mv X0.warmed.alike hh0
  have hB0 := hB.mv X0.warmed.alike hh0
  have a31 := hA.1.2.2.2
  have c2 : Steps p.tables e below (s₁.setTop (entryFrame m #[.ref b, .int (Int32.ofNat o), .ref d, .int (Int32.ofNat q), .int (Int32.ofNat len)] 7)) (s₁.setTop (mkF m 3 #[.val (.ref b), .val (.int (Int32.ofNat o)), .val (.ref d), .val (.int (Int32.ofNat q)), .val (.int (Int32.ofNat len)), .val (.int 0), .unset] [])) := c1.trans (by
    refine iconstV X0.here hexec rfl 0 (hb hbytes d0) (by decide) ?_
    refine XS.istore X0.here hexec rfl (hb hbytes d1) rfl rfl ?_
    exact Steps.refl _)
  have loop : ∀ (r i : Nat), i + r = len → ∀ (z : Slot), (z = .unset ∨ ∃ w, z = .val w ∧ w.category = 1) → ∀ (Tl : State) (Bk : Cell), Stand p l e { frames := 0, locals := 0, cells := 0, slots := 0 } s m #[.ref b, .int (Int32.ofNat o), .ref d, .int (Int32.ofNat q), .int (Int32.ofNat len)] below meth c Tl ([] ++ copyLocs d q i) 0 0 → Put d Bk s₁ Tl → Laid B Bk q (q + i) (fun j => Value.int (lo8 (cv A (o + (j - q))))) →
      Steps p.tables e below (s₁.setTop (entryFrame m #[.ref b, .int (Int32.ofNat o), .ref d, .int (Int32.ofNat q), .int (Int32.ofNat len)] 7)) (Tl.setTop (mkF m 3 #[.val (.ref b), .val (.int (Int32.ofNat (o + i))), .val (.ref d), .val (.int (Int32.ofNat (q + i))), .val (.int (Int32.ofNat len)), .val (.int (Int32.ofNat i)), z] [])) → ∃ (T' : State) (B' : Cell) (z' : Slot), Stand p l e { frames := 0, locals := 0, cells := 0, slots := 0 } s m #[.ref b, .int (Int32.ofNat o), .ref d, .int (Int32.ofNat q), .int (Int32.ofNat len)] below meth c T' ([] ++ copyLocs d q len) 0 0 ∧ Put d B' s₁ T' ∧ Laid B B' q (q + len) (fun j => Value.int (lo8 (cv A (o + (j - q))))) ∧
      Steps p.tables e below (s₁.setTop (entryFrame m #[.ref b, .int (Int32.ofNat o), .ref d, .int (Int32.ofNat q), .int (Int32.ofNat len)] 7)) (T'.setTop (mkF m 3 #[.val (.ref b), .val (.int (Int32.ofNat (o + len))), .val (.ref d), .val (.int (Int32.ofNat (q + len))), .val (.int (Int32.ofNat len)), .val (.int (Int32.ofNat len)), z'] [])) := by
    intro r
    induction r with
    | zero =>
      intro i hi z hz Tl Bk Xl pl fl cl
      have hil : i = len := by omega
      rw [hil] at Xl fl cl
      exact ⟨Tl, Bk, z, Xl, pl, fl, cl⟩
    | succ r ih =>
      intro i hi z hz Tl Bk Xl pl fl cl
      have all := X0.warmed.alike.symm.trans Xl.warmed.alike
      have hAl := hA0.keep all (pl.other hne hA0.1)
      have hBk := hB0.like all pl.1 fl.1 fl.2.1 fl.2.2.1
      have hlt : q + i < Bk.slots.size := by rw [fl.2.2.1]; omega
      have c3 : Steps p.tables e below (s₁.setTop (entryFrame m #[.ref b, .int (Int32.ofNat o), .ref d, .int (Int32.ofNat q), .int (Int32.ofNat len)] 7)) (Tl.setTop (mkF m 12 #[.val (.ref b), .val (.int (Int32.ofNat (o + i))), .val (.ref d), .val (.int (Int32.ofNat (q + i))), .val (.int (Int32.ofNat len)), .val (.int (Int32.ofNat i)), z] [.int (Int32.ofNat (o + i)), .ref b])) := cl.trans (by
        refine XS.iload Xl.here hexec rfl (hb hbytes d3) rfl ?_
        refine XS.iload Xl.here hexec rfl (hb hbytes d5) rfl ?_
        refine XS.icmpNo Xl.here hexec rfl (hb hbytes d7) rfl (ii_ge_f (lt32 (by omega) (by omega))) ?_
        refine XS.aloadN Xl.here hexec rfl (hb hbytes d10) rfl rfl ?_
        refine XS.iloadN Xl.here hexec rfl (hb hbytes d11) rfl ?_
        exact Steps.refl _)
      have c4 : Steps p.tables e below (s₁.setTop (entryFrame m #[.ref b, .int (Int32.ofNat o), .ref d, .int (Int32.ofNat q), .int (Int32.ofNat len)] 7)) (Tl.setTop (mkF m 13 #[.val (.ref b), .val (.int (Int32.ofNat (o + i))), .val (.ref d), .val (.int (Int32.ofNat (q + i))), .val (.int (Int32.ofNat len)), .val (.int (Int32.ofNat i)), z] [.int (cv A (o + i))])) := c3.trans (by
        refine Xl.aget hexec hAl rfl (hA.get (i := o + i) (by omega)) rfl rfl (hb hbytes d12) ?_
        exact Steps.refl _)
      have c5 : Steps p.tables e below (s₁.setTop (entryFrame m #[.ref b, .int (Int32.ofNat o), .ref d, .int (Int32.ofNat q), .int (Int32.ofNat len)] 7)) (Tl.setTop (mkF m 15 #[.val (.ref b), .val (.int (Int32.ofNat (o + i))), .val (.ref d), .val (.int (Int32.ofNat (q + i))), .val (.int (Int32.ofNat len)), .val (.int (Int32.ofNat i)), .val (.int (cv A (o + i)))] [])) := c4.trans (by
        refine XS.istoreS Xl.here hexec rfl (hb hbytes d13) rfl rfl hz ?_
        exact Steps.refl _)
      have c6 : Steps p.tables e below (s₁.setTop (entryFrame m #[.ref b, .int (Int32.ofNat o), .ref d, .int (Int32.ofNat q), .int (Int32.ofNat len)] 7)) (Tl.setTop (mkF m 31 #[.val (.ref b), .val (.int (Int32.ofNat (o + i))), .val (.ref d), .val (.int (Int32.ofNat (q + i))), .val (.int (Int32.ofNat len)), .val (.int (Int32.ofNat i)), .val (.int (cv A (o + i)))] [.int (lo8 (cv A (o + i))), .int (Int32.ofNat (q + i)), .ref d])) := c5.trans (by
        refine XS.iload Xl.here hexec rfl (hb hbytes d15) rfl ?_
        refine sipushV Xl.here hexec rfl 255 (hb hbytes d17) (by decide) ?_
        refine XS.icmpYes Xl.here hexec rfl (pc0 := 20) rfl (hb hbytes d20) rfl (ii_le_t (hp i (by omega))) (by decide) rfl ?_
        refine XS.aloadN Xl.here hexec rfl (hb hbytes d26) rfl rfl ?_
        refine XS.iloadN Xl.here hexec rfl (hb hbytes d27) rfl ?_
        refine XS.iload Xl.here hexec rfl (hb hbytes d28) rfl ?_
        refine i2b Xl.here hexec rfl (hb hbytes d30) rfl ?_
        exact Steps.refl _)
      obtain ⟨T7, X7, p7, st7⟩ := Xl.aput hexec hBk rfl hlt rfl (fits_lo8 (cv A (o + i))) (g := (mkF m 31 #[.val (.ref b), .val (.int (Int32.ofNat (o + i))), .val (.ref d), .val (.int (Int32.ofNat (q + i))), .val (.int (Int32.ofNat len)), .val (.int (Int32.ofNat i)), .val (.int (cv A (o + i)))] [.int (lo8 (cv A (o + i))), .int (Int32.ofNat (q + i)), .ref d])) rfl (rest := []) rfl (hb hbytes d31)
      have c8 : Steps p.tables e below (s₁.setTop (entryFrame m #[.ref b, .int (Int32.ofNat o), .ref d, .int (Int32.ofNat q), .int (Int32.ofNat len)] 7)) (T7.setTop (mkF m 32 #[.val (.ref b), .val (.int (Int32.ofNat (o + i))), .val (.ref d), .val (.int (Int32.ofNat (q + i))), .val (.int (Int32.ofNat len)), .val (.int (Int32.ofNat i)), .val (.int (cv A (o + i)))] [])) := c6.trans (st7 _ (Steps.refl _))
      have c9 : Steps p.tables e below (s₁.setTop (entryFrame m #[.ref b, .int (Int32.ofNat o), .ref d, .int (Int32.ofNat q), .int (Int32.ofNat len)] 7)) (T7.setTop (mkF m 3 #[.val (.ref b), .val (.int (Int32.ofNat (o + i) + 1)), .val (.ref d), .val (.int (Int32.ofNat (q + i) + 1)), .val (.int (Int32.ofNat len)), .val (.int (Int32.ofNat i + 1)), .val (.int (cv A (o + i)))] [])) := c8.trans (by
        refine iincV X7.here hexec rfl 1 (hb hbytes d32) (by decide) rfl rfl ?_
        refine iincV X7.here hexec rfl 1 (hb hbytes d35) (by decide) rfl rfl ?_
        refine iincV X7.here hexec rfl 1 (hb hbytes d38) (by decide) rfl rfl ?_
        refine XS.goto X7.here hexec rfl (pc0 := 41) rfl (hb hbytes d41) (by decide) rfl ?_
        exact Steps.refl _)
      have c10 : Steps p.tables e below (s₁.setTop (entryFrame m #[.ref b, .int (Int32.ofNat o), .ref d, .int (Int32.ofNat q), .int (Int32.ofNat len)] 7)) (T7.setTop (mkF m 3 #[.val (.ref b), .val (.int (Int32.ofNat (o + (i + 1)))), .val (.ref d), .val (.int (Int32.ofNat (q + (i + 1)))), .val (.int (Int32.ofNat len)), .val (.int (Int32.ofNat (i + 1))), .val (.int (cv A (o + i)))] [])) := by
        have := c9
        rw [succ32, succ32, succ32] at this
        exact this
      exact ih (i + 1) (by omega) _ (Or.inr ⟨_, rfl, rfl⟩) T7 _ (by rw [copyLocs_step, ← List.append_assoc]; exact X7) (pl.trans p7) (fl.step (by omega) hlt (by simp)) c10
  obtain ⟨T9, B9, z9, X9, p9, f9, g9⟩ := loop len 0 (by omega) .unset (Or.inl rfl) s₁ B (by simpa [copyLocs] using X0) ⟨hB0.1, fun _ _ => rfl, rfl⟩ (Laid.zero _ _ _) c2
  have c11 : Steps p.tables e below (s₁.setTop (entryFrame m #[.ref b, .int (Int32.ofNat o), .ref d, .int (Int32.ofNat q), .int (Int32.ofNat len)] 7)) (T9.setTop (mkF m 46 #[.val (.ref b), .val (.int (Int32.ofNat (o + len))), .val (.ref d), .val (.int (Int32.ofNat (q + len))), .val (.int (Int32.ofNat len)), .val (.int (Int32.ofNat len)), z9] [.int (Int32.ofNat len)])) := g9.trans (by
    refine XS.iload X9.here hexec rfl (hb hbytes d3) rfl ?_
    refine XS.iload X9.here hexec rfl (hb hbytes d5) rfl ?_
    refine XS.icmpYes X9.here hexec rfl (pc0 := 7) rfl (hb hbytes d7) rfl (ii_ge_t (nlt32 (by omega) (Nat.le_refl _))) (by decide) rfl ?_
    refine XS.iload X9.here hexec rfl (hb hbytes d44) rfl ?_
    exact Steps.refl _)
  exact ⟨T9, some (.int (Int32.ofNat len)), _, _, _, X9, by simp, rfl, rfl, (fun h => by cases h), ⟨rfl, B9, p9.from hh0, f9⟩, fun fs hl => c11.trans (X9.ireturnOut hexec hret rfl (Or.inl rfl) (hb hbytes d46) hl)⟩
end Cmp5
namespace Cmp3
def yN : MethodName := ⟨"java/lang/StringUTF16", "compress", "([CII)[B"⟩
abbrev yB : ByteArray := jdk_52_method_16_code
theorem d0 : decode yB 0 = .ok (.iload_n 2, 1) := by decide +kernel
theorem d1 : decode yB 1 = .ok (.newarray .byte, 2) := by decide +kernel
theorem d3 : decode yB 3 = .ok (.astore_n 3, 1) := by decide +kernel
theorem d4 : decode yB 4 = .ok (.aload_n 0, 1) := by decide +kernel
theorem d5 : decode yB 5 = .ok (.iload_n 1, 1) := by decide +kernel
theorem d6 : decode yB 6 = .ok (.aload_n 3, 1) := by decide +kernel
theorem d7 : decode yB 7 = .ok (.iconst 0, 1) := by decide +kernel
theorem d8 : decode yB 8 = .ok (.iload_n 2, 1) := by decide +kernel
theorem d9 : decode yB 9 = .ok (.invokestatic 115, 3) := by decide +kernel
theorem d12 : decode yB 12 = .ok (.istore 4, 2) := by decide +kernel
theorem d14 : decode yB 14 = .ok (.iload 4, 2) := by decide +kernel
theorem d16 : decode yB 16 = .ok (.iload_n 2, 1) := by decide +kernel
theorem d17 : decode yB 17 = .ok (.if_icmp (.eq) 40, 3) := by decide +kernel
theorem d57 : decode yB 57 = .ok (.aload_n 3, 1) := by decide +kernel
theorem d58 : decode yB 58 = .ok (.areturn, 1) := by decide +kernel
def site : List Cond := [.arrayClass .byte, Cmp5.tab] ++ staticW U16 115 Cmp5.yN
def tab : Cond := tabOf yN yB 6 (some (.array .byte)) site
def P (b : Addr) (A : Cell) (o len : Nat) (args : Array Value) (s : State) : Prop := args = #[.ref b, .int (Int32.ofNat o), .int (Int32.ofNat len)] ∧ Ch b A s ∧ o + len ≤ A.slots.size ∧ len ≤ 536870912 ∧ ∀ i, i < len → ¬ 255 < cv A (o + i)
def E (b : Addr) (A : Cell) (o len : Nat) (r : Option Value) (s u : State) : Prop := NewArr .byte "[B" len (fun j => .int (lo8 (cv A (o + j)))) r s u ∧ u.heap.size = s.heap.size + 1
/-- no char of the range above 255: a new byte[] of their low bytes -/
theorem law (l : Launch) (b : Addr) (A : Cell) (o len : Nat) : Law l yN 3 3 1 18 yB 6 (some (.array .byte)) site (P b A o len) (E b A o len) [] 1 len := by
  refine Law.of_walk (plainFor_of_name (by decide +kernel)) (by decide +kernel) (by decide +kernel) (by decide) (fun _ _ h => by rw [h.1]; rfl) (fun _ U U' hal hh h => ⟨h.1, h.2.1.mv hal hh, h.2.2⟩) (fun r U U' V V' h1 hal h2 h => ⟨NewArr.mv r U U' V V' h1 hal h2 h.1, by rw [h1, h2]; exact h.2⟩) ?_
  intro p e s m args below meth c s₁ X0 hexec hbytes hml hret hlk hnm hown hh0 W hP
  obtain ⟨rfl, hA, l1, l2, hp⟩ := hP
  have a31 := hA.1.2.2.2
  have c1 : Steps p.tables e below (s₁.setTop (entryFrame m #[.ref b, .int (Int32.ofNat o), .int (Int32.ofNat len)] 6)) (s₁.setTop (mkF m 0 #[.val (.ref b), .val (.int (Int32.ofNat o)), .val (.int (Int32.ofNat len)), .unset, .unset, .unset] [])) := entry rfl
  have c2 : Steps p.tables e below (s₁.setTop (entryFrame m #[.ref b, .int (Int32.ofNat o), .int (Int32.ofNat len)] 6)) (s₁.setTop (mkF m 1 #[.val (.ref b), .val (.int (Int32.ofNat o)), .val (.int (Int32.ofNat len)), .unset, .unset, .unset] [.int (Int32.ofNat len)])) := c1.trans (by
    refine XS.iloadN X0.here hexec rfl (hb hbytes d0) rfl ?_
    exact Steps.refl _)
  obtain ⟨T3, B3, X3, ba3, bs3, bv3, bh3, bf3, st3⟩ := X0.anew hexec (atype := .byte) (wk W (.arrayClass .byte)) rfl (by show len * 1 ≤ _; omega) (by omega) (g := (mkF m 1 #[.val (.ref b), .val (.int (Int32.ofNat o)), .val (.int (Int32.ofNat len)), .unset, .unset, .unset] [.int (Int32.ofNat len)])) rfl (hb hbytes d1) (rest := []) rfl (Nat.le_refl _) (by show 0 + len ≤ len; omega)
  rw [hh0] at ba3 st3
  have kp3 : XT.Kept s T3 := (XT.Kept.of_eq hh0).push bh3
  have hA3 := hA.keep X3.warmed.alike (kp3 _ _ hA.1.1)
  have hne : b ≠ s.heap.size := hA.1.ne
  have c4 : Steps p.tables e below (s₁.setTop (entryFrame m #[.ref b, .int (Int32.ofNat o), .int (Int32.ofNat len)] 6)) (T3.setTop (mkF m 3 #[.val (.ref b), .val (.int (Int32.ofNat o)), .val (.int (Int32.ofNat len)), .unset, .unset, .unset] [.ref s.heap.size])) := c2.trans (st3 _ (Steps.refl _))
  have c5 : Steps p.tables e below (s₁.setTop (entryFrame m #[.ref b, .int (Int32.ofNat o), .int (Int32.ofNat len)] 6)) (T3.setTop (mkF m 9 #[.val (.ref b), .val (.int (Int32.ofNat o)), .val (.int (Int32.ofNat len)), .val (.ref s.heap.size), .unset, .unset] [.int (Int32.ofNat len), .int 0, .ref s.heap.size, .int (Int32.ofNat o), .ref b])) := c4.trans (by
    refine XS.astoreN X3.here hexec rfl (hb hbytes d3) rfl rfl rfl ?_
    refine XS.aloadN X3.here hexec rfl (hb hbytes d4) rfl rfl ?_
    refine XS.iloadN X3.here hexec rfl (hb hbytes d5) rfl ?_
    refine XS.aloadN X3.here hexec rfl (hb hbytes d6) rfl rfl ?_
    refine iconstV X3.here hexec rfl 0 (hb hbytes d7) (by decide) ?_
    refine XS.iloadN X3.here hexec rfl (hb hbytes d8) rfl ?_
    exact Steps.refl _)
  obtain ⟨v6, T6, X6, E6, g6⟩ := X3.callS hexec (Cmp5.law l b A s.heap.size B3 o 0 len) hown (wks W (staticW U16 115 Cmp5.yN)) (wk W Cmp5.tab) (W := 0) (Nat.le_of_ble_eq_true rfl) (Nat.le_of_ble_eq_true rfl) (Nat.le_refl _) (by show 0 + len + 0 ≤ len; omega) (g := (mkF m 9 #[.val (.ref b), .val (.int (Int32.ofNat o)), .val (.int (Int32.ofNat len)), .val (.ref s.heap.size), .unset, .unset] [.int (Int32.ofNat len), .int (Int32.ofNat 0), .ref s.heap.size, .int (Int32.ofNat o), .ref b])) rfl (by rw [hml]; rfl) c5 (argsL := [.ref b, .int (Int32.ofNat o), .ref s.heap.size, .int (Int32.ofNat 0), .int (Int32.ofNat len)]) (rest := []) rfl rfl (by show 2 * 0 + 0 ≤ _; decide) (hb hbytes d9) (⟨rfl, hA3, ba3, hne, l1, by rw [bs3]; simp, hp⟩)
  obtain ⟨rfl, B6, p6, f6⟩ := E6
  have c7 : Steps p.tables e below (s₁.setTop (entryFrame m #[.ref b, .int (Int32.ofNat o), .int (Int32.ofNat len)] 6)) (T6.setTop (mkF m 12 #[.val (.ref b), .val (.int (Int32.ofNat o)), .val (.int (Int32.ofNat len)), .val (.ref s.heap.size), .unset, .unset] [.int (Int32.ofNat len)])) := g6
  have c8 : Steps p.tables e below (s₁.setTop (entryFrame m #[.ref b, .int (Int32.ofNat o), .int (Int32.ofNat len)] 6)) (T6.setTop (mkF m 58 #[.val (.ref b), .val (.int (Int32.ofNat o)), .val (.int (Int32.ofNat len)), .val (.ref s.heap.size), .val (.int (Int32.ofNat len)), .unset] [.ref s.heap.size])) := c7.trans (by
    refine XS.istore X6.here hexec rfl (hb hbytes d12) rfl rfl ?_
    refine XS.iload X6.here hexec rfl (hb hbytes d14) rfl ?_
    refine XS.iloadN X6.here hexec rfl (hb hbytes d16) rfl ?_
    refine XS.icmpYes X6.here hexec rfl (pc0 := 17) rfl (hb hbytes d17) rfl (ii_eq_t rfl) (by decide) rfl ?_
    refine XS.aloadN X6.here hexec rfl (hb hbytes d57) rfl rfl ?_
    exact Steps.refl _)
  have X8 := X6.wide (L' := []) (cells' := 1) (slots' := len) (fun x hx hlt => by
    simp only [List.nil_append, copyLocs, List.mem_map, List.mem_range] at hx
    obtain ⟨i, -, rfl⟩ := hx
    exact absurd hlt (Nat.lt_irrefl _)) (Nat.le_refl _) (by omega)
  exact ⟨T6, some (.ref s.heap.size), _, _, _, X8, rfl, rfl, rfl, (fun h => by cases h), ⟨⟨rfl, B6, ba3.like (X3.warmed.alike.symm.trans X6.warmed.alike) p6.1 f6.1 f6.2.1 f6.2.2.1, f6.2.1.trans bv3, by rw [X6.warmed.alike.findClass, f6.1]; exact bf3, by rw [f6.2.2.1, bs3]; simp, fun j hj => by rw [f6.2.2.2 j, if_pos (by omega)]; rfl, kp3.put p6 (Nat.le_refl _)⟩, by rw [p6.2.2, bh3, hh0]; simp⟩, fun fs hl => c8.trans (X8.areturnOut hexec rfl hret rfl (hb hbytes d58) hl)⟩
end Cmp3
namespace CodL
def yN : MethodName := ⟨"java/lang/StringUTF16", "coderFromArrayLen", "([BI)B"⟩
abbrev yB : ByteArray := jdk_52_method_15_code
theorem d0 : decode yB 0 = .ok (.iload_n 1, 1) := by decide +kernel
theorem d1 : decode yB 1 = .ok (.aload_n 0, 1) := by decide +kernel
theorem d2 : decode yB 2 = .ok (.arraylength, 1) := by decide +kernel
theorem d3 : decode yB 3 = .ok (.isub, 1) := by decide +kernel
theorem d4 : decode yB 4 = .ok (.bipush 31, 2) := by decide +kernel
theorem d6 : decode yB 6 = .ok (.iushr, 1) := by decide +kernel
theorem d7 : decode yB 7 = .ok (.i2b, 1) := by decide +kernel
theorem d8 : decode yB 8 = .ok (.ireturn, 1) := by decide +kernel
def site : List Cond := []
def tab : Cond := tabOf yN yB 2 (some .byte) site
def P (d : Addr) (B : Cell) (args : Array Value) (s : State) : Prop := args = #[.ref d, .int (Int32.ofNat B.slots.size)] ∧ Arr .byte d B s
def E (r : Option Value) (s u : State) : Prop := XT.PureE (some (.int 0)) r s u
/-- an array as long as the number of chars: LATIN1 -/
theorem law (l : Launch) (d : Addr) (B : Cell) : Law l yN 2 2 0 0 yB 2 (some .byte) site (P d B) E [] 0 0 := by
  refine Law.of_walk (plainFor_of_name (by decide +kernel)) (by decide +kernel) (by decide +kernel) (by decide) (fun _ _ h => by rw [h.1]; rfl) (fun _ U U' hal hh h => ⟨h.1, h.2.mv hal hh⟩) (fun r U U' V V' h1 hal h2 h => XT.PureE.mv r U U' V V' h1 hal h2 h) ?_
  intro p e s m args below meth c s₁ X0 hexec hbytes hml hret hlk hnm hown hh0 W hP
  obtain ⟨rfl, hB⟩ := hP
  have hB0 := hB.mv X0.warmed.alike hh0
  have c1 : Steps p.tables e below (s₁.setTop (entryFrame m #[.ref d, .int (Int32.ofNat B.slots.size)] 2)) (s₁.setTop (mkF m 0 #[.val (.ref d), .val (.int (Int32.ofNat B.slots.size))] [])) := entry rfl
  have c2 : Steps p.tables e below (s₁.setTop (entryFrame m #[.ref d, .int (Int32.ofNat B.slots.size)] 2)) (s₁.setTop (mkF m 2 #[.val (.ref d), .val (.int (Int32.ofNat B.slots.size))] [.ref d, .int (Int32.ofNat B.slots.size)])) := c1.trans (by
    refine XS.iloadN X0.here hexec rfl (hb hbytes d0) rfl ?_
    refine XS.aloadN X0.here hexec rfl (hb hbytes d1) rfl rfl ?_
    exact Steps.refl _)
  have c3 : Steps p.tables e below (s₁.setTop (entryFrame m #[.ref d, .int (Int32.ofNat B.slots.size)] 2)) (s₁.setTop (mkF m 8 #[.val (.ref d), .val (.int (Int32.ofNat B.slots.size))] [.int (lo8 (ushr (Int32.ofNat B.slots.size - Int32.ofNat B.slots.size) 31))])) := c2.trans (by
    refine X0.alen hexec hB0 rfl rfl (hb hbytes d2) ?_
    refine XS.isub X0.here hexec rfl (hb hbytes d3) rfl ?_
    refine bipushV X0.here hexec rfl 31 (hb hbytes d4) (by decide) ?_
    refine iushr X0.here hexec rfl (hb hbytes d6) rfl ?_
    refine i2b X0.here hexec rfl (hb hbytes d7) rfl ?_
    exact Steps.refl _)
  have e0 : lo8 (ushr (Int32.ofNat B.slots.size - Int32.ofNat B.slots.size) 31) = 0 := by rw [Int32.sub_self]; decide
  rw [e0] at c3
  exact ⟨s₁, some (.int 0), _, _, _, X0, rfl, rfl, rfl, (fun h => by cases h), ⟨rfl, hh0⟩, fun fs hl => c3.trans (X0.ireturnOut hexec hret rfl (Or.inr (Or.inr (Or.inl rfl))) (hb hbytes d8) hl)⟩
end CodL
/-- the String at a is Latin-1 over a new byte[] (the heap's one new cell): the low bytes of the len chars of A from o on; every cell but a is kept -/
def Got (a : Addr) (D : Cell) (fV fC : Field) (A : Cell) (o len : Nat) (r : Option Value) (s u : State) : Prop := r = none ∧ ∃ D' V : Cell, Blank "java/lang/String" a D' u ∧ Same D D' [fV.slot, fC.slot] ∧ D'.slots[fV.slot]? = some (.ref s.heap.size) ∧ D'.slots[fC.slot]? = some (.int 0) ∧ Arr .byte s.heap.size V u ∧ V.vm = .none ∧ u.vm.findClass "[B" = some V.cls ∧ V.slots.size = len ∧ (∀ j, j < len → V.slots[j]? = some (.int (lo8 (cv A (o + j))))) ∧ (∀ (y : Addr) (c : Cell), y ≠ a → s.heap[y]? = some c → u.heap[y]? = some c) ∧ u.heap.size = s.heap.size + 1
theorem Got.mv {a : Addr} {D A : Cell} {fV fC : Field} {o len : Nat} : ∀ r (U U' V V' : State), U'.heap = U.heap → V.vm.Alike V'.vm → V'.heap = V.heap → Got a D fV fC A o len r U V → Got a D fV fC A o len r U' V' :=
  fun r U U' V V' h1 hal h2 ⟨e0, D', X, a1, a2, a3, a4, a5, a6, a7, a8, a9, a10, a11⟩ => ⟨e0, D', X, a1.mv hal h2, a2, by rw [h1]; exact a3, a4, by rw [h1]; exact a5.mv hal h2, a6, by rw [hal.findClass]; exact a7, a8, a9, by rw [h1, h2]; exact a10, by rw [h1, h2]; exact a11⟩
namespace New4
def yN : MethodName := ⟨"java/lang/String", "<init>", "([CIILjava/lang/Void;)V"⟩
abbrev yB : ByteArray := jdk_42_method_149_code
theorem d0 : decode yB 0 = .ok (.aload_n 0, 1) := by decide +kernel
theorem d1 : decode yB 1 = .ok (.invokespecial 1, 3) := by decide +kernel
theorem d4 : decode yB 4 = .ok (.iload_n 3, 1) := by decide +kernel
theorem d5 : decode yB 5 = .ok (.ifCond (.ne) 22, 3) := by decide +kernel
theorem d27 : decode yB 27 = .ok (.getstatic 38, 3) := by decide +kernel
theorem d30 : decode yB 30 = .ok (.ifCond (.eq) 28, 3) := by decide +kernel
theorem d33 : decode yB 33 = .ok (.aload_n 1, 1) := by decide +kernel
theorem d34 : decode yB 34 = .ok (.iload_n 2, 1) := by decide +kernel
theorem d35 : decode yB 35 = .ok (.iload_n 3, 1) := by decide +kernel
theorem d36 : decode yB 36 = .ok (.invokestatic 177, 3) := by decide +kernel
theorem d39 : decode yB 39 = .ok (.astore 5, 2) := by decide +kernel
theorem d41 : decode yB 41 = .ok (.aload_n 0, 1) := by decide +kernel
theorem d42 : decode yB 42 = .ok (.aload 5, 2) := by decide +kernel
theorem d44 : decode yB 44 = .ok (.iload_n 3, 1) := by decide +kernel
theorem d45 : decode yB 45 = .ok (.invokestatic 47, 3) := by decide +kernel
theorem d48 : decode yB 48 = .ok (.putfield 15, 3) := by decide +kernel
theorem d51 : decode yB 51 = .ok (.aload_n 0, 1) := by decide +kernel
theorem d52 : decode yB 52 = .ok (.aload 5, 2) := by decide +kernel
theorem d54 : decode yB 54 = .ok (.putfield 9, 3) := by decide +kernel
theorem d57 : decode yB 57 = .ok (.return_, 1) := by decide +kernel
def site : List Cond := [.fieldLink "java/lang/String" 38 "java/lang/String" "COMPACT_STRINGS" "Z", Cmp3.tab, CodL.tab, .laysFinal "java/lang/String" "java/lang/String" "value" "[B", .fieldLink "java/lang/String" 9 "java/lang/String" "value" "[B", .laysFinal "java/lang/String" "java/lang/String" "coder" "B", .fieldLink "java/lang/String" 15 "java/lang/String" "coder" "B"] ++ objW "java/lang/String" 1 ++ staticW "java/lang/String" 177 Cmp3.yN ++ staticW "java/lang/String" 47 CodL.yN
def tab : Cond := tabOf yN yB 6 none site
def P (a : Addr) (D : Cell) (fV fC : Field) (b : Addr) (A : Cell) (z : Int32) (o len : Nat) (args : Array Value) (s : State) : Prop := args = #[.ref a, .ref b, .int (Int32.ofNat o), .int (Int32.ofNat len), .null] ∧ Blank "java/lang/String" a D s ∧ Found "java/lang/String" "value" "[B" fV s ∧ Found "java/lang/String" "coder" "B" fC s ∧ Ch b A s ∧ StaticIs s "java/lang/String" "COMPACT_STRINGS" "Z" (.int z) ∧ ¬ z = 0 ∧ 0 < len ∧ o + len ≤ A.slots.size ∧ len ≤ 536870912 ∧ ∀ i, i < len → ¬ 255 < cv A (o + i)
def E (a : Addr) (D : Cell) (fV fC : Field) (A : Cell) (o len : Nat) (r : Option Value) (s u : State) : Prop := Got a D fV fC A o len r s u
/-- len > 0, no char of the range above 255: a Latin-1 String of their low bytes -/
theorem law (l : Launch) (a : Addr) (D : Cell) (fV fC : Field) (b : Addr) (A : Cell) (z : Int32) (o len : Nat) : Law l yN 5 4 2 35 yB 6 none site (P a D fV fC b A z o len) (E a D fV fC A o len) [⟨a, fC.slot⟩, ⟨a, fV.slot⟩] 1 len := by
  refine Law.of_walk (plainFor_of_name (by decide +kernel)) (by decide +kernel) (by decide +kernel) (by decide) (fun _ _ h => by rw [h.1]; rfl) (fun _ U U' hal hh h => ⟨h.1, h.2.1.mv hal hh, h.2.2.1.al hal, h.2.2.2.1.al hal, h.2.2.2.2.1.mv hal hh, h.2.2.2.2.2.1.there hal hh, h.2.2.2.2.2.2⟩) (fun r U U' V V' h1 hal h2 h => Got.mv r U U' V V' h1 hal h2 h) ?_
  intro p e s m args below meth c s₁ X0 hexec hbytes hml hret hlk hnm hown hh0 W hP
  obtain ⟨rfl, hB, f1, f2, hA, s1, hz, l0, l1, l2, hp⟩ := hP
  have a31 := hA.1.2.2.2
  have c1 : Steps p.tables e below (s₁.setTop (entryFrame m #[.ref a, .ref b, .int (Int32.ofNat o), .int (Int32.ofNat len), .null] 6)) (s₁.setTop (mkF m 0 #[.val (.ref a), .val (.ref b), .val (.int (Int32.ofNat o)), .val (.int (Int32.ofNat len)), .val .null, .unset] [])) := entry rfl
  have c2 : Steps p.tables e below (s₁.setTop (entryFrame m #[.ref a, .ref b, .int (Int32.ofNat o), .int (Int32.ofNat len), .null] 6)) (s₁.setTop (mkF m 1 #[.val (.ref a), .val (.ref b), .val (.int (Int32.ofNat o)), .val (.int (Int32.ofNat len)), .val .null, .unset] [.ref a])) := c1.trans (by
    refine XS.aloadN X0.here hexec rfl (hb hbytes d0) rfl rfl ?_
    exact Steps.refl _)
  obtain ⟨T3, X3, q3, st3⟩ := X0.oinit hexec hown (wks W (objW "java/lang/String" 1)) (g := (mkF m 1 #[.val (.ref a), .val (.ref b), .val (.int (Int32.ofNat o)), .val (.int (Int32.ofNat len)), .val .null, .unset] [.ref a])) rfl (by rw [hml]; rfl) (rest := []) rfl (hb hbytes d1) (W := 0) (by show 2 * 0 + 0 ≤ _; decide) (Nat.le_of_ble_eq_true rfl) (Nat.le_of_ble_eq_true rfl)
  have hh3 := q3.trans hh0
  have c4 : Steps p.tables e below (s₁.setTop (entryFrame m #[.ref a, .ref b, .int (Int32.ofNat o), .int (Int32.ofNat len), .null] 6)) (T3.setTop (mkF m 27 #[.val (.ref a), .val (.ref b), .val (.int (Int32.ofNat o)), .val (.int (Int32.ofNat len)), .val .null, .unset] [])) := (c2.trans (st3 _ (Steps.refl _))).trans (by
    refine XS.iloadN X3.here hexec rfl (hb hbytes d4) rfl ?_
    refine XS.ifYes X3.here hexec rfl (pc0 := 5) rfl (hb hbytes d5) rfl (i0_ne_t (nz32 (by omega) l0)) (by decide) rfl ?_
    exact Steps.refl _)
  obtain ⟨T5, X5, q5, st5⟩ := X3.sget hexec hown (wk W (.fieldLink "java/lang/String" 38 "java/lang/String" "COMPACT_STRINGS" "Z")) s1 (fun _ _ h => by rw [hh3]; exact h) (g := (mkF m 27 #[.val (.ref a), .val (.ref b), .val (.int (Int32.ofNat o)), .val (.int (Int32.ofNat len)), .val .null, .unset] [])) rfl (hb hbytes d27)
  have hh5 := q5.trans hh3
  have c6 : Steps p.tables e below (s₁.setTop (entryFrame m #[.ref a, .ref b, .int (Int32.ofNat o), .int (Int32.ofNat len), .null] 6)) (T5.setTop (mkF m 30 #[.val (.ref a), .val (.ref b), .val (.int (Int32.ofNat o)), .val (.int (Int32.ofNat len)), .val .null, .unset] [.int z])) := c4.trans (st5 _ (Steps.refl _))
  have c7 : Steps p.tables e below (s₁.setTop (entryFrame m #[.ref a, .ref b, .int (Int32.ofNat o), .int (Int32.ofNat len), .null] 6)) (T5.setTop (mkF m 36 #[.val (.ref a), .val (.ref b), .val (.int (Int32.ofNat o)), .val (.int (Int32.ofNat len)), .val .null, .unset] [.int (Int32.ofNat len), .int (Int32.ofNat o), .ref b])) := c6.trans (by
    refine XS.ifNo X5.here hexec rfl (hb hbytes d30) rfl (i0_eq_f hz) ?_
    refine XS.aloadN X5.here hexec rfl (hb hbytes d33) rfl rfl ?_
    refine XS.iloadN X5.here hexec rfl (hb hbytes d34) rfl ?_
    refine XS.iloadN X5.here hexec rfl (hb hbytes d35) rfl ?_
    exact Steps.refl _)
  obtain ⟨v8, T8, X8, E8, g8⟩ := X5.callS hexec (Cmp3.law l b A o len) hown (wks W (staticW "java/lang/String" 177 Cmp3.yN)) (wk W Cmp3.tab) (W := 0) (Nat.le_of_ble_eq_true rfl) (Nat.le_of_ble_eq_true rfl) (Nat.le_refl _) (by show 0 + len ≤ len; omega) (g := (mkF m 36 #[.val (.ref a), .val (.ref b), .val (.int (Int32.ofNat o)), .val (.int (Int32.ofNat len)), .val .null, .unset] [.int (Int32.ofNat len), .int (Int32.ofNat o), .ref b])) rfl (by rw [hml]; rfl) c7 (argsL := [.ref b, .int (Int32.ofNat o), .int (Int32.ofNat len)]) (rest := []) rfl rfl (by show 2 * 0 + 0 ≤ _; decide) (hb hbytes d36) (⟨rfl, hA.mv X5.warmed.alike hh5, l1, l2, hp⟩)
  obtain ⟨e8, z8⟩ := E8
  obtain ⟨rfl, N, n1, n2, n3, n4, n5, n6⟩ := NewArr.mv _ T5 s _ _ hh5.symm (Vm.Alike.refl _) rfl e8
  rw [hh5] at z8
  have hB1 := hB.keep X8.warmed.alike (n6 _ _ hB.1)
  have hne : s.heap.size ≠ a := (Nat.ne_of_lt (Array.getElem?_eq_some_iff.mp hB.1).1).symm
  have c9 : Steps p.tables e below (s₁.setTop (entryFrame m #[.ref a, .ref b, .int (Int32.ofNat o), .int (Int32.ofNat len), .null] 6)) (T8.setTop (mkF m 39 #[.val (.ref a), .val (.ref b), .val (.int (Int32.ofNat o)), .val (.int (Int32.ofNat len)), .val .null, .unset] [.ref s.heap.size])) := g8
  have c10 : Steps p.tables e below (s₁.setTop (entryFrame m #[.ref a, .ref b, .int (Int32.ofNat o), .int (Int32.ofNat len), .null] 6)) (T8.setTop (mkF m 45 #[.val (.ref a), .val (.ref b), .val (.int (Int32.ofNat o)), .val (.int (Int32.ofNat len)), .val .null, .val (.ref s.heap.size)] [.int (Int32.ofNat N.slots.size), .ref s.heap.size, .ref a])) := by
    have hc : Steps p.tables e below (s₁.setTop (entryFrame m #[.ref a, .ref b, .int (Int32.ofNat o), .int (Int32.ofNat len), .null] 6)) (T8.setTop (mkF m 45 #[.val (.ref a), .val (.ref b), .val (.int (Int32.ofNat o)), .val (.int (Int32.ofNat len)), .val .null, .val (.ref s.heap.size)] [.int (Int32.ofNat len), .ref s.heap.size, .ref a])) := c9.trans (by
      refine XS.astore X8.here hexec rfl (hb hbytes d39) rfl rfl rfl ?_
      refine XS.aloadN X8.here hexec rfl (hb hbytes d41) rfl rfl ?_
      refine XS.aload X8.here hexec rfl (hb hbytes d42) rfl rfl ?_
      refine XS.iloadN X8.here hexec rfl (hb hbytes d44) rfl ?_
      exact Steps.refl _)
    rw [n4]; exact hc
  obtain ⟨v11, T11, X11, E11, g11⟩ := X8.callS hexec (CodL.law l s.heap.size N) hown (wks W (staticW "java/lang/String" 47 CodL.yN)) (wk W CodL.tab) (W := 1) (Nat.le_of_ble_eq_true rfl) (Nat.le_of_ble_eq_true rfl) (Nat.le_refl _) (by show 0 + len + 0 ≤ len; omega) (g := (mkF m 45 #[.val (.ref a), .val (.ref b), .val (.int (Int32.ofNat o)), .val (.int (Int32.ofNat len)), .val .null, .val (.ref s.heap.size)] [.int (Int32.ofNat N.slots.size), .ref s.heap.size, .ref a])) rfl (by rw [hml]; rfl) c10 (argsL := [.ref s.heap.size, .int (Int32.ofNat N.slots.size)]) (rest := [.ref a]) rfl rfl (by show 2 * 0 + (1 + 0) ≤ _; decide) (hb hbytes d45) (⟨rfl, n1⟩)
  obtain ⟨rfl, q11⟩ := E11
  have hB11 := hB1.mv (X8.warmed.alike.symm.trans X11.warmed.alike) q11
  have c12 : Steps p.tables e below (s₁.setTop (entryFrame m #[.ref a, .ref b, .int (Int32.ofNat o), .int (Int32.ofNat len), .null] 6)) (T11.setTop (mkF m 48 #[.val (.ref a), .val (.ref b), .val (.int (Int32.ofNat o)), .val (.int (Int32.ofNat len)), .val .null, .val (.ref s.heap.size)] [.int 0, .ref a])) := g11
  obtain ⟨T13, X13, p13, bl13, sl13, st13⟩ := X11.finit hexec hown (wk W (.fieldLink "java/lang/String" 15 "java/lang/String" "coder" "B")) (Or.inr ⟨_, (wk W (.laysFinal "java/lang/String" "java/lang/String" "coder" "B"))⟩) (Or.inl ⟨rfl, hnm⟩) f2 (Or.inl rfl) hB11 (t := .byte) (by decide +kernel) rfl (g := (mkF m 48 #[.val (.ref a), .val (.ref b), .val (.int (Int32.ofNat o)), .val (.int (Int32.ofNat len)), .val .null, .val (.ref s.heap.size)] [.int 0, .ref a])) rfl (rest := []) rfl (hb hbytes d48)
  have c14 : Steps p.tables e below (s₁.setTop (entryFrame m #[.ref a, .ref b, .int (Int32.ofNat o), .int (Int32.ofNat len), .null] 6)) (T13.setTop (mkF m 54 #[.val (.ref a), .val (.ref b), .val (.int (Int32.ofNat o)), .val (.int (Int32.ofNat len)), .val .null, .val (.ref s.heap.size)] [.ref s.heap.size, .ref a])) := (c12.trans (st13 _ (Steps.refl _))).trans (by
    refine XS.aloadN X13.here hexec rfl (hb hbytes d51) rfl rfl ?_
    refine XS.aload X13.here hexec rfl (hb hbytes d52) rfl rfl ?_
    exact Steps.refl _)
  obtain ⟨T15, X15, p15, bl15, sl15, st15⟩ := X13.finit hexec hown (wk W (.fieldLink "java/lang/String" 9 "java/lang/String" "value" "[B")) (Or.inr ⟨_, (wk W (.laysFinal "java/lang/String" "java/lang/String" "value" "[B"))⟩) (Or.inl ⟨rfl, hnm⟩) f1 (Or.inl rfl) bl13 (t := (.array .byte)) (by decide +kernel) rfl (g := (mkF m 54 #[.val (.ref a), .val (.ref b), .val (.int (Int32.ofNat o)), .val (.int (Int32.ofNat len)), .val .null, .val (.ref s.heap.size)] [.ref s.heap.size, .ref a])) rfl (rest := []) rfl (hb hbytes d54)
  have c16 : Steps p.tables e below (s₁.setTop (entryFrame m #[.ref a, .ref b, .int (Int32.ofNat o), .int (Int32.ofNat len), .null] 6)) (T15.setTop (mkF m 57 #[.val (.ref a), .val (.ref b), .val (.int (Int32.ofNat o)), .val (.int (Int32.ofNat len)), .val .null, .val (.ref s.heap.size)] [])) := c14.trans (st15 _ (Steps.refl _))
  have ap := apart (Or.inr ⟨_, (wk W (.laysFinal "java/lang/String" "java/lang/String" "value" "[B"))⟩) (Or.inr ⟨_, (wk W (.laysFinal "java/lang/String" "java/lang/String" "coder" "B"))⟩) f1 f2 (t₁ := .array .byte) (t₂ := .byte) (by decide +kernel) (by decide +kernel) (by decide)
  have al := X8.warmed.alike.symm.trans X15.warmed.alike
  have n7 : T11.heap[s.heap.size]? = some N := by rw [q11]; exact n1.1
  exact ⟨T15, none, _, _, _, X15, by simp, rfl, by omega, (fun _ => rfl), ⟨rfl, _, N, bl15, ((Same.refl D _).set _ (by simp)).set _ (by simp), sl15, (Cell.slots_setSlot_ne _ ap).trans sl13, n1.keep al (p15.other hne (p13.other hne n7)), n2, by rw [al.findClass]; exact n3, n4, n5, fun y c h1 h2 => p15.other h1 (p13.other h1 (by rw [q11]; exact n6 y c h2)), by rw [p15.2.2, p13.2.2, q11]; exact z8⟩, fun fs hl => c16.trans (X15.returnOut hexec hret (hb hbytes d57) hl)⟩
end New4
namespace New1
def yN : MethodName := ⟨"java/lang/String", "<init>", "([C)V"⟩
abbrev yB : ByteArray := jdk_42_method_3_code
theorem d0 : decode yB 0 = .ok (.aload_n 0, 1) := by decide +kernel
theorem d1 : decode yB 1 = .ok (.aload_n 1, 1) := by decide +kernel
theorem d2 : decode yB 2 = .ok (.iconst 0, 1) := by decide +kernel
theorem d3 : decode yB 3 = .ok (.aload_n 1, 1) := by decide +kernel
theorem d4 : decode yB 4 = .ok (.arraylength, 1) := by decide +kernel
theorem d5 : decode yB 5 = .ok (.aconst_null, 1) := by decide +kernel
theorem d6 : decode yB 6 = .ok (.invokespecial 27, 3) := by decide +kernel
theorem d9 : decode yB 9 = .ok (.return_, 1) := by decide +kernel
def site : List Cond := [New4.tab] ++ initW "java/lang/String" 27 New4.yN
def tab : Cond := tabOf yN yB 2 none site
def P (a : Addr) (D : Cell) (fV fC : Field) (b : Addr) (A : Cell) (z : Int32) (args : Array Value) (s : State) : Prop := args = #[.ref a, .ref b] ∧ Blank "java/lang/String" a D s ∧ Found "java/lang/String" "value" "[B" fV s ∧ Found "java/lang/String" "coder" "B" fC s ∧ Ch b A s ∧ StaticIs s "java/lang/String" "COMPACT_STRINGS" "Z" (.int z) ∧ ¬ z = 0 ∧ 0 < A.slots.size ∧ A.slots.size ≤ 536870912 ∧ ∀ i, i < A.slots.size → ¬ 255 < cv A i
def E (a : Addr) (D : Cell) (fV fC : Field) (A : Cell) (r : Option Value) (s u : State) : Prop := Got a D fV fC A 0 A.slots.size r s u
/-- new String(chars), not empty, no char above 255: a Latin-1 String of their low bytes -/
theorem law (l : Launch) (a : Addr) (D : Cell) (fV fC : Field) (b : Addr) (A : Cell) (z : Int32) : Law l yN 2 1 3 52 yB 2 none site (P a D fV fC b A z) (E a D fV fC A) [⟨a, fC.slot⟩, ⟨a, fV.slot⟩] 1 A.slots.size := by
  refine Law.of_walk (plainFor_of_name (by decide +kernel)) (by decide +kernel) (by decide +kernel) (by decide) (fun _ _ h => by rw [h.1]; rfl) (fun _ U U' hal hh h => ⟨h.1, h.2.1.mv hal hh, h.2.2.1.al hal, h.2.2.2.1.al hal, h.2.2.2.2.1.mv hal hh, h.2.2.2.2.2.1.there hal hh, h.2.2.2.2.2.2⟩) (fun r U U' V V' h1 hal h2 h => Got.mv r U U' V V' h1 hal h2 h) ?_
  intro p e s m args below meth c s₁ X0 hexec hbytes hml hret hlk hnm hown hh0 W hP
  obtain ⟨rfl, hB, f1, f2, hA, s1, hz, l0, l2, hp⟩ := hP
  have c1 : Steps p.tables e below (s₁.setTop (entryFrame m #[.ref a, .ref b] 2)) (s₁.setTop (mkF m 0 #[.val (.ref a), .val (.ref b)] [])) := entry rfl
  have c2 : Steps p.tables e below (s₁.setTop (entryFrame m #[.ref a, .ref b] 2)) (s₁.setTop (mkF m 6 #[.val (.ref a), .val (.ref b)] [.null, .int (Int32.ofNat A.slots.size), .int 0, .ref b, .ref a])) := c1.trans (by
    refine XS.aloadN X0.here hexec rfl (hb hbytes d0) rfl rfl ?_
    refine XS.aloadN X0.here hexec rfl (hb hbytes d1) rfl rfl ?_
    refine iconstV X0.here hexec rfl 0 (hb hbytes d2) (by decide) ?_
    refine XS.aloadN X0.here hexec rfl (hb hbytes d3) rfl rfl ?_
    refine X0.alen hexec (hA.1.mv X0.warmed.alike hh0) rfl rfl (hb hbytes d4) ?_
    refine XS.aconstNull X0.here hexec rfl (hb hbytes d5) ?_
    exact Steps.refl _)
  obtain ⟨v3, T3, X3, E3, g3⟩ := X0.callN hexec (New4.law l a D fV fC b A z 0 A.slots.size) rfl hown (wks W (initW "java/lang/String" 27 New4.yN)) (W New4.tab (by simp only [site, List.mem_cons, List.mem_append, true_or, or_true])) (W := 0) (Nat.le_of_ble_eq_true rfl) (Nat.le_of_ble_eq_true rfl) (Nat.le_refl _) (by show 0 + A.slots.size ≤ A.slots.size; omega) (g := (mkF m 6 #[.val (.ref a), .val (.ref b)] [.null, .int (Int32.ofNat A.slots.size), .int (Int32.ofNat 0), .ref b, .ref a])) rfl (by rw [hml]; rfl) c2 (argsL := [.ref b, .int (Int32.ofNat 0), .int (Int32.ofNat A.slots.size), .null]) (rest := []) rfl rfl (by show 2 * 0 + 0 ≤ _; decide) (hb hbytes d6) (⟨rfl, hB.mv X0.warmed.alike hh0, f1.al X0.warmed.alike, f2.al X0.warmed.alike, hA.mv X0.warmed.alike hh0, s1.there X0.warmed.alike hh0, hz, l0, by omega, l2, fun i hi => by rw [Nat.zero_add]; exact hp i hi⟩)
  have e0 := Got.mv _ s₁ s _ _ hh0.symm (Vm.Alike.refl _) rfl E3
  obtain rfl := e0.1
  have c4 : Steps p.tables e below (s₁.setTop (entryFrame m #[.ref a, .ref b] 2)) (T3.setTop (mkF m 9 #[.val (.ref a), .val (.ref b)] [])) := g3
  exact ⟨T3, none, _, _, _, X3, by simp, rfl, by omega, (fun _ => rfl), e0, fun fs hl => c4.trans (X3.returnOut hexec hret (hb hbytes d9) hl)⟩
theorem pays {l : Launch} {R : Room} {p : Program} {e : Env} {below : List Frame} {s : State} {sargs : Array Value} {len W : Nat} (a : Addr) (D : Cell) (fV fC : Field) (b : Addr) (A : Cell) (z : Int32) (htab : tab.before sargs s = true) (hfr : 4 ≤ R.frames) (hlo : W + 65 ≤ R.locals) :
    Back l R p e below s sargs yN len W (fun A₁ a₁ => A₁.cells + 1 ≤ R.cells ∧ A₁.slots + A.slots.size ≤ R.slots ∧ P a D fV fC b A z a₁ A₁.U) (fun A₁ _ v₁ B₁ => E a D fV fC A v₁ A₁.U B₁.U ∧ B₁.locs = A₁.locs ++ [⟨a, fC.slot⟩, ⟨a, fV.slot⟩] ∧ B₁.cells = A₁.cells + 1 ∧ B₁.slots = A₁.slots + A.slots.size) :=
  (law l a D fV fC b A z).pays htab hfr (by omega)
end New1
end StrChars
namespace StrChars.Road
open Jvm Sem ClassFile Op Lib Jvm.Stand Jvm.Free Jvm.Free.XT
open Jvm.Lib.Cold (StaticIs)
abbrev ST : String := "java/lang/String"
/-- every table word that New1's law asks, flat -/
abbrev words : List Jvm.Cond := [.code New1.yN New1.yB 2 none, .initialized ST, .methodLink ST 27 New4.yN, .instanceMethod New4.yN,
  .code New4.yN New4.yB 6 none, .fieldLink ST 38 ST "COMPACT_STRINGS" "Z", .laysFinal ST ST "value" "[B", .fieldLink ST 9 ST "value" "[B", .laysFinal ST ST "coder" "B", .fieldLink ST 15 ST "coder" "B",
  .methodLink ST 1 Lib.objectInit, .instanceMethod Lib.objectInit, .code Lib.objectInit ⟨#[0xb1]⟩ 1 none, .methodLink ST 177 Cmp3.yN, .static Cmp3.yN, .methodLink ST 47 CodL.yN, .static CodL.yN,
  .code Cmp3.yN Cmp3.yB 6 (some (.array .byte)), .initialized U16, .arrayClass .byte, .methodLink U16 115 Cmp5.yN, .static Cmp5.yN, .code Cmp5.yN Cmp5.yB 7 (some .int), .code CodL.yN CodL.yB 2 (some .byte)]
theorem tab_of {a : Array Value} {s : State} (h : ∀ w ∈ words, w.before a s = true) : New1.tab.before a s = true := by
  have h5 : Cmp5.tab.before a s = true := unparts (wk h (.code Cmp5.yN Cmp5.yB 7 (some .int))) (wks h (.initialized Cmp5.yN.cls :: Cmp5.site))
  have hc : CodL.tab.before a s = true := unparts (wk h (.code CodL.yN CodL.yB 2 (some .byte))) (wks h (.initialized CodL.yN.cls :: CodL.site))
  have q5 : ∀ w ∈ Cmp5.tab :: words, w.before a s = true := fun w hw => (List.mem_cons.mp hw).elim (fun e => e ▸ h5) (h w)
  have h3 : Cmp3.tab.before a s = true := unparts (wk q5 (.code Cmp3.yN Cmp3.yB 6 (some (.array .byte)))) (wks q5 (.initialized Cmp3.yN.cls :: Cmp3.site))
  have q3 : ∀ w ∈ Cmp3.tab :: CodL.tab :: words, w.before a s = true := fun w hw => (List.mem_cons.mp hw).elim (fun e => e ▸ h3) fun hw => (List.mem_cons.mp hw).elim (fun e => e ▸ hc) (h w)
  have h4 : New4.tab.before a s = true := unparts (wk q3 (.code New4.yN New4.yB 6 none)) (wks q3 (.initialized New4.yN.cls :: New4.site))
  have q4 : ∀ w ∈ New4.tab :: words, w.before a s = true := fun w hw => (List.mem_cons.mp hw).elim (fun e => e ▸ h4) (h w)
  exact unparts (wk q4 (.code New1.yN New1.yB 2 none)) (wks q4 (.initialized New1.yN.cls :: New1.site))
/-- the words ride from the start Z to the walk's own state -/
theorem moved {Z s : State} {a0 args : Array Value} (hZ : Z.Warmed39 s.vm) (hw : ∀ d ∈ words, d.before a0 Z = true) : ∀ d ∈ words, d.before args s = true := fun d hd => by
  have q := hw d hd
  have t : ∀ d ∈ words, d = .arrayClass .byte ∨ (d.onTables && d.keepsFace) = true := by decide +kernel
  rcases t d hd with rfl | t
  · exact RoadKit.mvA hZ q
  · exact RoadKit.mv hZ q t
/-- WHAT COMES BACK, over the tables of the start Z: h the heap at the call, h' behind it -/
def Q (Z : State) (x : Addr) (A : Cell) (h : Heap) (v : Option Value) (h' : Heap) (L : List Loc) : Prop := v = none ∧ (∀ y ∈ L, y.base = x) ∧ RoadKit.Keep h h' [x] ∧ h'.size = h.size + 1 ∧ RoadKit.Exa Z h' x ST ∧ RoadKit.Fld Z h' x ST "value" "[B" (.ref h.size) ∧ RoadKit.Fld Z h' x ST "coder" "B" (.int 0) ∧
  (∃ V : Cell, RoadKit.Arr Z h' h.size V .byte ∧ V.vm = .none ∧ Z.vm.findClass "[B" = some V.cls ∧ V.slots.size = A.slots.size ∧ ∀ j, j < A.slots.size → V.slots[j]? = some (.int (lo8 (cv A j)))) ∧
  ∀ (O n d : String) (w : Value), RoadKit.Fld Z h x O n d w → RoadKit.slotOf Z O n d ≠ RoadKit.slotOf Z ST "value" "[B" → RoadKit.slotOf Z O n d ≠ RoadKit.slotOf Z ST "coder" "B" → RoadKit.Fld Z h' x O n d w
/-- **new String(chars) AT A CALL, IN THE ROAD'S FORM**: for specialBack behind newO: x the fresh String, b the char[] with the cell A -/
theorem back {p : Program} {l : Launch} {e : Env} {R : Room} {s : State} {args : Array Value} {below : List Frame} {len W : Nat} {Z : State} {a0 : Array Value} {h : Heap} (hZ : Z.Warmed39 s.vm) (hw : ∀ d ∈ words, d.before a0 Z = true) {kI : Nat} (wi : (Jvm.Cond.instantiable ST kI).before a0 Z = true)
    {x b : Addr} {A : Cell} {z : Int32} {v0 c0 : Value} (E : RoadKit.Exa Z h x ST) (V : RoadKit.Fld Z h x ST "value" "[B" v0) (C : RoadKit.Fld Z h x ST "coder" "B" c0) (K : RoadKit.Arr Z h b A .char) (hty : Typed .char A) (S : RoadKit.Sta Z h ST "COMPACT_STRINGS" "Z" (.int z)) (hz : ¬ z = 0)
    (l0 : 0 < A.slots.size) (l2 : A.slots.size ≤ 536870912) (hp : ∀ i, i < A.slots.size → ¬ 255 < cv A i) (hfr : 4 ≤ R.frames) (hlo : W + 65 ≤ R.locals) :
    Back l R p e below s args New1.yN len W (fun P a => a = #[.ref x, .ref b] ∧ P.U.heap = h ∧ P.cells + 1 ≤ R.cells ∧ P.slots + A.slots.size ≤ R.slots)
      (fun P _ v B => ∃ L, Q Z x A h v B.U.heap L ∧ B.locs = P.locs ++ L ∧ B.cells = P.cells + 1 ∧ B.slots = P.slots + A.slots.size) := by
  intro m meth c P g ig mk a X hg hsize hdg hW hn hp'
  obtain ⟨rfl, rfl, r1, r2⟩ := hp'
  have al : Z.vm.Alike P.U.vm := hZ.alike.trans X.warmed.alike
  obtain ⟨D, cfV, kV, iV, fV, hD, gV, stV, knV, obV, asV, slV⟩ := id V
  obtain ⟨D', cfC, kC, iC, fC, hD', gC, stC, -, -, asC, slC⟩ := id C
  cases hD.symm.trans hD'
  obtain ⟨D2, kD, e1, e2, e3, e4, e5⟩ := id E
  cases hD.symm.trans e1
  obtain ⟨c2, k2, i1, i2, i3, -⟩ := Cond.instantiable_spec wi
  cases e2.symm.trans i1
  cases e3.symm.trans i2
  obtain ⟨kU, u1, u2⟩ := al.2.2 _ _ e3
  have hB : Blank ST x D P.U := ⟨hD, ⟨knV, fun q hq => by rw [hq] at obV; cases obV⟩, by rw [al.findClass]; exact e2, kU, u1, by rw [u2]; exact i3, by rw [u2]; exact e5 i3⟩
  have F1 : Found ST "value" "[B" fV P.U := ⟨SBG.found_only al ⟨cfV, kV, iV, gV⟩, stV⟩
  have F2 : Found ST "coder" "B" fC P.U := ⟨SBG.found_only al ⟨cfC, kC, iC, gC⟩, stC⟩
  have hA : Ch b A P.U := ⟨⟨K.1, State.isArrayOf_alike al K.2.1, K.2.2, by omega⟩, hty⟩
  have hS : StaticIs P.U ST "COMPACT_STRINGS" "Z" (.int z) := by
    obtain ⟨cfS, iS, kS, fS, st, cS, t1, t2, t3, t4, t5, t6, t7⟩ := S
    exact StaticIs.there (s := { Z with heap := P.U.heap }) ⟨cfS, iS, kS, fS, st, cS, t1, t2, t3, t4, t5, (fun q => by rw [q] at t6; cases t6), t7⟩ al rfl
  obtain ⟨v, B, X', ⟨⟨hv, E', V', q1, q2, q3, q4, q5, q6, q7, q8, q9, q10, q11⟩, hl, hc, hs⟩, st⟩ := New1.pays x D fV fC b A z (tab_of (moved hZ hw)) hfr hlo m meth c P g ig mk _ X hg hsize hdg hW hn ⟨r1, r2, rfl, hB, F1, F2, hA, hS, hz, l0, l2, hp⟩
  have al' : Z.vm.Alike B.U.vm := hZ.alike.trans X'.warmed.alike
  have hsz : E'.slots.size = D.slots.size := by
    obtain ⟨-, -, -, kB, w1, w2, w3⟩ := q1
    obtain ⟨kB', y1, y2⟩ := al'.2.2 _ _ e3
    rw [q2.2.1] at w1
    cases w1.symm.trans y1
    rw [w3, e5 i3, y2]
  refine ⟨v, B, X', ⟨_, ⟨hv, ?_, ⟨by omega, fun y cy hy hn' => q10 y cy (by simpa using hn') hy, fun y cy hy => ?_⟩, q11, ⟨E', _, q1.1, by rw [q2.2.1]; exact e2, by rw [q2.2.1]; exact e3, by rw [q2.1]; exact obV, fun _ => by rw [hsz]; exact e5 i3⟩,
    ⟨E', cfV, kV, iV, fV, q1.1, gV, stV, by rw [q2.1]; exact knV, by rw [q2.1]; exact obV, by rw [q2.2.1]; exact asV, q3⟩, ⟨E', cfC, kC, iC, fC, q1.1, gC, stC, by rw [q2.1]; exact knV, by rw [q2.1]; exact obV, by rw [q2.2.1]; exact asC, q4⟩,
    ⟨V', ⟨q5.1, State.isArrayOf_alike al'.symm q5.2.1, q5.2.2.1⟩, q6, by rw [← al'.findClass]; exact q7, q8, fun j hj => by have := q9 j hj; rwa [Nat.zero_add] at this⟩, fun O n d w F n1 n2 => ?_⟩, hl, hc, hs⟩, st⟩
  · intro y hy
    simp only [List.mem_cons, List.not_mem_nil, or_false] at hy
    rcases hy with rfl | rfl <;> rfl
  · by_cases q : y = x
    · subst q
      cases hD.symm.trans hy
      exact ⟨E', q1.1, q2.2.1, q2.1, hsz⟩
    · exact ⟨cy, q10 y cy q hy, rfl, rfl, rfl⟩
  · obtain ⟨D3, cf, k, i, f, g1, g2, g3, g4, g5, g6, g7⟩ := F
    cases hD.symm.trans g1
    simp only [RoadKit.slotOf, g2, gV, gC, Option.map_some, Option.getD_some] at n1 n2
    exact ⟨E', cf, k, i, f, q1.1, g2, g3, by rw [q2.1]; exact g4, by rw [q2.1]; exact g5, by rw [q2.2.1]; exact g6, by rw [q2.2.2 f.slot (by simp [n1, n2])]; exact g7⟩
end StrChars.Road
namespace StrChars.Road
open Jvm Sem ClassFile Op Lib Jvm.Stand Jvm.Free Jvm.Free.XT
/-- WHAT COMES BACK, the byte[] as a list of values -/
def QA (Z : State) (x : Addr) (zn : Int32) (cs : List Int32) (h : Heap) (v : Option Value) (h' : Heap) (L : List Loc) : Prop := v = none ∧ (∀ y ∈ L, y.base = x) ∧ RoadKit.Keep h h' [x] ∧ h'.size = h.size + 1 ∧ RoadKit.Exa Z h' x ST ∧ RoadKit.Fld Z h' x ST "value" "[B" (.ref h.size) ∧ RoadKit.Fld Z h' x ST "coder" "B" (.int 0) ∧
  (∃ kb, Z.vm.findClass "[B" = some kb ∧ RoadKit.Arv Z h' h.size kb .byte zn (cs.map fun c => .int (lo8 c)) (.int 0)) ∧
  ∀ (O n d : String) (w : Value), RoadKit.Fld Z h x O n d w → RoadKit.slotOf Z O n d ≠ RoadKit.slotOf Z ST "value" "[B" → RoadKit.slotOf Z O n d ≠ RoadKit.slotOf Z ST "coder" "B" → RoadKit.Fld Z h' x O n d w
/-- **new String(chars) AT A CALL, THE ARRAYS AS LISTS**: the char[] at b holds cs, not empty, no char above 255 -/
theorem backArv {p : Program} {l : Launch} {e : Env} {R : Room} {s : State} {args : Array Value} {below : List Frame} {len W : Nat} {Z : State} {a0 : Array Value} {h : Heap} (hZ : Z.Warmed39 s.vm) (hw : ∀ d ∈ words, d.before a0 Z = true) {kI : Nat} (wi : (Jvm.Cond.instantiable ST kI).before a0 Z = true)
    {x b : Addr} {k : ClassId} {zn z : Int32} {cs : List Int32} {dv v0 c0 : Value} (E : RoadKit.Exa Z h x ST) (V : RoadKit.Fld Z h x ST "value" "[B" v0) (C : RoadKit.Fld Z h x ST "coder" "B" c0) (K : RoadKit.Arv Z h b k .char zn (cs.map Value.int) dv) (S : RoadKit.Sta Z h ST "COMPACT_STRINGS" "Z" (.int z)) (hz : ¬ z = 0)
    (hlen : zn.toNatClampNeg = cs.length) (h0 : 0 < cs.length) (hbig : cs.length ≤ 536870912) (hall : ∀ c ∈ cs, ¬ 255 < c) (hfr : 4 ≤ R.frames) (hlo : W + 65 ≤ R.locals) :
    Back l R p e below s args New1.yN len W (fun P a => a = #[.ref x, .ref b] ∧ P.U.heap = h ∧ P.cells + 1 ≤ R.cells ∧ P.slots + cs.length ≤ R.slots)
      (fun P _ v B => ∃ L, QA Z x zn cs h v B.U.heap L ∧ B.locs = P.locs ++ L ∧ B.cells = P.cells + 1 ∧ B.slots = P.slots + cs.length) := by
  obtain ⟨A, K1, K2, K3, K4, K5, K6⟩ := K
  have e : A.slots.size = cs.length := K3.trans hlen
  have hat : ∀ (i : Nat) (hi : i < cs.length), A.slots[i]? = some (.int cs[i]) := fun i hi => by rw [K5 i (by omega)]; simp [List.getD_eq_getElem?_getD, hi]
  have hcv : ∀ (i : Nat) (hi : i < cs.length), cv A i = cs[i] := fun i hi => by unfold cv; rw [hat i hi]
  have hty : Typed .char A := fun i v hv => by
    have hi : i < A.slots.size := (Array.getElem?_eq_some_iff.mp hv).1
    have q := K5 i hi
    rw [hv] at q
    rw [Option.some.inj q]
    exact K6 i hi
  refine Back.mono (back hZ hw wi E V C K1 hty S hz (by omega) (by omega) (fun i hi => by rw [hcv i (by omega)]; exact hall _ (List.getElem_mem _)) hfr hlo) (fun P a hp => ⟨hp.1, hp.2.1, hp.2.2.1, by rw [e]; exact hp.2.2.2⟩) (fun P a v B hp hq => ?_)
  obtain ⟨L, ⟨q1, q2, q3, q4, q5, q6, q7, ⟨V', v1, v2, v3, v4, v5⟩, q9⟩, hl, hc, hs⟩ := hq
  refine ⟨L, ⟨q1, q2, q3, q4, q5, q6, q7, ⟨V'.cls, v3, V', v1, rfl, by rw [v4, e, hlen], K4, fun i hi => ?_, fun i hi => ?_⟩, q9⟩, hl, hc, by rw [hs, e]⟩
  · have hi' : i < cs.length := by omega
    rw [v5 i (by omega), hcv i hi']; simp [List.getD_eq_getElem?_getD, hi']
  · have hi' : i < cs.length := by omega
    simp only [List.getD_eq_getElem?_getD, List.getElem?_map, List.getElem?_eq_getElem hi', Option.map_some, Option.getD_some]
    exact fits_lo8 _
end StrChars.Road
namespace StrChars.Road
open Jvm Sem ClassFile Op Lib Jvm.Stand Jvm.Free Jvm.Free.XT
/-- WHAT COMES BACK, in the writer's own shape -/
def QV (Z : State) (x : Addr) (N : Int32) (bs : List Int32) (h : Heap) (n0 : Nat) (v : Option Value) (h' : Heap) (L : List Loc) : Prop := v = none ∧ RoadKit.Fr n0 L ∧ RoadKit.Keep h h' [x] ∧ RoadKit.Exa Z h' x ST ∧ RoadKit.Fld Z h' x ST "coder" "B" (.int 0) ∧
  ∃ (t : Addr) (kb : ClassId), n0 ≤ t ∧ h.size ≤ t ∧ ¬ t = x ∧ RoadKit.Fld Z h' x ST "value" "[B" (.ref t) ∧ RoadKit.Arv Z h' t kb .byte N (bs.map Value.int) (.int 0)
/-- **new String(chars) AT A CALL, FOR THE WRITER**: a char[] of n known ints, each 0 to 255 -/
theorem backV {p : Program} {l : Launch} {e : Env} {R : Room} {s : State} {args : Array Value} {below : List Frame} {len W : Nat} {Z : State} {a0 : Array Value} {h : Heap} (hZ : Z.Warmed39 s.vm) (hw : ∀ d ∈ words, d.before a0 Z = true) {kI : Nat} (wi : (Jvm.Cond.instantiable ST kI).before a0 Z = true)
    {x b : Addr} {kC : ClassId} {cs bs : List Int32} {d v0 c0 : Value} {z N : Int32} {n n0 : Nat} (hx0 : n0 ≤ x) (hh0 : n0 ≤ h.size) (E : RoadKit.Exa Z h x ST) (V : RoadKit.Fld Z h x ST "value" "[B" v0) (C : RoadKit.Fld Z h x ST "coder" "B" c0) (K : RoadKit.Arv Z h b kC .char N (cs.map Value.int) d) (S : RoadKit.Sta Z h ST "COMPACT_STRINGS" "Z" (.int z)) (hz : ¬ z = 0)
    (hn : cs.length = n) (hN : N = Int32.ofNat n) (l0 : 0 < n) (l2 : n ≤ 4000) (hp : ∀ c ∈ cs, ¬ c < 0 ∧ ¬ (255 : Int32) < c) (hb : bs = cs.map (fun c => c.toInt8.toInt32)) (hfr : 4 ≤ R.frames) (hlo : W + 65 ≤ R.locals) :
    Back l R p e below s args (⟨"java/lang/String", "<init>", "([C)V"⟩ : MethodName) len W (fun P a => a = #[.ref x, .ref b] ∧ P.U.heap = h ∧ P.cells + 1 ≤ R.cells ∧ P.slots + n ≤ R.slots)
      (fun P _ v B => ∃ L, QV Z x N bs h n0 v B.U.heap L ∧ B.locs = P.locs ++ L ∧ B.cells = P.cells + 1 ∧ B.slots = P.slots + n) := by
  subst hn hN hb
  refine Back.mono (backArv hZ hw wi E V C K S hz (n32 (by omega)) l0 (by omega) (fun c hc => (hp c hc).2) hfr hlo) (fun P a hp => hp) (fun P a v B hp hq => ?_)
  obtain ⟨L, ⟨q1, q2, q3, q4, q5, q6, q7, ⟨kb, v1, v2⟩, q9⟩, hl, hc, hs⟩ := hq
  exact ⟨L, ⟨q1, fun y hy => by rw [q2 y hy]; exact hx0, q3, q5, q7, h.size, kb, hh0, Nat.le_refl _, Nat.ne_of_gt E.lt, q6, by rw [List.map_map]; exact v2⟩, hl, hc, hs⟩
end StrChars.Road
namespace StrChars
open Jvm Sem ClassFile Op Lib Jvm.Stand Jvm.Free.XT Jvm.Free.ALB Jvm.Free.JM Jvm.Free
open Jvm.Lib.Cold (StaticIs)
def hi8 (x : Int32) : Int32 := lo8 (x >>> ((8 : Int32) &&& 31))
/-- what StringUTF16.getChar makes of two bytes -/
def pairCh (u v : Int32) : Int32 := (((u &&& 255) <<< ((0 : Int32) &&& 31)) ||| ((v &&& 255) <<< ((8 : Int32) &&& 31))).toUInt32.toUInt16.toUInt32.toInt32
theorem shr0 (c : Int32) : c >>> ((0 : Int32) &&& 31) = c := by
  have e : ((0 : Int32) &&& 31) = 0 := by decide
  rw [e]
  apply Int32.toBitVec_inj.mp
  rw [Int32.toBitVec_shiftRight]
  have e1 : ((0 : Int32).toBitVec.smod 32) = 0#32 := by decide
  rw [e1, BitVec.sshiftRight_eq']
  exact BitVec.sshiftRight_zero
theorem lo8_and (x : Int32) : (lo8 x &&& 255).toBitVec.toNat = x.toBitVec.toNat % 256 := by
  have h : (lo8 x).toBitVec = (x.toBitVec.signExtend 8).signExtend 32 := by rw [lo8, Int8.toBitVec_toInt32, Int32.toBitVec_toInt8]
  rw [Int32.toBitVec_and, BitVec.toNat_and, h]
  have e : ((x.toBitVec.signExtend 8).signExtend 32).toNat % 256 = x.toBitVec.toNat % 256 := by
    rw [BitVec.toNat_signExtend]
    have hlt := x.toBitVec.isLt
    simp only [BitVec.toNat_setWidth, BitVec.toNat_signExtend]
    split <;> split <;> omega
  rw [← e]
  exact Nat.and_two_pow_sub_one_eq_mod _ 8
theorem pair_says {c : Int32} (h0 : ¬ c < 0) (h1 : ¬ 65535 < c) : pairCh (lo8 c) (hi8 c) = c := by
  rw [Int32.lt_iff_toInt_lt] at h0 h1
  have e0 : (0 : Int32).toInt = 0 := rfl
  have e1 : (65535 : Int32).toInt = 65535 := rfl
  have hc : c.toInt = c.toBitVec.toNat := by
    have := c.toBitVec.isLt
    have e : c.toInt = c.toBitVec.toInt := rfl
    rw [e] at h0 h1
    rw [e]
    rw [BitVec.toInt_eq_toNat_cond] at h0 h1 ⊢
    split at h0 <;> split <;> omega
  have hn : c.toBitVec.toNat < 65536 := by omega
  have a1 := lo8_and c
  have a2 : (hi8 c &&& 255).toBitVec.toNat = c.toBitVec.toNat / 256 := by
    rw [hi8, lo8_and]
    have e : ((8 : Int32) &&& 31) = 8 := by decide
    rw [e, Int32.toBitVec_shiftRight]
    have e2 : ((8 : Int32).toBitVec.smod 32) = 8#32 := by decide
    rw [e2, BitVec.sshiftRight_eq', BitVec.toNat_sshiftRight_of_msb_false (by rw [BitVec.msb_eq_false_iff_two_mul_lt]; omega)]
    show c.toBitVec.toNat >>> 8 % 256 = _
    rw [Nat.shiftRight_eq_div_pow]
    omega
  unfold pairCh
  apply Int32.toBitVec_inj.mp
  apply BitVec.eq_of_toNat_eq
  have f0 : ((0 : Int32) &&& 31) = 0 := by decide
  have f8 : ((8 : Int32) &&& 31) = 8 := by decide
  rw [f0, f8]
  have g : (((lo8 c &&& 255) <<< (0 : Int32)) ||| ((hi8 c &&& 255) <<< (8 : Int32))).toBitVec.toNat = c.toBitVec.toNat := by
    rw [Int32.toBitVec_or, Int32.toBitVec_shiftLeft, Int32.toBitVec_shiftLeft]
    have s0 : ((0 : Int32).toBitVec.smod 32) = 0#32 := by decide
    have s8 : ((8 : Int32).toBitVec.smod 32) = 8#32 := by decide
    rw [s0, s8, BitVec.toNat_or]
    simp only [BitVec.shiftLeft_eq', BitVec.toNat_shiftLeft, a1, a2]
    show (c.toBitVec.toNat % 256) <<< 0 % 2 ^ 32 ||| (c.toBitVec.toNat / 256) <<< 8 % 2 ^ 32 = _
    rw [Nat.shiftLeft_zero, Nat.mod_eq_of_lt (show c.toBitVec.toNat % 256 < 2 ^ 32 by omega), Nat.mod_eq_of_lt (show (c.toBitVec.toNat / 256) <<< 8 < 2 ^ 32 by rw [Nat.shiftLeft_eq]; omega), Nat.or_comm, ← Nat.shiftLeft_add_eq_or_of_lt (by omega), Nat.shiftLeft_eq]
    omega
  show BitVec.toNat (((((lo8 c &&& 255) <<< (0 : Int32)) ||| ((hi8 c &&& 255) <<< (8 : Int32))).toBitVec.setWidth 16).setWidth 32) = _
  rw [BitVec.toNat_setWidth, BitVec.toNat_setWidth, g]
  omega
end StrChars
end Jvm.Pilot.@@N@@

namespace Jvm.Pilot.@@N@@
open Jvm Jvm.ClassFile Sem Op Lib Jvm.Free Jvm.Stand Jvm.LawKit Jvm.RoadKit Bundle Jvm.Pilot.@@N@@.Jvm.D
set_option maxRecDepth 65536
set_option maxHeartbeats 40000000
abbrev mN0 : MethodName := ⟨"java/lang/String", "coder", "()B"⟩
abbrev mN1 : MethodName := ⟨"java/lang/String", "length", "()I"⟩
abbrev mN2 : MethodName := ⟨"java/lang/AbstractStringBuilder", "getValue", "()[B"⟩
abbrev mN3 : MethodName := ⟨"java/lang/AbstractStringBuilder", "length", "()I"⟩
abbrev mN4 : MethodName := ⟨"java/lang/StringBuilder", "length", "()I"⟩
abbrev mN5 : MethodName := ⟨"java/lang/AbstractStringBuilder", "ensureCapacityInternal", "(I)V"⟩
abbrev mN6 : MethodName := ⟨"java/lang/String", "isLatin1", "()Z"⟩
abbrev mN7 : MethodName := ⟨"java/lang/AbstractStringBuilder", "isLatin1", "()Z"⟩
abbrev mN8 : MethodName := ⟨"java/lang/Math", "max", "(II)I"⟩
abbrev mN9 : MethodName := ⟨"java/lang/Math", "min", "(II)I"⟩
abbrev mN10 : MethodName := ⟨"jdk/internal/util/ArraysSupport", "newLength", "(III)I"⟩
abbrev mN11 : MethodName := ⟨"java/lang/AbstractStringBuilder", "newCapacity", "(I)I"⟩
abbrev mN12 : MethodName := ⟨"java/util/Arrays", "copyOf", "([BI)[B"⟩
abbrev mN13 : MethodName := ⟨"java/lang/StringUTF16", "length", "([B)I"⟩
abbrev mN14 : MethodName := ⟨"java/lang/StringUTF16", "putChar", "([BII)V"⟩
abbrev mN15 : MethodName := ⟨"java/lang/StringUTF16", "getChar", "([BI)C"⟩
abbrev mN16 : MethodName := ⟨"java/lang/StringUTF16", "newBytesLength", "(I)I"⟩
abbrev mN17 : MethodName := ⟨"java/lang/StringUTF16", "newBytesFor", "(I)[B"⟩
abbrev mN18 : MethodName := ⟨"jdk/internal/util/Preconditions", "checkIndex", "(IILjava/util/function/BiFunction;)I"⟩
abbrev mN19 : MethodName := ⟨"java/lang/String", "checkIndex", "(II)V"⟩
abbrev mN20 : MethodName := ⟨"jdk/internal/util/Preconditions", "checkFromIndexSize", "(IIILjava/util/function/BiFunction;)I"⟩
abbrev mN21 : MethodName := ⟨"java/lang/String", "checkBoundsOffCount", "(III)I"⟩
abbrev mN22 : MethodName := ⟨"java/lang/StringUTF16", "checkBoundsOffCount", "(II[B)V"⟩
abbrev mN23 : MethodName := ⟨"java/lang/StringUTF16", "checkIndex", "(I[B)V"⟩
abbrev mN24 : MethodName := ⟨"java/lang/StringUTF16", "charAt", "([BI)C"⟩
abbrev mN25 : MethodName := ⟨"java/lang/StringLatin1", "charAt", "([BI)C"⟩
abbrev mN26 : MethodName := ⟨"java/lang/String", "charAt", "(I)C"⟩
abbrev mN27 : MethodName := ⟨"java/lang/StringUTF16", "inflate", "([BI[BII)V"⟩
abbrev mN28 : MethodName := ⟨"java/lang/StringLatin1", "inflate", "([BI[BII)V"⟩
abbrev mN29 : MethodName := ⟨"java/lang/String", "getBytes", "([BIB)V"⟩
abbrev mN30 : MethodName := ⟨"java/lang/AbstractStringBuilder", "inflateIfNeededFor", "(Ljava/lang/String;)V"⟩
abbrev mN31 : MethodName := ⟨"java/lang/AbstractStringBuilder", "inflate", "()V"⟩
abbrev mN32 : MethodName := ⟨"java/lang/AbstractStringBuilder", "putStringAt", "(ILjava/lang/String;)V"⟩
abbrev mN33 : MethodName := ⟨"java/lang/AbstractStringBuilder", "append", "(Ljava/lang/String;)Ljava/lang/AbstractStringBuilder;"⟩
abbrev mN34 : MethodName := ⟨"java/lang/StringBuilder", "append", "(Ljava/lang/String;)Ljava/lang/StringBuilder;"⟩
abbrev mN35 : MethodName := ⟨"java/lang/AbstractStringBuilder", "<init>", "(I)V"⟩
abbrev mN36 : MethodName := ⟨"java/lang/StringBuilder", "<init>", "()V"⟩
abbrev mN37 : MethodName := ⟨"java/util/Arrays", "checkLength", "(II)V"⟩
abbrev mN38 : MethodName := ⟨"java/util/Arrays", "copyOfRangeByte", "([BII)[B"⟩
abbrev mN39 : MethodName := ⟨"java/util/Arrays", "copyOfRange", "([BII)[B"⟩
abbrev mN40 : MethodName := ⟨"java/lang/String", "<init>", "(Ljava/lang/AbstractStringBuilder;Ljava/lang/Void;)V"⟩
abbrev mN41 : MethodName := ⟨"java/lang/String", "<init>", "(Ljava/lang/StringBuilder;)V"⟩
abbrev mN42 : MethodName := ⟨"java/lang/StringBuilder", "toString", "()Ljava/lang/String;"⟩
abbrev mN43 : MethodName := ⟨"java/lang/StringUTF16", "compress", "([CI[BII)I"⟩
abbrev mN44 : MethodName := ⟨"java/lang/StringUTF16", "toBytes", "([CII)[B"⟩
abbrev mN45 : MethodName := ⟨"java/lang/StringUTF16", "compress", "([CII)[B"⟩
abbrev mN46 : MethodName := ⟨"java/lang/StringUTF16", "coderFromArrayLen", "([BI)B"⟩
abbrev mN47 : MethodName := ⟨"java/lang/String", "<init>", "([CIILjava/lang/Void;)V"⟩
abbrev mN48 : MethodName := ⟨"java/lang/String", "<init>", "([C)V"⟩
abbrev mN49 : MethodName := ⟨"java/lang/Throwable", "<init>", "(Ljava/lang/String;)V"⟩
abbrev mN50 : MethodName := ⟨"java/lang/Exception", "<init>", "(Ljava/lang/String;)V"⟩
abbrev mN51 : MethodName := ⟨"com/example/tidegauge/tidegauge/UsageException", "<init>", "(Ljava/lang/String;)V"⟩
abbrev mN52 : MethodName := ⟨"com/example/tidegauge/tidegauge/Options", "givenTwice", "(Ljava/lang/String;)Lcom/example/tidegauge/tidegauge/UsageException;"⟩
abbrev mN53 : MethodName := ⟨"com/example/tidegauge/tidegauge/OptionsGivenTwicePinLaw", "prefixOk", "(Ljava/lang/String;)Z"⟩
abbrev mN54 : MethodName := ⟨"com/example/tidegauge/tidegauge/OptionsGivenTwicePinLaw", "suffixOk", "(Ljava/lang/String;I)Z"⟩
abbrev mN55 : MethodName := ⟨"java/lang/Throwable", "getMessage", "()Ljava/lang/String;"⟩
abbrev mN56 : MethodName := ⟨"com/example/tidegauge/tidegauge/UsageException", "getMessage", "()Ljava/lang/String;"⟩
theorem pd_0 : parseMethodDescriptor "()B" = some ⟨[], some .byte⟩ := by decide +kernel
theorem pd_1 : parseMethodDescriptor "()I" = some ⟨[], some .int⟩ := by decide +kernel
theorem pd_2 : parseMethodDescriptor "(II)I" = some ⟨[.int, .int], some .int⟩ := by decide +kernel
theorem pd_3 : parseMethodDescriptor "(III)I" = some ⟨[.int, .int, .int], some .int⟩ := by decide +kernel
theorem pd_4 : parseMethodDescriptor "(I)I" = some ⟨[.int], some .int⟩ := by decide +kernel
theorem pd_5 : parseMethodDescriptor "([BI)[B" = some ⟨[(.array .byte), .int], some (.array .byte)⟩ := by decide +kernel
theorem pd_6 : parseMethodDescriptor "(IILjava/util/function/BiFunction;)I" = some ⟨[.int, .int, (.object "java/util/function/BiFunction")], some .int⟩ := by decide +kernel
theorem pd_7 : parseMethodDescriptor "(IIILjava/util/function/BiFunction;)I" = some ⟨[.int, .int, .int, (.object "java/util/function/BiFunction")], some .int⟩ := by decide +kernel
theorem pd_8 : parseMethodDescriptor "([B)I" = some ⟨[(.array .byte)], some .int⟩ := by decide +kernel
theorem pd_9 : parseMethodDescriptor "(II)V" = some ⟨[.int, .int], none⟩ := by decide +kernel
theorem pd_10 : parseMethodDescriptor "(I[B)V" = some ⟨[.int, (.array .byte)], none⟩ := by decide +kernel
theorem pd_11 : parseMethodDescriptor "([BI)C" = some ⟨[(.array .byte), .int], some .char⟩ := by decide +kernel
theorem pd_12 : parseMethodDescriptor "()Z" = some ⟨[], some .boolean⟩ := by decide +kernel
theorem pd_13 : parseMethodDescriptor "([BII)V" = some ⟨[(.array .byte), .int, .int], none⟩ := by decide +kernel
theorem pd_14 : parseMethodDescriptor "(II[B)V" = some ⟨[.int, .int, (.array .byte)], none⟩ := by decide +kernel
theorem pd_15 : parseMethodDescriptor "([BI[BII)V" = some ⟨[(.array .byte), .int, (.array .byte), .int, .int], none⟩ := by decide +kernel
theorem pd_16 : parseMethodDescriptor "()V" = some ⟨[], none⟩ := by decide +kernel
theorem pd_17 : parseMethodDescriptor "(I)[B" = some ⟨[.int], some (.array .byte)⟩ := by decide +kernel
theorem pd_18 : parseMethodDescriptor "(Ljava/lang/String;)V" = some ⟨[(.object "java/lang/String")], none⟩ := by decide +kernel
theorem pd_19 : parseMethodDescriptor "([BIB)V" = some ⟨[(.array .byte), .int, .byte], none⟩ := by decide +kernel
theorem pd_20 : parseMethodDescriptor "(I)V" = some ⟨[.int], none⟩ := by decide +kernel
theorem pd_21 : parseMethodDescriptor "(ILjava/lang/String;)V" = some ⟨[.int, (.object "java/lang/String")], none⟩ := by decide +kernel
theorem pd_22 : parseMethodDescriptor "(Ljava/lang/String;)Ljava/lang/AbstractStringBuilder;" = some ⟨[(.object "java/lang/String")], some (.object "java/lang/AbstractStringBuilder")⟩ := by decide +kernel
theorem pd_23 : parseMethodDescriptor "([BII)[B" = some ⟨[(.array .byte), .int, .int], some (.array .byte)⟩ := by decide +kernel
theorem pd_24 : parseMethodDescriptor "()[B" = some ⟨[], some (.array .byte)⟩ := by decide +kernel
theorem pd_25 : parseMethodDescriptor "(Ljava/lang/AbstractStringBuilder;Ljava/lang/Void;)V" = some ⟨[(.object "java/lang/AbstractStringBuilder"), (.object "java/lang/Void")], none⟩ := by decide +kernel
theorem pd_26 : parseMethodDescriptor "(Ljava/lang/StringBuilder;)V" = some ⟨[(.object "java/lang/StringBuilder")], none⟩ := by decide +kernel
theorem pd_27 : parseMethodDescriptor "([CI[BII)I" = some ⟨[(.array .char), .int, (.array .byte), .int, .int], some .int⟩ := by decide +kernel
theorem pd_28 : parseMethodDescriptor "([CII)[B" = some ⟨[(.array .char), .int, .int], some (.array .byte)⟩ := by decide +kernel
theorem pd_29 : parseMethodDescriptor "([BI)B" = some ⟨[(.array .byte), .int], some .byte⟩ := by decide +kernel
theorem pd_30 : parseMethodDescriptor "([CIILjava/lang/Void;)V" = some ⟨[(.array .char), .int, .int, (.object "java/lang/Void")], none⟩ := by decide +kernel
theorem pd_31 : parseMethodDescriptor "(Ljava/lang/String;)Ljava/lang/StringBuilder;" = some ⟨[(.object "java/lang/String")], some (.object "java/lang/StringBuilder")⟩ := by decide +kernel
theorem pd_32 : parseMethodDescriptor "()Ljava/lang/String;" = some ⟨[], some (.object "java/lang/String")⟩ := by decide +kernel
theorem pd_33 : parseMethodDescriptor "(I)C" = some ⟨[.int], some .char⟩ := by decide +kernel
theorem pd_34 : parseMethodDescriptor "(Ljava/lang/String;)Lcom/example/tidegauge/tidegauge/UsageException;" = some ⟨[(.object "java/lang/String")], some (.object "com/example/tidegauge/tidegauge/UsageException")⟩ := by decide +kernel
theorem pd_35 : parseMethodDescriptor "(Ljava/lang/String;)Z" = some ⟨[(.object "java/lang/String")], some .boolean⟩ := by decide +kernel
theorem pd_36 : parseMethodDescriptor "(Ljava/lang/String;I)Z" = some ⟨[(.object "java/lang/String"), .int], some .boolean⟩ := by decide +kernel
theorem pd_37 : parseMethodDescriptor "([C)V" = some ⟨[(.array .char)], none⟩ := by decide +kernel
abbrev C1 : ByteArray := jdk_42_method_3_code
abbrev C2 : ByteArray := jdk_42_method_149_code
abbrev C4 : ByteArray := jdk_52_method_16_code
abbrev C5 : ByteArray := jdk_52_method_21_code
abbrev C6 : ByteArray := jdk_52_method_15_code
abbrev C7 : ByteArray := prog_29_method_14_code
abbrev C8 : ByteArray := jdk_67_method_1_code
abbrev C9 : ByteArray := jdk_68_method_2_code
abbrev C10 : ByteArray := jdk_67_method_7_code
abbrev C11 : ByteArray := jdk_68_method_22_code
abbrev C12 : ByteArray := jdk_42_method_54_code
abbrev C13 : ByteArray := jdk_42_method_152_code
abbrev C14 : ByteArray := jdk_68_method_9_code
abbrev C15 : ByteArray := jdk_68_method_73_code
abbrev C16 : ByteArray := jdk_68_method_71_code
abbrev C17 : ByteArray := jdk_42_method_147_code
abbrev C18 : ByteArray := jdk_68_method_10_code
abbrev C19 : ByteArray := jdk_48_method_27_code
abbrev C20 : ByteArray := jdk_29_method_65_code
abbrev C21 : ByteArray := jdk_65_method_121_code
abbrev C22 : ByteArray := jdk_29_method_69_code
abbrev C23 : ByteArray := jdk_67_method_42_code
abbrev C24 : ByteArray := jdk_42_method_53_code
abbrev C25 : ByteArray := jdk_42_method_150_code
abbrev C26 : ByteArray := jdk_68_method_64_code
abbrev C27 : ByteArray := jdk_67_method_93_code
abbrev C28 : ByteArray := jdk_68_method_6_code
abbrev C29 : ByteArray := jdk_68_method_68_code
abbrev C30 : ByteArray := jdk_65_method_132_code
abbrev C31 : ByteArray := jdk_65_method_133_code
abbrev C32 : ByteArray := jdk_65_method_131_code
abbrev C33 : ByteArray := prog_43_method_1_code
abbrev C34 : ByteArray := jdk_59_method_2_code
abbrev C35 : ByteArray := jdk_78_method_2_code
abbrev C38 : ByteArray := jdk_78_method_6_code
abbrev C39 : ByteArray := method_2_code
abbrev C40 : ByteArray := jdk_42_method_56_code
abbrev C41 : ByteArray := jdk_42_method_154_code
abbrev C42 : ByteArray := jdk_43_method_2_code
abbrev C43 : ByteArray := jdk_42_method_155_code
abbrev C44 : ByteArray := jdk_41_method_11_code
abbrev C45 : ByteArray := method_3_code
abbrev C46 : ByteArray := jdk_52_method_14_code
abbrev C47 : ByteArray := jdk_52_method_2_code
abbrev C48 : ByteArray := jdk_52_method_3_code
abbrev C49 : ByteArray := jdk_52_method_4_code
abbrev C50 : ByteArray := jdk_52_method_5_code
abbrev C51 : ByteArray := jdk_68_method_11_code
abbrev C52 : ByteArray := jdk_43_method_50_code
abbrev C53 : ByteArray := jdk_52_method_86_code
abbrev C54 : ByteArray := jdk_52_method_94_code
abbrev C55 : ByteArray := jdk_52_method_6_code
abbrev C56 : ByteArray := jdk_42_method_157_code
abbrev C57 : ByteArray := jdk_41_method_13_code
abbrev C58 : ByteArray := jdk_52_method_83_code
abbrev C59 : ByteArray := jdk_52_method_91_code
theorem d1_0 : decode C1 0 = .ok (.aload_n 0, 1) := by decide +kernel
theorem d1_1 : decode C1 1 = .ok (.aload_n 1, 1) := by decide +kernel
theorem d1_2 : decode C1 2 = .ok (.iconst 0, 1) := by decide +kernel
theorem d1_3 : decode C1 3 = .ok (.aload_n 1, 1) := by decide +kernel
theorem d1_4 : decode C1 4 = .ok (.arraylength, 1) := by decide +kernel
theorem d1_5 : decode C1 5 = .ok (.aconst_null, 1) := by decide +kernel
theorem d1_6 : decode C1 6 = .ok (.invokespecial 27, 3) := by decide +kernel
theorem d1_9 : decode C1 9 = .ok (.return_, 1) := by decide +kernel
theorem d2_0 : decode C2 0 = .ok (.aload_n 0, 1) := by decide +kernel
theorem d2_1 : decode C2 1 = .ok (.invokespecial 1, 3) := by decide +kernel
theorem d2_4 : decode C2 4 = .ok (.iload_n 3, 1) := by decide +kernel
theorem d2_5 : decode C2 5 = .ok (.ifCond .ne 22, 3) := by decide +kernel
theorem d2_8 : decode C2 8 = .ok (.aload_n 0, 1) := by decide +kernel
theorem d2_9 : decode C2 9 = .ok (.ldc 7, 2) := by decide +kernel
theorem d2_11 : decode C2 11 = .ok (.getfield 9, 3) := by decide +kernel
theorem d2_14 : decode C2 14 = .ok (.putfield 9, 3) := by decide +kernel
theorem d2_17 : decode C2 17 = .ok (.aload_n 0, 1) := by decide +kernel
theorem d2_18 : decode C2 18 = .ok (.ldc 7, 2) := by decide +kernel
theorem d2_20 : decode C2 20 = .ok (.getfield 15, 3) := by decide +kernel
theorem d2_23 : decode C2 23 = .ok (.putfield 15, 3) := by decide +kernel
theorem d2_26 : decode C2 26 = .ok (.return_, 1) := by decide +kernel
theorem d2_27 : decode C2 27 = .ok (.getstatic 38, 3) := by decide +kernel
theorem d2_30 : decode C2 30 = .ok (.ifCond .eq 28, 3) := by decide +kernel
theorem d2_33 : decode C2 33 = .ok (.aload_n 1, 1) := by decide +kernel
theorem d2_34 : decode C2 34 = .ok (.iload_n 2, 1) := by decide +kernel
theorem d2_35 : decode C2 35 = .ok (.iload_n 3, 1) := by decide +kernel
theorem d2_36 : decode C2 36 = .ok (.invokestatic 177, 3) := by decide +kernel
theorem d2_39 : decode C2 39 = .ok (.astore 5, 2) := by decide +kernel
theorem d2_41 : decode C2 41 = .ok (.aload_n 0, 1) := by decide +kernel
theorem d2_42 : decode C2 42 = .ok (.aload 5, 2) := by decide +kernel
theorem d2_44 : decode C2 44 = .ok (.iload_n 3, 1) := by decide +kernel
theorem d2_45 : decode C2 45 = .ok (.invokestatic 47, 3) := by decide +kernel
theorem d2_48 : decode C2 48 = .ok (.putfield 15, 3) := by decide +kernel
theorem d2_51 : decode C2 51 = .ok (.aload_n 0, 1) := by decide +kernel
theorem d2_52 : decode C2 52 = .ok (.aload 5, 2) := by decide +kernel
theorem d2_54 : decode C2 54 = .ok (.putfield 9, 3) := by decide +kernel
theorem d2_57 : decode C2 57 = .ok (.return_, 1) := by decide +kernel
theorem d4_0 : decode C4 0 = .ok (.iload_n 2, 1) := by decide +kernel
theorem d4_1 : decode C4 1 = .ok (.newarray .byte, 2) := by decide +kernel
theorem d4_3 : decode C4 3 = .ok (.astore_n 3, 1) := by decide +kernel
theorem d4_4 : decode C4 4 = .ok (.aload_n 0, 1) := by decide +kernel
theorem d4_5 : decode C4 5 = .ok (.iload_n 1, 1) := by decide +kernel
theorem d4_6 : decode C4 6 = .ok (.aload_n 3, 1) := by decide +kernel
theorem d4_7 : decode C4 7 = .ok (.iconst 0, 1) := by decide +kernel
theorem d4_8 : decode C4 8 = .ok (.iload_n 2, 1) := by decide +kernel
theorem d4_9 : decode C4 9 = .ok (.invokestatic 115, 3) := by decide +kernel
theorem d4_12 : decode C4 12 = .ok (.istore 4, 2) := by decide +kernel
theorem d4_14 : decode C4 14 = .ok (.iload 4, 2) := by decide +kernel
theorem d4_16 : decode C4 16 = .ok (.iload_n 2, 1) := by decide +kernel
theorem d4_17 : decode C4 17 = .ok (.if_icmp .eq 40, 3) := by decide +kernel
theorem d4_20 : decode C4 20 = .ok (.aload_n 0, 1) := by decide +kernel
theorem d4_21 : decode C4 21 = .ok (.iload_n 1, 1) := by decide +kernel
theorem d4_22 : decode C4 22 = .ok (.iload_n 2, 1) := by decide +kernel
theorem d4_23 : decode C4 23 = .ok (.invokestatic 119, 3) := by decide +kernel
theorem d4_26 : decode C4 26 = .ok (.astore 5, 2) := by decide +kernel
theorem d4_28 : decode C4 28 = .ok (.aload 5, 2) := by decide +kernel
theorem d4_30 : decode C4 30 = .ok (.iload 4, 2) := by decide +kernel
theorem d4_32 : decode C4 32 = .ok (.invokestatic 71, 3) := by decide +kernel
theorem d4_35 : decode C4 35 = .ok (.sipush 255, 3) := by decide +kernel
theorem d4_38 : decode C4 38 = .ok (.if_icmp .gt 16, 3) := by decide +kernel
theorem d4_54 : decode C4 54 = .ok (.aload 5, 2) := by decide +kernel
theorem d4_56 : decode C4 56 = .ok (.areturn, 1) := by decide +kernel
theorem d5_0 : decode C5 0 = .ok (.iconst 0, 1) := by decide +kernel
theorem d5_1 : decode C5 1 = .ok (.istore 5, 2) := by decide +kernel
theorem d5_3 : decode C5 3 = .ok (.iload 5, 2) := by decide +kernel
theorem d5_5 : decode C5 5 = .ok (.iload 4, 2) := by decide +kernel
theorem d5_7 : decode C5 7 = .ok (.if_icmp .ge 37, 3) := by decide +kernel
theorem d5_10 : decode C5 10 = .ok (.aload_n 0, 1) := by decide +kernel
theorem d5_11 : decode C5 11 = .ok (.iload_n 1, 1) := by decide +kernel
theorem d5_12 : decode C5 12 = .ok (.caload, 1) := by decide +kernel
theorem d5_13 : decode C5 13 = .ok (.istore 6, 2) := by decide +kernel
theorem d5_15 : decode C5 15 = .ok (.iload 6, 2) := by decide +kernel
theorem d5_17 : decode C5 17 = .ok (.sipush 255, 3) := by decide +kernel
theorem d5_20 : decode C5 20 = .ok (.if_icmp .le 6, 3) := by decide +kernel
theorem d5_23 : decode C5 23 = .ok (.iload 5, 2) := by decide +kernel
theorem d5_25 : decode C5 25 = .ok (.ireturn, 1) := by decide +kernel
theorem d5_26 : decode C5 26 = .ok (.aload_n 2, 1) := by decide +kernel
theorem d5_27 : decode C5 27 = .ok (.iload_n 3, 1) := by decide +kernel
theorem d5_28 : decode C5 28 = .ok (.iload 6, 2) := by decide +kernel
theorem d5_30 : decode C5 30 = .ok (.i2b, 1) := by decide +kernel
theorem d5_31 : decode C5 31 = .ok (.bastore, 1) := by decide +kernel
theorem d5_32 : decode C5 32 = .ok (.iinc 1 1, 3) := by decide +kernel
theorem d5_35 : decode C5 35 = .ok (.iinc 3 1, 3) := by decide +kernel
theorem d5_38 : decode C5 38 = .ok (.iinc 5 1, 3) := by decide +kernel
theorem d5_41 : decode C5 41 = .ok (.goto (-38), 3) := by decide +kernel
theorem d6_0 : decode C6 0 = .ok (.iload_n 1, 1) := by decide +kernel
theorem d6_1 : decode C6 1 = .ok (.aload_n 0, 1) := by decide +kernel
theorem d6_2 : decode C6 2 = .ok (.arraylength, 1) := by decide +kernel
theorem d6_3 : decode C6 3 = .ok (.isub, 1) := by decide +kernel
theorem d6_4 : decode C6 4 = .ok (.bipush 31, 2) := by decide +kernel
theorem d6_6 : decode C6 6 = .ok (.iushr, 1) := by decide +kernel
theorem d6_7 : decode C6 7 = .ok (.i2b, 1) := by decide +kernel
theorem d6_8 : decode C6 8 = .ok (.ireturn, 1) := by decide +kernel
theorem d7_0 : decode C7 0 = .ok (.new 34, 3) := by decide +kernel
theorem d7_3 : decode C7 3 = .ok (.dup, 1) := by decide +kernel
theorem d7_4 : decode C7 4 = .ok (.new 42, 3) := by decide +kernel
theorem d7_7 : decode C7 7 = .ok (.dup, 1) := by decide +kernel
theorem d7_8 : decode C7 8 = .ok (.invokespecial 44, 3) := by decide +kernel
theorem d7_11 : decode C7 11 = .ok (.ldc 62, 2) := by decide +kernel
theorem d7_13 : decode C7 13 = .ok (.invokevirtual 47, 3) := by decide +kernel
theorem d7_16 : decode C7 16 = .ok (.aload_n 0, 1) := by decide +kernel
theorem d7_17 : decode C7 17 = .ok (.invokevirtual 47, 3) := by decide +kernel
theorem d7_20 : decode C7 20 = .ok (.ldc 201, 2) := by decide +kernel
theorem d7_22 : decode C7 22 = .ok (.invokevirtual 47, 3) := by decide +kernel
theorem d7_25 : decode C7 25 = .ok (.invokevirtual 53, 3) := by decide +kernel
theorem d7_28 : decode C7 28 = .ok (.invokespecial 59, 3) := by decide +kernel
theorem d7_31 : decode C7 31 = .ok (.areturn, 1) := by decide +kernel
theorem d8_0 : decode C8 0 = .ok (.aload_n 0, 1) := by decide +kernel
theorem d8_1 : decode C8 1 = .ok (.bipush 16, 2) := by decide +kernel
theorem d8_3 : decode C8 3 = .ok (.invokespecial 1, 3) := by decide +kernel
theorem d8_6 : decode C8 6 = .ok (.return_, 1) := by decide +kernel
theorem d9_0 : decode C9 0 = .ok (.aload_n 0, 1) := by decide +kernel
theorem d9_1 : decode C9 1 = .ok (.invokespecial 3, 3) := by decide +kernel
theorem d9_4 : decode C9 4 = .ok (.getstatic 18, 3) := by decide +kernel
theorem d9_7 : decode C9 7 = .ok (.ifCond .eq 18, 3) := by decide +kernel
theorem d9_10 : decode C9 10 = .ok (.aload_n 0, 1) := by decide +kernel
theorem d9_11 : decode C9 11 = .ok (.iload_n 1, 1) := by decide +kernel
theorem d9_12 : decode C9 12 = .ok (.newarray .byte, 2) := by decide +kernel
theorem d9_14 : decode C9 14 = .ok (.putfield 15, 3) := by decide +kernel
theorem d9_17 : decode C9 17 = .ok (.aload_n 0, 1) := by decide +kernel
theorem d9_18 : decode C9 18 = .ok (.iconst 0, 1) := by decide +kernel
theorem d9_19 : decode C9 19 = .ok (.putfield 22, 3) := by decide +kernel
theorem d9_22 : decode C9 22 = .ok (.goto 16, 3) := by decide +kernel
theorem d9_38 : decode C9 38 = .ok (.return_, 1) := by decide +kernel
theorem d10_0 : decode C10 0 = .ok (.aload_n 0, 1) := by decide +kernel
theorem d10_1 : decode C10 1 = .ok (.aload_n 1, 1) := by decide +kernel
theorem d10_2 : decode C10 2 = .ok (.invokespecial 29, 3) := by decide +kernel
theorem d10_5 : decode C10 5 = .ok (.pop, 1) := by decide +kernel
theorem d10_6 : decode C10 6 = .ok (.aload_n 0, 1) := by decide +kernel
theorem d10_7 : decode C10 7 = .ok (.areturn, 1) := by decide +kernel
theorem d11_0 : decode C11 0 = .ok (.aload_n 1, 1) := by decide +kernel
theorem d11_1 : decode C11 1 = .ok (.ifnonnull 8, 3) := by decide +kernel
theorem d11_9 : decode C11 9 = .ok (.aload_n 1, 1) := by decide +kernel
theorem d11_10 : decode C11 10 = .ok (.invokevirtual 32, 3) := by decide +kernel
theorem d11_13 : decode C11 13 = .ok (.istore_n 2, 1) := by decide +kernel
theorem d11_14 : decode C11 14 = .ok (.aload_n 0, 1) := by decide +kernel
theorem d11_15 : decode C11 15 = .ok (.aload_n 0, 1) := by decide +kernel
theorem d11_16 : decode C11 16 = .ok (.getfield 79, 3) := by decide +kernel
theorem d11_19 : decode C11 19 = .ok (.iload_n 2, 1) := by decide +kernel
theorem d11_20 : decode C11 20 = .ok (.iadd, 1) := by decide +kernel
theorem d11_21 : decode C11 21 = .ok (.invokevirtual 100, 3) := by decide +kernel
theorem d11_24 : decode C11 24 = .ok (.aload_n 0, 1) := by decide +kernel
theorem d11_25 : decode C11 25 = .ok (.aload_n 0, 1) := by decide +kernel
theorem d11_26 : decode C11 26 = .ok (.getfield 79, 3) := by decide +kernel
theorem d11_29 : decode C11 29 = .ok (.aload_n 1, 1) := by decide +kernel
theorem d11_30 : decode C11 30 = .ok (.invokevirtual 208, 3) := by decide +kernel
theorem d11_33 : decode C11 33 = .ok (.aload_n 0, 1) := by decide +kernel
theorem d11_34 : decode C11 34 = .ok (.dup, 1) := by decide +kernel
theorem d11_35 : decode C11 35 = .ok (.getfield 79, 3) := by decide +kernel
theorem d11_38 : decode C11 38 = .ok (.iload_n 2, 1) := by decide +kernel
theorem d11_39 : decode C11 39 = .ok (.iadd, 1) := by decide +kernel
theorem d11_40 : decode C11 40 = .ok (.putfield 79, 3) := by decide +kernel
theorem d11_43 : decode C11 43 = .ok (.aload_n 0, 1) := by decide +kernel
theorem d11_44 : decode C11 44 = .ok (.areturn, 1) := by decide +kernel
theorem d12_0 : decode C12 0 = .ok (.aload_n 0, 1) := by decide +kernel
theorem d12_1 : decode C12 1 = .ok (.getfield 9, 3) := by decide +kernel
theorem d12_4 : decode C12 4 = .ok (.arraylength, 1) := by decide +kernel
theorem d12_5 : decode C12 5 = .ok (.aload_n 0, 1) := by decide +kernel
theorem d12_6 : decode C12 6 = .ok (.invokevirtual 335, 3) := by decide +kernel
theorem d12_9 : decode C12 9 = .ok (.ishr, 1) := by decide +kernel
theorem d12_10 : decode C12 10 = .ok (.ireturn, 1) := by decide +kernel
theorem d13_0 : decode C13 0 = .ok (.getstatic 38, 3) := by decide +kernel
theorem d13_3 : decode C13 3 = .ok (.ifCond .eq 10, 3) := by decide +kernel
theorem d13_6 : decode C13 6 = .ok (.aload_n 0, 1) := by decide +kernel
theorem d13_7 : decode C13 7 = .ok (.getfield 15, 3) := by decide +kernel
theorem d13_10 : decode C13 10 = .ok (.goto 4, 3) := by decide +kernel
theorem d13_14 : decode C13 14 = .ok (.ireturn, 1) := by decide +kernel
theorem d14_0 : decode C14 0 = .ok (.aload_n 0, 1) := by decide +kernel
theorem d14_1 : decode C14 1 = .ok (.getfield 15, 3) := by decide +kernel
theorem d14_4 : decode C14 4 = .ok (.arraylength, 1) := by decide +kernel
theorem d14_5 : decode C14 5 = .ok (.aload_n 0, 1) := by decide +kernel
theorem d14_6 : decode C14 6 = .ok (.getfield 22, 3) := by decide +kernel
theorem d14_9 : decode C14 9 = .ok (.ishr, 1) := by decide +kernel
theorem d14_10 : decode C14 10 = .ok (.istore_n 2, 1) := by decide +kernel
theorem d14_11 : decode C14 11 = .ok (.iload_n 1, 1) := by decide +kernel
theorem d14_12 : decode C14 12 = .ok (.iload_n 2, 1) := by decide +kernel
theorem d14_13 : decode C14 13 = .ok (.isub, 1) := by decide +kernel
theorem d14_14 : decode C14 14 = .ok (.ifCond .le 24, 3) := by decide +kernel
theorem d14_17 : decode C14 17 = .ok (.aload_n 0, 1) := by decide +kernel
theorem d14_18 : decode C14 18 = .ok (.aload_n 0, 1) := by decide +kernel
theorem d14_19 : decode C14 19 = .ok (.getfield 15, 3) := by decide +kernel
theorem d14_22 : decode C14 22 = .ok (.aload_n 0, 1) := by decide +kernel
theorem d14_23 : decode C14 23 = .ok (.iload_n 1, 1) := by decide +kernel
theorem d14_24 : decode C14 24 = .ok (.invokevirtual 104, 3) := by decide +kernel
theorem d14_27 : decode C14 27 = .ok (.aload_n 0, 1) := by decide +kernel
theorem d14_28 : decode C14 28 = .ok (.getfield 22, 3) := by decide +kernel
theorem d14_31 : decode C14 31 = .ok (.ishl, 1) := by decide +kernel
theorem d14_32 : decode C14 32 = .ok (.invokestatic 108, 3) := by decide +kernel
theorem d14_35 : decode C14 35 = .ok (.putfield 15, 3) := by decide +kernel
theorem d14_38 : decode C14 38 = .ok (.return_, 1) := by decide +kernel
theorem d15_0 : decode C15 0 = .ok (.aload_n 0, 1) := by decide +kernel
theorem d15_1 : decode C15 1 = .ok (.aload_n 2, 1) := by decide +kernel
theorem d15_2 : decode C15 2 = .ok (.invokevirtual 397, 3) := by decide +kernel
theorem d15_5 : decode C15 5 = .ok (.aload_n 2, 1) := by decide +kernel
theorem d15_6 : decode C15 6 = .ok (.aload_n 0, 1) := by decide +kernel
theorem d15_7 : decode C15 7 = .ok (.getfield 15, 3) := by decide +kernel
theorem d15_10 : decode C15 10 = .ok (.iload_n 1, 1) := by decide +kernel
theorem d15_11 : decode C15 11 = .ok (.aload_n 0, 1) := by decide +kernel
theorem d15_12 : decode C15 12 = .ok (.getfield 22, 3) := by decide +kernel
theorem d15_15 : decode C15 15 = .ok (.invokevirtual 399, 3) := by decide +kernel
theorem d15_18 : decode C15 18 = .ok (.return_, 1) := by decide +kernel
theorem d16_0 : decode C16 0 = .ok (.getstatic 18, 3) := by decide +kernel
theorem d16_3 : decode C16 3 = .ok (.ifCond .eq 18, 3) := by decide +kernel
theorem d16_6 : decode C16 6 = .ok (.aload_n 0, 1) := by decide +kernel
theorem d16_7 : decode C16 7 = .ok (.getfield 22, 3) := by decide +kernel
theorem d16_10 : decode C16 10 = .ok (.aload_n 1, 1) := by decide +kernel
theorem d16_11 : decode C16 11 = .ok (.invokevirtual 40, 3) := by decide +kernel
theorem d16_14 : decode C16 14 = .ok (.if_icmp .eq 7, 3) := by decide +kernel
theorem d16_17 : decode C16 17 = .ok (.aload_n 0, 1) := by decide +kernel
theorem d16_18 : decode C16 18 = .ok (.invokevirtual 195, 3) := by decide +kernel
theorem d16_21 : decode C16 21 = .ok (.return_, 1) := by decide +kernel
theorem d17_0 : decode C17 0 = .ok (.aload_n 0, 1) := by decide +kernel
theorem d17_1 : decode C17 1 = .ok (.invokevirtual 335, 3) := by decide +kernel
theorem d17_4 : decode C17 4 = .ok (.iload_n 3, 1) := by decide +kernel
theorem d17_5 : decode C17 5 = .ok (.if_icmp .ne 23, 3) := by decide +kernel
theorem d17_8 : decode C17 8 = .ok (.aload_n 0, 1) := by decide +kernel
theorem d17_9 : decode C17 9 = .ok (.getfield 9, 3) := by decide +kernel
theorem d17_12 : decode C17 12 = .ok (.iconst 0, 1) := by decide +kernel
theorem d17_13 : decode C17 13 = .ok (.aload_n 1, 1) := by decide +kernel
theorem d17_14 : decode C17 14 = .ok (.iload_n 2, 1) := by decide +kernel
theorem d17_15 : decode C17 15 = .ok (.iload_n 3, 1) := by decide +kernel
theorem d17_16 : decode C17 16 = .ok (.ishl, 1) := by decide +kernel
theorem d17_17 : decode C17 17 = .ok (.aload_n 0, 1) := by decide +kernel
theorem d17_18 : decode C17 18 = .ok (.getfield 9, 3) := by decide +kernel
theorem d17_21 : decode C17 21 = .ok (.arraylength, 1) := by decide +kernel
theorem d17_22 : decode C17 22 = .ok (.invokestatic 212, 3) := by decide +kernel
theorem d17_25 : decode C17 25 = .ok (.goto 18, 3) := by decide +kernel
theorem d17_28 : decode C17 28 = .ok (.aload_n 0, 1) := by decide +kernel
theorem d17_29 : decode C17 29 = .ok (.getfield 9, 3) := by decide +kernel
theorem d17_32 : decode C17 32 = .ok (.iconst 0, 1) := by decide +kernel
theorem d17_33 : decode C17 33 = .ok (.aload_n 1, 1) := by decide +kernel
theorem d17_34 : decode C17 34 = .ok (.iload_n 2, 1) := by decide +kernel
theorem d17_35 : decode C17 35 = .ok (.aload_n 0, 1) := by decide +kernel
theorem d17_36 : decode C17 36 = .ok (.getfield 9, 3) := by decide +kernel
theorem d17_39 : decode C17 39 = .ok (.arraylength, 1) := by decide +kernel
theorem d17_40 : decode C17 40 = .ok (.invokestatic 106, 3) := by decide +kernel
theorem d17_43 : decode C17 43 = .ok (.return_, 1) := by decide +kernel
theorem d18_0 : decode C18 0 = .ok (.aload_n 0, 1) := by decide +kernel
theorem d18_1 : decode C18 1 = .ok (.getfield 15, 3) := by decide +kernel
theorem d18_4 : decode C18 4 = .ok (.arraylength, 1) := by decide +kernel
theorem d18_5 : decode C18 5 = .ok (.istore_n 2, 1) := by decide +kernel
theorem d18_6 : decode C18 6 = .ok (.iload_n 1, 1) := by decide +kernel
theorem d18_7 : decode C18 7 = .ok (.aload_n 0, 1) := by decide +kernel
theorem d18_8 : decode C18 8 = .ok (.getfield 22, 3) := by decide +kernel
theorem d18_11 : decode C18 11 = .ok (.ishl, 1) := by decide +kernel
theorem d18_12 : decode C18 12 = .ok (.istore_n 3, 1) := by decide +kernel
theorem d18_13 : decode C18 13 = .ok (.iload_n 3, 1) := by decide +kernel
theorem d18_14 : decode C18 14 = .ok (.iload_n 2, 1) := by decide +kernel
theorem d18_15 : decode C18 15 = .ok (.isub, 1) := by decide +kernel
theorem d18_16 : decode C18 16 = .ok (.istore 4, 2) := by decide +kernel
theorem d18_18 : decode C18 18 = .ok (.iload_n 2, 1) := by decide +kernel
theorem d18_19 : decode C18 19 = .ok (.iload 4, 2) := by decide +kernel
theorem d18_21 : decode C18 21 = .ok (.iload_n 2, 1) := by decide +kernel
theorem d18_22 : decode C18 22 = .ok (.iconst 2, 1) := by decide +kernel
theorem d18_23 : decode C18 23 = .ok (.aload_n 0, 1) := by decide +kernel
theorem d18_24 : decode C18 24 = .ok (.getfield 22, 3) := by decide +kernel
theorem d18_27 : decode C18 27 = .ok (.ishl, 1) := by decide +kernel
theorem d18_28 : decode C18 28 = .ok (.iadd, 1) := by decide +kernel
theorem d18_29 : decode C18 29 = .ok (.invokestatic 114, 3) := by decide +kernel
theorem d18_32 : decode C18 32 = .ok (.istore 5, 2) := by decide +kernel
theorem d18_34 : decode C18 34 = .ok (.iload 5, 2) := by decide +kernel
theorem d18_36 : decode C18 36 = .ok (.ldc 39, 2) := by decide +kernel
theorem d18_38 : decode C18 38 = .ok (.if_icmp .ne 13, 3) := by decide +kernel
theorem d18_51 : decode C18 51 = .ok (.iload 5, 2) := by decide +kernel
theorem d18_53 : decode C18 53 = .ok (.aload_n 0, 1) := by decide +kernel
theorem d18_54 : decode C18 54 = .ok (.getfield 22, 3) := by decide +kernel
theorem d18_57 : decode C18 57 = .ok (.ishr, 1) := by decide +kernel
theorem d18_58 : decode C18 58 = .ok (.ireturn, 1) := by decide +kernel
theorem d19_0 : decode C19 0 = .ok (.iload_n 0, 1) := by decide +kernel
theorem d19_1 : decode C19 1 = .ok (.iload_n 1, 1) := by decide +kernel
theorem d19_2 : decode C19 2 = .ok (.iload_n 2, 1) := by decide +kernel
theorem d19_3 : decode C19 3 = .ok (.invokestatic 194, 3) := by decide +kernel
theorem d19_6 : decode C19 6 = .ok (.iadd, 1) := by decide +kernel
theorem d19_7 : decode C19 7 = .ok (.istore_n 3, 1) := by decide +kernel
theorem d19_8 : decode C19 8 = .ok (.iconst 0, 1) := by decide +kernel
theorem d19_9 : decode C19 9 = .ok (.iload_n 3, 1) := by decide +kernel
theorem d19_10 : decode C19 10 = .ok (.if_icmp .ge 11, 3) := by decide +kernel
theorem d19_13 : decode C19 13 = .ok (.iload_n 3, 1) := by decide +kernel
theorem d19_14 : decode C19 14 = .ok (.ldc 200, 2) := by decide +kernel
theorem d19_16 : decode C19 16 = .ok (.if_icmp .gt 5, 3) := by decide +kernel
theorem d19_19 : decode C19 19 = .ok (.iload_n 3, 1) := by decide +kernel
theorem d19_20 : decode C19 20 = .ok (.ireturn, 1) := by decide +kernel
theorem d20_0 : decode C20 0 = .ok (.iload_n 0, 1) := by decide +kernel
theorem d20_1 : decode C20 1 = .ok (.iload_n 1, 1) := by decide +kernel
theorem d20_2 : decode C20 2 = .ok (.if_icmp .lt 7, 3) := by decide +kernel
theorem d20_9 : decode C20 9 = .ok (.iload_n 1, 1) := by decide +kernel
theorem d20_10 : decode C20 10 = .ok (.ireturn, 1) := by decide +kernel
theorem d21_0 : decode C21 0 = .ok (.iload_n 1, 1) := by decide +kernel
theorem d21_1 : decode C21 1 = .ok (.aload_n 0, 1) := by decide +kernel
theorem d21_2 : decode C21 2 = .ok (.arraylength, 1) := by decide +kernel
theorem d21_3 : decode C21 3 = .ok (.if_icmp .ne 11, 3) := by decide +kernel
theorem d21_14 : decode C21 14 = .ok (.iload_n 1, 1) := by decide +kernel
theorem d21_15 : decode C21 15 = .ok (.newarray .byte, 2) := by decide +kernel
theorem d21_17 : decode C21 17 = .ok (.astore_n 2, 1) := by decide +kernel
theorem d21_18 : decode C21 18 = .ok (.aload_n 0, 1) := by decide +kernel
theorem d21_19 : decode C21 19 = .ok (.iconst 0, 1) := by decide +kernel
theorem d21_20 : decode C21 20 = .ok (.aload_n 2, 1) := by decide +kernel
theorem d21_21 : decode C21 21 = .ok (.iconst 0, 1) := by decide +kernel
theorem d21_22 : decode C21 22 = .ok (.aload_n 0, 1) := by decide +kernel
theorem d21_23 : decode C21 23 = .ok (.arraylength, 1) := by decide +kernel
theorem d21_24 : decode C21 24 = .ok (.iload_n 1, 1) := by decide +kernel
theorem d21_25 : decode C21 25 = .ok (.invokestatic 304, 3) := by decide +kernel
theorem d21_28 : decode C21 28 = .ok (.invokestatic 150, 3) := by decide +kernel
theorem d21_31 : decode C21 31 = .ok (.aload_n 2, 1) := by decide +kernel
theorem d21_32 : decode C21 32 = .ok (.areturn, 1) := by decide +kernel
theorem d22_0 : decode C22 0 = .ok (.iload_n 0, 1) := by decide +kernel
theorem d22_1 : decode C22 1 = .ok (.iload_n 1, 1) := by decide +kernel
theorem d22_2 : decode C22 2 = .ok (.if_icmp .gt 7, 3) := by decide +kernel
theorem d22_5 : decode C22 5 = .ok (.iload_n 0, 1) := by decide +kernel
theorem d22_6 : decode C22 6 = .ok (.goto 4, 3) := by decide +kernel
theorem d22_9 : decode C22 9 = .ok (.iload_n 1, 1) := by decide +kernel
theorem d22_10 : decode C22 10 = .ok (.ireturn, 1) := by decide +kernel
theorem d23_0 : decode C23 0 = .ok (.new 18, 3) := by decide +kernel
theorem d23_3 : decode C23 3 = .ok (.dup, 1) := by decide +kernel
theorem d23_4 : decode C23 4 = .ok (.aload_n 0, 1) := by decide +kernel
theorem d23_5 : decode C23 5 = .ok (.invokespecial 137, 3) := by decide +kernel
theorem d23_8 : decode C23 8 = .ok (.areturn, 1) := by decide +kernel
theorem d24_0 : decode C24 0 = .ok (.aload_n 0, 1) := by decide +kernel
theorem d24_1 : decode C24 1 = .ok (.aload_n 1, 1) := by decide +kernel
theorem d24_2 : decode C24 2 = .ok (.aconst_null, 1) := by decide +kernel
theorem d24_3 : decode C24 3 = .ok (.invokespecial 489, 3) := by decide +kernel
theorem d24_6 : decode C24 6 = .ok (.return_, 1) := by decide +kernel
theorem d25_0 : decode C25 0 = .ok (.aload_n 0, 1) := by decide +kernel
theorem d25_1 : decode C25 1 = .ok (.invokespecial 1, 3) := by decide +kernel
theorem d25_4 : decode C25 4 = .ok (.aload_n 1, 1) := by decide +kernel
theorem d25_5 : decode C25 5 = .ok (.invokevirtual 552, 3) := by decide +kernel
theorem d25_8 : decode C25 8 = .ok (.astore_n 3, 1) := by decide +kernel
theorem d25_9 : decode C25 9 = .ok (.aload_n 1, 1) := by decide +kernel
theorem d25_10 : decode C25 10 = .ok (.invokevirtual 549, 3) := by decide +kernel
theorem d25_13 : decode C25 13 = .ok (.istore 4, 2) := by decide +kernel
theorem d25_15 : decode C25 15 = .ok (.aload_n 1, 1) := by decide +kernel
theorem d25_16 : decode C25 16 = .ok (.invokevirtual 1047, 3) := by decide +kernel
theorem d25_19 : decode C25 19 = .ok (.ifCond .eq 22, 3) := by decide +kernel
theorem d25_22 : decode C25 22 = .ok (.aload_n 0, 1) := by decide +kernel
theorem d25_23 : decode C25 23 = .ok (.iconst 0, 1) := by decide +kernel
theorem d25_24 : decode C25 24 = .ok (.putfield 15, 3) := by decide +kernel
theorem d25_27 : decode C25 27 = .ok (.aload_n 0, 1) := by decide +kernel
theorem d25_28 : decode C25 28 = .ok (.aload_n 3, 1) := by decide +kernel
theorem d25_29 : decode C25 29 = .ok (.iconst 0, 1) := by decide +kernel
theorem d25_30 : decode C25 30 = .ok (.iload 4, 2) := by decide +kernel
theorem d25_32 : decode C25 32 = .ok (.invokestatic 54, 3) := by decide +kernel
theorem d25_35 : decode C25 35 = .ok (.putfield 9, 3) := by decide +kernel
theorem d25_38 : decode C25 38 = .ok (.goto 59, 3) := by decide +kernel
theorem d25_41 : decode C25 41 = .ok (.getstatic 38, 3) := by decide +kernel
theorem d25_44 : decode C25 44 = .ok (.ifCond .eq 35, 3) := by decide +kernel
theorem d25_47 : decode C25 47 = .ok (.aload_n 1, 1) := by decide +kernel
theorem d25_48 : decode C25 48 = .ok (.getfield 1048, 3) := by decide +kernel
theorem d25_51 : decode C25 51 = .ok (.ifCond .eq 28, 3) := by decide +kernel
theorem d25_79 : decode C25 79 = .ok (.aload_n 0, 1) := by decide +kernel
theorem d25_80 : decode C25 80 = .ok (.iconst 1, 1) := by decide +kernel
theorem d25_81 : decode C25 81 = .ok (.putfield 15, 3) := by decide +kernel
theorem d25_84 : decode C25 84 = .ok (.aload_n 0, 1) := by decide +kernel
theorem d25_85 : decode C25 85 = .ok (.aload_n 3, 1) := by decide +kernel
theorem d25_86 : decode C25 86 = .ok (.iconst 0, 1) := by decide +kernel
theorem d25_87 : decode C25 87 = .ok (.iload 4, 2) := by decide +kernel
theorem d25_89 : decode C25 89 = .ok (.iconst 1, 1) := by decide +kernel
theorem d25_90 : decode C25 90 = .ok (.ishl, 1) := by decide +kernel
theorem d25_91 : decode C25 91 = .ok (.invokestatic 54, 3) := by decide +kernel
theorem d25_94 : decode C25 94 = .ok (.putfield 9, 3) := by decide +kernel
theorem d25_97 : decode C25 97 = .ok (.return_, 1) := by decide +kernel
theorem d26_0 : decode C26 0 = .ok (.aload_n 0, 1) := by decide +kernel
theorem d26_1 : decode C26 1 = .ok (.getfield 15, 3) := by decide +kernel
theorem d26_4 : decode C26 4 = .ok (.areturn, 1) := by decide +kernel
theorem d27_0 : decode C27 0 = .ok (.aload_n 0, 1) := by decide +kernel
theorem d27_1 : decode C27 1 = .ok (.invokespecial 343, 3) := by decide +kernel
theorem d27_4 : decode C27 4 = .ok (.ireturn, 1) := by decide +kernel
theorem d28_0 : decode C28 0 = .ok (.aload_n 0, 1) := by decide +kernel
theorem d28_1 : decode C28 1 = .ok (.getfield 79, 3) := by decide +kernel
theorem d28_4 : decode C28 4 = .ok (.ireturn, 1) := by decide +kernel
theorem d29_0 : decode C29 0 = .ok (.getstatic 18, 3) := by decide +kernel
theorem d29_3 : decode C29 3 = .ok (.ifCond .eq 14, 3) := by decide +kernel
theorem d29_6 : decode C29 6 = .ok (.aload_n 0, 1) := by decide +kernel
theorem d29_7 : decode C29 7 = .ok (.getfield 22, 3) := by decide +kernel
theorem d29_10 : decode C29 10 = .ok (.ifCond .ne 7, 3) := by decide +kernel
theorem d29_13 : decode C29 13 = .ok (.iconst 1, 1) := by decide +kernel
theorem d29_14 : decode C29 14 = .ok (.goto 4, 3) := by decide +kernel
theorem d29_17 : decode C29 17 = .ok (.iconst 0, 1) := by decide +kernel
theorem d29_18 : decode C29 18 = .ok (.ireturn, 1) := by decide +kernel
theorem d30_0 : decode C30 0 = .ok (.iload_n 1, 1) := by decide +kernel
theorem d30_1 : decode C30 1 = .ok (.ifCond .ne 9, 3) := by decide +kernel
theorem d30_4 : decode C30 4 = .ok (.iload_n 2, 1) := by decide +kernel
theorem d30_5 : decode C30 5 = .ok (.aload_n 0, 1) := by decide +kernel
theorem d30_6 : decode C30 6 = .ok (.arraylength, 1) := by decide +kernel
theorem d30_7 : decode C30 7 = .ok (.if_icmp .eq 10, 3) := by decide +kernel
theorem d30_10 : decode C30 10 = .ok (.aload_n 0, 1) := by decide +kernel
theorem d30_11 : decode C30 11 = .ok (.iload_n 1, 1) := by decide +kernel
theorem d30_12 : decode C30 12 = .ok (.iload_n 2, 1) := by decide +kernel
theorem d30_13 : decode C30 13 = .ok (.invokestatic 339, 3) := by decide +kernel
theorem d30_16 : decode C30 16 = .ok (.areturn, 1) := by decide +kernel
theorem d31_0 : decode C31 0 = .ok (.iload_n 1, 1) := by decide +kernel
theorem d31_1 : decode C31 1 = .ok (.iload_n 2, 1) := by decide +kernel
theorem d31_2 : decode C31 2 = .ok (.invokestatic 343, 3) := by decide +kernel
theorem d31_5 : decode C31 5 = .ok (.iload_n 2, 1) := by decide +kernel
theorem d31_6 : decode C31 6 = .ok (.iload_n 1, 1) := by decide +kernel
theorem d31_7 : decode C31 7 = .ok (.isub, 1) := by decide +kernel
theorem d31_8 : decode C31 8 = .ok (.istore_n 3, 1) := by decide +kernel
theorem d31_9 : decode C31 9 = .ok (.iload_n 3, 1) := by decide +kernel
theorem d31_10 : decode C31 10 = .ok (.newarray .byte, 2) := by decide +kernel
theorem d31_12 : decode C31 12 = .ok (.astore 4, 2) := by decide +kernel
theorem d31_14 : decode C31 14 = .ok (.aload_n 0, 1) := by decide +kernel
theorem d31_15 : decode C31 15 = .ok (.iload_n 1, 1) := by decide +kernel
theorem d31_16 : decode C31 16 = .ok (.aload 4, 2) := by decide +kernel
theorem d31_18 : decode C31 18 = .ok (.iconst 0, 1) := by decide +kernel
theorem d31_19 : decode C31 19 = .ok (.aload_n 0, 1) := by decide +kernel
theorem d31_20 : decode C31 20 = .ok (.arraylength, 1) := by decide +kernel
theorem d31_21 : decode C31 21 = .ok (.iload_n 1, 1) := by decide +kernel
theorem d31_22 : decode C31 22 = .ok (.isub, 1) := by decide +kernel
theorem d31_23 : decode C31 23 = .ok (.iload_n 3, 1) := by decide +kernel
theorem d31_24 : decode C31 24 = .ok (.invokestatic 304, 3) := by decide +kernel
theorem d31_27 : decode C31 27 = .ok (.invokestatic 150, 3) := by decide +kernel
theorem d31_30 : decode C31 30 = .ok (.aload 4, 2) := by decide +kernel
theorem d31_32 : decode C31 32 = .ok (.areturn, 1) := by decide +kernel
theorem d32_0 : decode C32 0 = .ok (.iload_n 1, 1) := by decide +kernel
theorem d32_1 : decode C32 1 = .ok (.iload_n 0, 1) := by decide +kernel
theorem d32_2 : decode C32 2 = .ok (.if_icmp .ge 35, 3) := by decide +kernel
theorem d32_37 : decode C32 37 = .ok (.return_, 1) := by decide +kernel
theorem d33_0 : decode C33 0 = .ok (.aload_n 0, 1) := by decide +kernel
theorem d33_1 : decode C33 1 = .ok (.aload_n 1, 1) := by decide +kernel
theorem d33_2 : decode C33 2 = .ok (.invokespecial 1, 3) := by decide +kernel
theorem d33_5 : decode C33 5 = .ok (.return_, 1) := by decide +kernel
theorem d34_0 : decode C34 0 = .ok (.aload_n 0, 1) := by decide +kernel
theorem d34_1 : decode C34 1 = .ok (.aload_n 1, 1) := by decide +kernel
theorem d34_2 : decode C34 2 = .ok (.invokespecial 7, 3) := by decide +kernel
theorem d34_5 : decode C34 5 = .ok (.return_, 1) := by decide +kernel
theorem d35_0 : decode C35 0 = .ok (.aload_n 0, 1) := by decide +kernel
theorem d35_1 : decode C35 1 = .ok (.invokespecial 1, 3) := by decide +kernel
theorem d35_4 : decode C35 4 = .ok (.aload_n 0, 1) := by decide +kernel
theorem d35_5 : decode C35 5 = .ok (.aload_n 0, 1) := by decide +kernel
theorem d35_6 : decode C35 6 = .ok (.putfield 7, 3) := by decide +kernel
theorem d35_9 : decode C35 9 = .ok (.aload_n 0, 1) := by decide +kernel
theorem d35_10 : decode C35 10 = .ok (.getstatic 13, 3) := by decide +kernel
theorem d35_13 : decode C35 13 = .ok (.putfield 17, 3) := by decide +kernel
theorem d35_16 : decode C35 16 = .ok (.aload_n 0, 1) := by decide +kernel
theorem d35_17 : decode C35 17 = .ok (.getstatic 20, 3) := by decide +kernel
theorem d35_20 : decode C35 20 = .ok (.putfield 24, 3) := by decide +kernel
theorem d35_23 : decode C35 23 = .ok (.aload_n 0, 1) := by decide +kernel
theorem d35_24 : decode C35 24 = .ok (.invokevirtual 27, 3) := by decide +kernel
theorem d35_27 : decode C35 27 = .ok (.pop, 1) := by decide +kernel
theorem d35_28 : decode C35 28 = .ok (.aload_n 0, 1) := by decide +kernel
theorem d35_29 : decode C35 29 = .ok (.aload_n 1, 1) := by decide +kernel
theorem d35_30 : decode C35 30 = .ok (.putfield 31, 3) := by decide +kernel
theorem d35_33 : decode C35 33 = .ok (.return_, 1) := by decide +kernel
theorem d38_0 : decode C38 0 = .ok (.aload_n 0, 1) := by decide +kernel
theorem d38_1 : decode C38 1 = .ok (.getfield 31, 3) := by decide +kernel
theorem d38_4 : decode C38 4 = .ok (.areturn, 1) := by decide +kernel
theorem d39_0 : decode C39 0 = .ok (.ldc 7, 2) := by decide +kernel
theorem d39_2 : decode C39 2 = .ok (.astore_n 1, 1) := by decide +kernel
theorem d39_3 : decode C39 3 = .ok (.aload_n 0, 1) := by decide +kernel
theorem d39_4 : decode C39 4 = .ok (.iconst 0, 1) := by decide +kernel
theorem d39_5 : decode C39 5 = .ok (.invokevirtual 9, 3) := by decide +kernel
theorem d39_8 : decode C39 8 = .ok (.aload_n 1, 1) := by decide +kernel
theorem d39_9 : decode C39 9 = .ok (.iconst 0, 1) := by decide +kernel
theorem d39_10 : decode C39 10 = .ok (.invokevirtual 9, 3) := by decide +kernel
theorem d39_13 : decode C39 13 = .ok (.if_icmp .ne 87, 3) := by decide +kernel
theorem d39_16 : decode C39 16 = .ok (.aload_n 0, 1) := by decide +kernel
theorem d39_17 : decode C39 17 = .ok (.iconst 1, 1) := by decide +kernel
theorem d39_18 : decode C39 18 = .ok (.invokevirtual 9, 3) := by decide +kernel
theorem d39_21 : decode C39 21 = .ok (.aload_n 1, 1) := by decide +kernel
theorem d39_22 : decode C39 22 = .ok (.iconst 1, 1) := by decide +kernel
theorem d39_23 : decode C39 23 = .ok (.invokevirtual 9, 3) := by decide +kernel
theorem d39_26 : decode C39 26 = .ok (.if_icmp .ne 74, 3) := by decide +kernel
theorem d39_29 : decode C39 29 = .ok (.aload_n 0, 1) := by decide +kernel
theorem d39_30 : decode C39 30 = .ok (.iconst 2, 1) := by decide +kernel
theorem d39_31 : decode C39 31 = .ok (.invokevirtual 9, 3) := by decide +kernel
theorem d39_34 : decode C39 34 = .ok (.aload_n 1, 1) := by decide +kernel
theorem d39_35 : decode C39 35 = .ok (.iconst 2, 1) := by decide +kernel
theorem d39_36 : decode C39 36 = .ok (.invokevirtual 9, 3) := by decide +kernel
theorem d39_39 : decode C39 39 = .ok (.if_icmp .ne 61, 3) := by decide +kernel
theorem d39_42 : decode C39 42 = .ok (.aload_n 0, 1) := by decide +kernel
theorem d39_43 : decode C39 43 = .ok (.iconst 3, 1) := by decide +kernel
theorem d39_44 : decode C39 44 = .ok (.invokevirtual 9, 3) := by decide +kernel
theorem d39_47 : decode C39 47 = .ok (.aload_n 1, 1) := by decide +kernel
theorem d39_48 : decode C39 48 = .ok (.iconst 3, 1) := by decide +kernel
theorem d39_49 : decode C39 49 = .ok (.invokevirtual 9, 3) := by decide +kernel
theorem d39_52 : decode C39 52 = .ok (.if_icmp .ne 48, 3) := by decide +kernel
theorem d39_55 : decode C39 55 = .ok (.aload_n 0, 1) := by decide +kernel
theorem d39_56 : decode C39 56 = .ok (.iconst 4, 1) := by decide +kernel
theorem d39_57 : decode C39 57 = .ok (.invokevirtual 9, 3) := by decide +kernel
theorem d39_60 : decode C39 60 = .ok (.aload_n 1, 1) := by decide +kernel
theorem d39_61 : decode C39 61 = .ok (.iconst 4, 1) := by decide +kernel
theorem d39_62 : decode C39 62 = .ok (.invokevirtual 9, 3) := by decide +kernel
theorem d39_65 : decode C39 65 = .ok (.if_icmp .ne 35, 3) := by decide +kernel
theorem d39_68 : decode C39 68 = .ok (.aload_n 0, 1) := by decide +kernel
theorem d39_69 : decode C39 69 = .ok (.iconst 5, 1) := by decide +kernel
theorem d39_70 : decode C39 70 = .ok (.invokevirtual 9, 3) := by decide +kernel
theorem d39_73 : decode C39 73 = .ok (.aload_n 1, 1) := by decide +kernel
theorem d39_74 : decode C39 74 = .ok (.iconst 5, 1) := by decide +kernel
theorem d39_75 : decode C39 75 = .ok (.invokevirtual 9, 3) := by decide +kernel
theorem d39_78 : decode C39 78 = .ok (.if_icmp .ne 22, 3) := by decide +kernel
theorem d39_81 : decode C39 81 = .ok (.aload_n 0, 1) := by decide +kernel
theorem d39_82 : decode C39 82 = .ok (.bipush 6, 2) := by decide +kernel
theorem d39_84 : decode C39 84 = .ok (.invokevirtual 9, 3) := by decide +kernel
theorem d39_87 : decode C39 87 = .ok (.aload_n 1, 1) := by decide +kernel
theorem d39_88 : decode C39 88 = .ok (.bipush 6, 2) := by decide +kernel
theorem d39_90 : decode C39 90 = .ok (.invokevirtual 9, 3) := by decide +kernel
theorem d39_93 : decode C39 93 = .ok (.if_icmp .ne 7, 3) := by decide +kernel
theorem d39_96 : decode C39 96 = .ok (.iconst 1, 1) := by decide +kernel
theorem d39_97 : decode C39 97 = .ok (.goto 4, 3) := by decide +kernel
theorem d39_101 : decode C39 101 = .ok (.ireturn, 1) := by decide +kernel
theorem d40_0 : decode C40 0 = .ok (.aload_n 0, 1) := by decide +kernel
theorem d40_1 : decode C40 1 = .ok (.invokevirtual 492, 3) := by decide +kernel
theorem d40_4 : decode C40 4 = .ok (.ifCond .eq 12, 3) := by decide +kernel
theorem d40_7 : decode C40 7 = .ok (.aload_n 0, 1) := by decide +kernel
theorem d40_8 : decode C40 8 = .ok (.getfield 9, 3) := by decide +kernel
theorem d40_11 : decode C40 11 = .ok (.iload_n 1, 1) := by decide +kernel
theorem d40_12 : decode C40 12 = .ok (.invokestatic 495, 3) := by decide +kernel
theorem d40_15 : decode C40 15 = .ok (.ireturn, 1) := by decide +kernel
theorem d40_16 : decode C40 16 = .ok (.aload_n 0, 1) := by decide +kernel
theorem d40_17 : decode C40 17 = .ok (.getfield 9, 3) := by decide +kernel
theorem d40_20 : decode C40 20 = .ok (.iload_n 1, 1) := by decide +kernel
theorem d40_21 : decode C40 21 = .ok (.invokestatic 498, 3) := by decide +kernel
theorem d40_24 : decode C40 24 = .ok (.ireturn, 1) := by decide +kernel
theorem d41_0 : decode C41 0 = .ok (.getstatic 38, 3) := by decide +kernel
theorem d41_3 : decode C41 3 = .ok (.ifCond .eq 14, 3) := by decide +kernel
theorem d41_6 : decode C41 6 = .ok (.aload_n 0, 1) := by decide +kernel
theorem d41_7 : decode C41 7 = .ok (.getfield 15, 3) := by decide +kernel
theorem d41_10 : decode C41 10 = .ok (.ifCond .ne 7, 3) := by decide +kernel
theorem d41_13 : decode C41 13 = .ok (.iconst 1, 1) := by decide +kernel
theorem d41_14 : decode C41 14 = .ok (.goto 4, 3) := by decide +kernel
theorem d41_17 : decode C41 17 = .ok (.iconst 0, 1) := by decide +kernel
theorem d41_18 : decode C41 18 = .ok (.ireturn, 1) := by decide +kernel
theorem d42_0 : decode C42 0 = .ok (.iload_n 1, 1) := by decide +kernel
theorem d42_1 : decode C42 1 = .ok (.aload_n 0, 1) := by decide +kernel
theorem d42_2 : decode C42 2 = .ok (.arraylength, 1) := by decide +kernel
theorem d42_3 : decode C42 3 = .ok (.invokestatic 9, 3) := by decide +kernel
theorem d42_6 : decode C42 6 = .ok (.aload_n 0, 1) := by decide +kernel
theorem d42_7 : decode C42 7 = .ok (.iload_n 1, 1) := by decide +kernel
theorem d42_8 : decode C42 8 = .ok (.baload, 1) := by decide +kernel
theorem d42_9 : decode C42 9 = .ok (.sipush 255, 3) := by decide +kernel
theorem d42_12 : decode C42 12 = .ok (.iand, 1) := by decide +kernel
theorem d42_13 : decode C42 13 = .ok (.i2c, 1) := by decide +kernel
theorem d42_14 : decode C42 14 = .ok (.ireturn, 1) := by decide +kernel
theorem d43_0 : decode C43 0 = .ok (.iload_n 0, 1) := by decide +kernel
theorem d43_1 : decode C43 1 = .ok (.iload_n 1, 1) := by decide +kernel
theorem d43_2 : decode C43 2 = .ok (.getstatic 1053, 3) := by decide +kernel
theorem d43_5 : decode C43 5 = .ok (.invokestatic 1059, 3) := by decide +kernel
theorem d43_8 : decode C43 8 = .ok (.pop, 1) := by decide +kernel
theorem d43_9 : decode C43 9 = .ok (.return_, 1) := by decide +kernel
theorem d44_0 : decode C44 0 = .ok (.iload_n 0, 1) := by decide +kernel
theorem d44_1 : decode C44 1 = .ok (.ifCond .lt 8, 3) := by decide +kernel
theorem d44_4 : decode C44 4 = .ok (.iload_n 0, 1) := by decide +kernel
theorem d44_5 : decode C44 5 = .ok (.iload_n 1, 1) := by decide +kernel
theorem d44_6 : decode C44 6 = .ok (.if_icmp .lt 10, 3) := by decide +kernel
theorem d44_16 : decode C44 16 = .ok (.iload_n 0, 1) := by decide +kernel
theorem d44_17 : decode C44 17 = .ok (.ireturn, 1) := by decide +kernel
theorem d45_0 : decode C45 0 = .ok (.ldc 15, 2) := by decide +kernel
theorem d45_2 : decode C45 2 = .ok (.astore_n 2, 1) := by decide +kernel
theorem d45_3 : decode C45 3 = .ok (.aload_n 0, 1) := by decide +kernel
theorem d45_4 : decode C45 4 = .ok (.iload_n 1, 1) := by decide +kernel
theorem d45_5 : decode C45 5 = .ok (.invokevirtual 9, 3) := by decide +kernel
theorem d45_8 : decode C45 8 = .ok (.aload_n 2, 1) := by decide +kernel
theorem d45_9 : decode C45 9 = .ok (.iconst 0, 1) := by decide +kernel
theorem d45_10 : decode C45 10 = .ok (.invokevirtual 9, 3) := by decide +kernel
theorem d45_13 : decode C45 13 = .ok (.if_icmp .ne 235, 3) := by decide +kernel
theorem d45_16 : decode C45 16 = .ok (.aload_n 0, 1) := by decide +kernel
theorem d45_17 : decode C45 17 = .ok (.iload_n 1, 1) := by decide +kernel
theorem d45_18 : decode C45 18 = .ok (.iconst 1, 1) := by decide +kernel
theorem d45_19 : decode C45 19 = .ok (.iadd, 1) := by decide +kernel
theorem d45_20 : decode C45 20 = .ok (.invokevirtual 9, 3) := by decide +kernel
theorem d45_23 : decode C45 23 = .ok (.aload_n 2, 1) := by decide +kernel
theorem d45_24 : decode C45 24 = .ok (.iconst 1, 1) := by decide +kernel
theorem d45_25 : decode C45 25 = .ok (.invokevirtual 9, 3) := by decide +kernel
theorem d45_28 : decode C45 28 = .ok (.if_icmp .ne 220, 3) := by decide +kernel
theorem d45_31 : decode C45 31 = .ok (.aload_n 0, 1) := by decide +kernel
theorem d45_32 : decode C45 32 = .ok (.iload_n 1, 1) := by decide +kernel
theorem d45_33 : decode C45 33 = .ok (.iconst 2, 1) := by decide +kernel
theorem d45_34 : decode C45 34 = .ok (.iadd, 1) := by decide +kernel
theorem d45_35 : decode C45 35 = .ok (.invokevirtual 9, 3) := by decide +kernel
theorem d45_38 : decode C45 38 = .ok (.aload_n 2, 1) := by decide +kernel
theorem d45_39 : decode C45 39 = .ok (.iconst 2, 1) := by decide +kernel
theorem d45_40 : decode C45 40 = .ok (.invokevirtual 9, 3) := by decide +kernel
theorem d45_43 : decode C45 43 = .ok (.if_icmp .ne 205, 3) := by decide +kernel
theorem d45_46 : decode C45 46 = .ok (.aload_n 0, 1) := by decide +kernel
theorem d45_47 : decode C45 47 = .ok (.iload_n 1, 1) := by decide +kernel
theorem d45_48 : decode C45 48 = .ok (.iconst 3, 1) := by decide +kernel
theorem d45_49 : decode C45 49 = .ok (.iadd, 1) := by decide +kernel
theorem d45_50 : decode C45 50 = .ok (.invokevirtual 9, 3) := by decide +kernel
theorem d45_53 : decode C45 53 = .ok (.aload_n 2, 1) := by decide +kernel
theorem d45_54 : decode C45 54 = .ok (.iconst 3, 1) := by decide +kernel
theorem d45_55 : decode C45 55 = .ok (.invokevirtual 9, 3) := by decide +kernel
theorem d45_58 : decode C45 58 = .ok (.if_icmp .ne 190, 3) := by decide +kernel
theorem d45_61 : decode C45 61 = .ok (.aload_n 0, 1) := by decide +kernel
theorem d45_62 : decode C45 62 = .ok (.iload_n 1, 1) := by decide +kernel
theorem d45_63 : decode C45 63 = .ok (.iconst 4, 1) := by decide +kernel
theorem d45_64 : decode C45 64 = .ok (.iadd, 1) := by decide +kernel
theorem d45_65 : decode C45 65 = .ok (.invokevirtual 9, 3) := by decide +kernel
theorem d45_68 : decode C45 68 = .ok (.aload_n 2, 1) := by decide +kernel
theorem d45_69 : decode C45 69 = .ok (.iconst 4, 1) := by decide +kernel
theorem d45_70 : decode C45 70 = .ok (.invokevirtual 9, 3) := by decide +kernel
theorem d45_73 : decode C45 73 = .ok (.if_icmp .ne 175, 3) := by decide +kernel
theorem d45_76 : decode C45 76 = .ok (.aload_n 0, 1) := by decide +kernel
theorem d45_77 : decode C45 77 = .ok (.iload_n 1, 1) := by decide +kernel
theorem d45_78 : decode C45 78 = .ok (.iconst 5, 1) := by decide +kernel
theorem d45_79 : decode C45 79 = .ok (.iadd, 1) := by decide +kernel
theorem d45_80 : decode C45 80 = .ok (.invokevirtual 9, 3) := by decide +kernel
theorem d45_83 : decode C45 83 = .ok (.aload_n 2, 1) := by decide +kernel
theorem d45_84 : decode C45 84 = .ok (.iconst 5, 1) := by decide +kernel
theorem d45_85 : decode C45 85 = .ok (.invokevirtual 9, 3) := by decide +kernel
theorem d45_88 : decode C45 88 = .ok (.if_icmp .ne 160, 3) := by decide +kernel
theorem d45_91 : decode C45 91 = .ok (.aload_n 0, 1) := by decide +kernel
theorem d45_92 : decode C45 92 = .ok (.iload_n 1, 1) := by decide +kernel
theorem d45_93 : decode C45 93 = .ok (.bipush 6, 2) := by decide +kernel
theorem d45_95 : decode C45 95 = .ok (.iadd, 1) := by decide +kernel
theorem d45_96 : decode C45 96 = .ok (.invokevirtual 9, 3) := by decide +kernel
theorem d45_99 : decode C45 99 = .ok (.aload_n 2, 1) := by decide +kernel
theorem d45_100 : decode C45 100 = .ok (.bipush 6, 2) := by decide +kernel
theorem d45_102 : decode C45 102 = .ok (.invokevirtual 9, 3) := by decide +kernel
theorem d45_105 : decode C45 105 = .ok (.if_icmp .ne 143, 3) := by decide +kernel
theorem d45_108 : decode C45 108 = .ok (.aload_n 0, 1) := by decide +kernel
theorem d45_109 : decode C45 109 = .ok (.iload_n 1, 1) := by decide +kernel
theorem d45_110 : decode C45 110 = .ok (.bipush 7, 2) := by decide +kernel
theorem d45_112 : decode C45 112 = .ok (.iadd, 1) := by decide +kernel
theorem d45_113 : decode C45 113 = .ok (.invokevirtual 9, 3) := by decide +kernel
theorem d45_116 : decode C45 116 = .ok (.aload_n 2, 1) := by decide +kernel
theorem d45_117 : decode C45 117 = .ok (.bipush 7, 2) := by decide +kernel
theorem d45_119 : decode C45 119 = .ok (.invokevirtual 9, 3) := by decide +kernel
theorem d45_122 : decode C45 122 = .ok (.if_icmp .ne 126, 3) := by decide +kernel
theorem d45_125 : decode C45 125 = .ok (.aload_n 0, 1) := by decide +kernel
theorem d45_126 : decode C45 126 = .ok (.iload_n 1, 1) := by decide +kernel
theorem d45_127 : decode C45 127 = .ok (.bipush 8, 2) := by decide +kernel
theorem d45_129 : decode C45 129 = .ok (.iadd, 1) := by decide +kernel
theorem d45_130 : decode C45 130 = .ok (.invokevirtual 9, 3) := by decide +kernel
theorem d45_133 : decode C45 133 = .ok (.aload_n 2, 1) := by decide +kernel
theorem d45_134 : decode C45 134 = .ok (.bipush 8, 2) := by decide +kernel
theorem d45_136 : decode C45 136 = .ok (.invokevirtual 9, 3) := by decide +kernel
theorem d45_139 : decode C45 139 = .ok (.if_icmp .ne 109, 3) := by decide +kernel
theorem d45_142 : decode C45 142 = .ok (.aload_n 0, 1) := by decide +kernel
theorem d45_143 : decode C45 143 = .ok (.iload_n 1, 1) := by decide +kernel
theorem d45_144 : decode C45 144 = .ok (.bipush 9, 2) := by decide +kernel
theorem d45_146 : decode C45 146 = .ok (.iadd, 1) := by decide +kernel
theorem d45_147 : decode C45 147 = .ok (.invokevirtual 9, 3) := by decide +kernel
theorem d45_150 : decode C45 150 = .ok (.aload_n 2, 1) := by decide +kernel
theorem d45_151 : decode C45 151 = .ok (.bipush 9, 2) := by decide +kernel
theorem d45_153 : decode C45 153 = .ok (.invokevirtual 9, 3) := by decide +kernel
theorem d45_156 : decode C45 156 = .ok (.if_icmp .ne 92, 3) := by decide +kernel
theorem d45_159 : decode C45 159 = .ok (.aload_n 0, 1) := by decide +kernel
theorem d45_160 : decode C45 160 = .ok (.iload_n 1, 1) := by decide +kernel
theorem d45_161 : decode C45 161 = .ok (.bipush 10, 2) := by decide +kernel
theorem d45_163 : decode C45 163 = .ok (.iadd, 1) := by decide +kernel
theorem d45_164 : decode C45 164 = .ok (.invokevirtual 9, 3) := by decide +kernel
theorem d45_167 : decode C45 167 = .ok (.aload_n 2, 1) := by decide +kernel
theorem d45_168 : decode C45 168 = .ok (.bipush 10, 2) := by decide +kernel
theorem d45_170 : decode C45 170 = .ok (.invokevirtual 9, 3) := by decide +kernel
theorem d45_173 : decode C45 173 = .ok (.if_icmp .ne 75, 3) := by decide +kernel
theorem d45_176 : decode C45 176 = .ok (.aload_n 0, 1) := by decide +kernel
theorem d45_177 : decode C45 177 = .ok (.iload_n 1, 1) := by decide +kernel
theorem d45_178 : decode C45 178 = .ok (.bipush 11, 2) := by decide +kernel
theorem d45_180 : decode C45 180 = .ok (.iadd, 1) := by decide +kernel
theorem d45_181 : decode C45 181 = .ok (.invokevirtual 9, 3) := by decide +kernel
theorem d45_184 : decode C45 184 = .ok (.aload_n 2, 1) := by decide +kernel
theorem d45_185 : decode C45 185 = .ok (.bipush 11, 2) := by decide +kernel
theorem d45_187 : decode C45 187 = .ok (.invokevirtual 9, 3) := by decide +kernel
theorem d45_190 : decode C45 190 = .ok (.if_icmp .ne 58, 3) := by decide +kernel
theorem d45_193 : decode C45 193 = .ok (.aload_n 0, 1) := by decide +kernel
theorem d45_194 : decode C45 194 = .ok (.iload_n 1, 1) := by decide +kernel
theorem d45_195 : decode C45 195 = .ok (.bipush 12, 2) := by decide +kernel
theorem d45_197 : decode C45 197 = .ok (.iadd, 1) := by decide +kernel
theorem d45_198 : decode C45 198 = .ok (.invokevirtual 9, 3) := by decide +kernel
theorem d45_201 : decode C45 201 = .ok (.aload_n 2, 1) := by decide +kernel
theorem d45_202 : decode C45 202 = .ok (.bipush 12, 2) := by decide +kernel
theorem d45_204 : decode C45 204 = .ok (.invokevirtual 9, 3) := by decide +kernel
theorem d45_207 : decode C45 207 = .ok (.if_icmp .ne 41, 3) := by decide +kernel
theorem d45_210 : decode C45 210 = .ok (.aload_n 0, 1) := by decide +kernel
theorem d45_211 : decode C45 211 = .ok (.iload_n 1, 1) := by decide +kernel
theorem d45_212 : decode C45 212 = .ok (.bipush 13, 2) := by decide +kernel
theorem d45_214 : decode C45 214 = .ok (.iadd, 1) := by decide +kernel
theorem d45_215 : decode C45 215 = .ok (.invokevirtual 9, 3) := by decide +kernel
theorem d45_218 : decode C45 218 = .ok (.aload_n 2, 1) := by decide +kernel
theorem d45_219 : decode C45 219 = .ok (.bipush 13, 2) := by decide +kernel
theorem d45_221 : decode C45 221 = .ok (.invokevirtual 9, 3) := by decide +kernel
theorem d45_224 : decode C45 224 = .ok (.if_icmp .ne 24, 3) := by decide +kernel
theorem d45_227 : decode C45 227 = .ok (.aload_n 0, 1) := by decide +kernel
theorem d45_228 : decode C45 228 = .ok (.iload_n 1, 1) := by decide +kernel
theorem d45_229 : decode C45 229 = .ok (.bipush 14, 2) := by decide +kernel
theorem d45_231 : decode C45 231 = .ok (.iadd, 1) := by decide +kernel
theorem d45_232 : decode C45 232 = .ok (.invokevirtual 9, 3) := by decide +kernel
theorem d45_235 : decode C45 235 = .ok (.aload_n 2, 1) := by decide +kernel
theorem d45_236 : decode C45 236 = .ok (.bipush 14, 2) := by decide +kernel
theorem d45_238 : decode C45 238 = .ok (.invokevirtual 9, 3) := by decide +kernel
theorem d45_241 : decode C45 241 = .ok (.if_icmp .ne 7, 3) := by decide +kernel
theorem d45_244 : decode C45 244 = .ok (.iconst 1, 1) := by decide +kernel
theorem d45_245 : decode C45 245 = .ok (.goto 4, 3) := by decide +kernel
theorem d45_249 : decode C45 249 = .ok (.ireturn, 1) := by decide +kernel
theorem d46_0 : decode C46 0 = .ok (.iload_n 2, 1) := by decide +kernel
theorem d46_1 : decode C46 1 = .ok (.invokestatic 107, 3) := by decide +kernel
theorem d46_4 : decode C46 4 = .ok (.astore_n 3, 1) := by decide +kernel
theorem d46_5 : decode C46 5 = .ok (.iconst 0, 1) := by decide +kernel
theorem d46_6 : decode C46 6 = .ok (.istore 4, 2) := by decide +kernel
theorem d46_8 : decode C46 8 = .ok (.iload 4, 2) := by decide +kernel
theorem d46_10 : decode C46 10 = .ok (.iload_n 2, 1) := by decide +kernel
theorem d46_11 : decode C46 11 = .ok (.if_icmp .ge 21, 3) := by decide +kernel
theorem d46_14 : decode C46 14 = .ok (.aload_n 3, 1) := by decide +kernel
theorem d46_15 : decode C46 15 = .ok (.iload 4, 2) := by decide +kernel
theorem d46_17 : decode C46 17 = .ok (.aload_n 0, 1) := by decide +kernel
theorem d46_18 : decode C46 18 = .ok (.iload_n 1, 1) := by decide +kernel
theorem d46_19 : decode C46 19 = .ok (.caload, 1) := by decide +kernel
theorem d46_20 : decode C46 20 = .ok (.invokestatic 111, 3) := by decide +kernel
theorem d46_23 : decode C46 23 = .ok (.iinc 1 1, 3) := by decide +kernel
theorem d46_26 : decode C46 26 = .ok (.iinc 4 1, 3) := by decide +kernel
theorem d46_29 : decode C46 29 = .ok (.goto (-21), 3) := by decide +kernel
theorem d46_32 : decode C46 32 = .ok (.aload_n 3, 1) := by decide +kernel
theorem d46_33 : decode C46 33 = .ok (.areturn, 1) := by decide +kernel
theorem d47_0 : decode C47 0 = .ok (.iload_n 0, 1) := by decide +kernel
theorem d47_1 : decode C47 1 = .ok (.invokestatic 11, 3) := by decide +kernel
theorem d47_4 : decode C47 4 = .ok (.newarray .byte, 2) := by decide +kernel
theorem d47_6 : decode C47 6 = .ok (.areturn, 1) := by decide +kernel
theorem d48_0 : decode C48 0 = .ok (.iload_n 0, 1) := by decide +kernel
theorem d48_1 : decode C48 1 = .ok (.ifCond .ge 11, 3) := by decide +kernel
theorem d48_12 : decode C48 12 = .ok (.iload_n 0, 1) := by decide +kernel
theorem d48_13 : decode C48 13 = .ok (.ldc 20, 2) := by decide +kernel
theorem d48_15 : decode C48 15 = .ok (.if_icmp .lt 40, 3) := by decide +kernel
theorem d48_55 : decode C48 55 = .ok (.iload_n 0, 1) := by decide +kernel
theorem d48_56 : decode C48 56 = .ok (.iconst 1, 1) := by decide +kernel
theorem d48_57 : decode C48 57 = .ok (.ishl, 1) := by decide +kernel
theorem d48_58 : decode C48 58 = .ok (.ireturn, 1) := by decide +kernel
theorem d49_0 : decode C49 0 = .ok (.getstatic 44, 3) := by decide +kernel
theorem d49_3 : decode C49 3 = .ok (.ifCond .ne 25, 3) := by decide +kernel
theorem d49_28 : decode C49 28 = .ok (.iload_n 1, 1) := by decide +kernel
theorem d49_29 : decode C49 29 = .ok (.iconst 1, 1) := by decide +kernel
theorem d49_30 : decode C49 30 = .ok (.ishl, 1) := by decide +kernel
theorem d49_31 : decode C49 31 = .ok (.istore_n 1, 1) := by decide +kernel
theorem d49_32 : decode C49 32 = .ok (.aload_n 0, 1) := by decide +kernel
theorem d49_33 : decode C49 33 = .ok (.iload_n 1, 1) := by decide +kernel
theorem d49_34 : decode C49 34 = .ok (.iinc 1 1, 3) := by decide +kernel
theorem d49_37 : decode C49 37 = .ok (.iload_n 2, 1) := by decide +kernel
theorem d49_38 : decode C49 38 = .ok (.getstatic 59, 3) := by decide +kernel
theorem d49_41 : decode C49 41 = .ok (.ishr, 1) := by decide +kernel
theorem d49_42 : decode C49 42 = .ok (.i2b, 1) := by decide +kernel
theorem d49_43 : decode C49 43 = .ok (.bastore, 1) := by decide +kernel
theorem d49_44 : decode C49 44 = .ok (.aload_n 0, 1) := by decide +kernel
theorem d49_45 : decode C49 45 = .ok (.iload_n 1, 1) := by decide +kernel
theorem d49_46 : decode C49 46 = .ok (.iload_n 2, 1) := by decide +kernel
theorem d49_47 : decode C49 47 = .ok (.getstatic 63, 3) := by decide +kernel
theorem d49_50 : decode C49 50 = .ok (.ishr, 1) := by decide +kernel
theorem d49_51 : decode C49 51 = .ok (.i2b, 1) := by decide +kernel
theorem d49_52 : decode C49 52 = .ok (.bastore, 1) := by decide +kernel
theorem d49_53 : decode C49 53 = .ok (.return_, 1) := by decide +kernel
theorem d50_0 : decode C50 0 = .ok (.getstatic 44, 3) := by decide +kernel
theorem d50_3 : decode C50 3 = .ok (.ifCond .ne 25, 3) := by decide +kernel
theorem d50_28 : decode C50 28 = .ok (.iload_n 1, 1) := by decide +kernel
theorem d50_29 : decode C50 29 = .ok (.iconst 1, 1) := by decide +kernel
theorem d50_30 : decode C50 30 = .ok (.ishl, 1) := by decide +kernel
theorem d50_31 : decode C50 31 = .ok (.istore_n 1, 1) := by decide +kernel
theorem d50_32 : decode C50 32 = .ok (.aload_n 0, 1) := by decide +kernel
theorem d50_33 : decode C50 33 = .ok (.iload_n 1, 1) := by decide +kernel
theorem d50_34 : decode C50 34 = .ok (.iinc 1 1, 3) := by decide +kernel
theorem d50_37 : decode C50 37 = .ok (.baload, 1) := by decide +kernel
theorem d50_38 : decode C50 38 = .ok (.sipush 255, 3) := by decide +kernel
theorem d50_41 : decode C50 41 = .ok (.iand, 1) := by decide +kernel
theorem d50_42 : decode C50 42 = .ok (.getstatic 59, 3) := by decide +kernel
theorem d50_45 : decode C50 45 = .ok (.ishl, 1) := by decide +kernel
theorem d50_46 : decode C50 46 = .ok (.aload_n 0, 1) := by decide +kernel
theorem d50_47 : decode C50 47 = .ok (.iload_n 1, 1) := by decide +kernel
theorem d50_48 : decode C50 48 = .ok (.baload, 1) := by decide +kernel
theorem d50_49 : decode C50 49 = .ok (.sipush 255, 3) := by decide +kernel
theorem d50_52 : decode C50 52 = .ok (.iand, 1) := by decide +kernel
theorem d50_53 : decode C50 53 = .ok (.getstatic 63, 3) := by decide +kernel
theorem d50_56 : decode C50 56 = .ok (.ishl, 1) := by decide +kernel
theorem d50_57 : decode C50 57 = .ok (.ior, 1) := by decide +kernel
theorem d50_58 : decode C50 58 = .ok (.i2c, 1) := by decide +kernel
theorem d50_59 : decode C50 59 = .ok (.ireturn, 1) := by decide +kernel
theorem d51_0 : decode C51 0 = .ok (.aload_n 0, 1) := by decide +kernel
theorem d51_1 : decode C51 1 = .ok (.invokevirtual 83, 3) := by decide +kernel
theorem d51_4 : decode C51 4 = .ok (.ifCond .ne 4, 3) := by decide +kernel
theorem d51_7 : decode C51 7 = .ok (.return_, 1) := by decide +kernel
theorem d51_8 : decode C51 8 = .ok (.aload_n 0, 1) := by decide +kernel
theorem d51_9 : decode C51 9 = .ok (.getfield 15, 3) := by decide +kernel
theorem d51_12 : decode C51 12 = .ok (.arraylength, 1) := by decide +kernel
theorem d51_13 : decode C51 13 = .ok (.invokestatic 26, 3) := by decide +kernel
theorem d51_16 : decode C51 16 = .ok (.astore_n 1, 1) := by decide +kernel
theorem d51_17 : decode C51 17 = .ok (.aload_n 0, 1) := by decide +kernel
theorem d51_18 : decode C51 18 = .ok (.getfield 15, 3) := by decide +kernel
theorem d51_21 : decode C51 21 = .ok (.iconst 0, 1) := by decide +kernel
theorem d51_22 : decode C51 22 = .ok (.aload_n 1, 1) := by decide +kernel
theorem d51_23 : decode C51 23 = .ok (.iconst 0, 1) := by decide +kernel
theorem d51_24 : decode C51 24 = .ok (.aload_n 0, 1) := by decide +kernel
theorem d51_25 : decode C51 25 = .ok (.getfield 79, 3) := by decide +kernel
theorem d51_28 : decode C51 28 = .ok (.invokestatic 125, 3) := by decide +kernel
theorem d51_31 : decode C51 31 = .ok (.aload_n 0, 1) := by decide +kernel
theorem d51_32 : decode C51 32 = .ok (.aload_n 1, 1) := by decide +kernel
theorem d51_33 : decode C51 33 = .ok (.putfield 15, 3) := by decide +kernel
theorem d51_36 : decode C51 36 = .ok (.aload_n 0, 1) := by decide +kernel
theorem d51_37 : decode C51 37 = .ok (.iconst 1, 1) := by decide +kernel
theorem d51_38 : decode C51 38 = .ok (.putfield 22, 3) := by decide +kernel
theorem d51_41 : decode C51 41 = .ok (.return_, 1) := by decide +kernel
theorem d52_0 : decode C52 0 = .ok (.aload_n 0, 1) := by decide +kernel
theorem d52_1 : decode C52 1 = .ok (.iload_n 1, 1) := by decide +kernel
theorem d52_2 : decode C52 2 = .ok (.aload_n 2, 1) := by decide +kernel
theorem d52_3 : decode C52 3 = .ok (.iload_n 3, 1) := by decide +kernel
theorem d52_4 : decode C52 4 = .ok (.iload 4, 2) := by decide +kernel
theorem d52_6 : decode C52 6 = .ok (.invokestatic 240, 3) := by decide +kernel
theorem d52_9 : decode C52 9 = .ok (.return_, 1) := by decide +kernel
theorem d53_0 : decode C53 0 = .ok (.iload_n 3, 1) := by decide +kernel
theorem d53_1 : decode C53 1 = .ok (.iload 4, 2) := by decide +kernel
theorem d53_3 : decode C53 3 = .ok (.aload_n 2, 1) := by decide +kernel
theorem d53_4 : decode C53 4 = .ok (.invokestatic 173, 3) := by decide +kernel
theorem d53_7 : decode C53 7 = .ok (.iconst 0, 1) := by decide +kernel
theorem d53_8 : decode C53 8 = .ok (.istore 5, 2) := by decide +kernel
theorem d53_10 : decode C53 10 = .ok (.iload 5, 2) := by decide +kernel
theorem d53_12 : decode C53 12 = .ok (.iload 4, 2) := by decide +kernel
theorem d53_14 : decode C53 14 = .ok (.if_icmp .ge 27, 3) := by decide +kernel
theorem d53_17 : decode C53 17 = .ok (.aload_n 2, 1) := by decide +kernel
theorem d53_18 : decode C53 18 = .ok (.iload_n 3, 1) := by decide +kernel
theorem d53_19 : decode C53 19 = .ok (.iinc 3 1, 3) := by decide +kernel
theorem d53_22 : decode C53 22 = .ok (.aload_n 0, 1) := by decide +kernel
theorem d53_23 : decode C53 23 = .ok (.iload_n 1, 1) := by decide +kernel
theorem d53_24 : decode C53 24 = .ok (.iinc 1 1, 3) := by decide +kernel
theorem d53_27 : decode C53 27 = .ok (.baload, 1) := by decide +kernel
theorem d53_28 : decode C53 28 = .ok (.sipush 255, 3) := by decide +kernel
theorem d53_31 : decode C53 31 = .ok (.iand, 1) := by decide +kernel
theorem d53_32 : decode C53 32 = .ok (.invokestatic 111, 3) := by decide +kernel
theorem d53_35 : decode C53 35 = .ok (.iinc 5 1, 3) := by decide +kernel
theorem d53_38 : decode C53 38 = .ok (.goto (-28), 3) := by decide +kernel
theorem d53_41 : decode C53 41 = .ok (.return_, 1) := by decide +kernel
theorem d54_0 : decode C54 0 = .ok (.iload_n 0, 1) := by decide +kernel
theorem d54_1 : decode C54 1 = .ok (.iload_n 1, 1) := by decide +kernel
theorem d54_2 : decode C54 2 = .ok (.aload_n 2, 1) := by decide +kernel
theorem d54_3 : decode C54 3 = .ok (.invokestatic 48, 3) := by decide +kernel
theorem d54_6 : decode C54 6 = .ok (.invokestatic 419, 3) := by decide +kernel
theorem d54_9 : decode C54 9 = .ok (.pop, 1) := by decide +kernel
theorem d54_10 : decode C54 10 = .ok (.return_, 1) := by decide +kernel
theorem d55_0 : decode C55 0 = .ok (.aload_n 0, 1) := by decide +kernel
theorem d55_1 : decode C55 1 = .ok (.arraylength, 1) := by decide +kernel
theorem d55_2 : decode C55 2 = .ok (.iconst 1, 1) := by decide +kernel
theorem d55_3 : decode C55 3 = .ok (.ishr, 1) := by decide +kernel
theorem d55_4 : decode C55 4 = .ok (.ireturn, 1) := by decide +kernel
theorem d56_0 : decode C56 0 = .ok (.iload_n 0, 1) := by decide +kernel
theorem d56_1 : decode C56 1 = .ok (.iload_n 1, 1) := by decide +kernel
theorem d56_2 : decode C56 2 = .ok (.iload_n 2, 1) := by decide +kernel
theorem d56_3 : decode C56 3 = .ok (.getstatic 1053, 3) := by decide +kernel
theorem d56_6 : decode C56 6 = .ok (.invokestatic 1065, 3) := by decide +kernel
theorem d56_9 : decode C56 9 = .ok (.ireturn, 1) := by decide +kernel
theorem d57_0 : decode C57 0 = .ok (.iload_n 2, 1) := by decide +kernel
theorem d57_1 : decode C57 1 = .ok (.iload_n 0, 1) := by decide +kernel
theorem d57_2 : decode C57 2 = .ok (.ior, 1) := by decide +kernel
theorem d57_3 : decode C57 3 = .ok (.iload_n 1, 1) := by decide +kernel
theorem d57_4 : decode C57 4 = .ok (.ior, 1) := by decide +kernel
theorem d57_5 : decode C57 5 = .ok (.ifCond .lt 10, 3) := by decide +kernel
theorem d57_8 : decode C57 8 = .ok (.iload_n 1, 1) := by decide +kernel
theorem d57_9 : decode C57 9 = .ok (.iload_n 2, 1) := by decide +kernel
theorem d57_10 : decode C57 10 = .ok (.iload_n 0, 1) := by decide +kernel
theorem d57_11 : decode C57 11 = .ok (.isub, 1) := by decide +kernel
theorem d57_12 : decode C57 12 = .ok (.if_icmp .le 11, 3) := by decide +kernel
theorem d57_23 : decode C57 23 = .ok (.iload_n 0, 1) := by decide +kernel
theorem d57_24 : decode C57 24 = .ok (.ireturn, 1) := by decide +kernel
theorem d58_0 : decode C58 0 = .ok (.iload_n 1, 1) := by decide +kernel
theorem d58_1 : decode C58 1 = .ok (.aload_n 0, 1) := by decide +kernel
theorem d58_2 : decode C58 2 = .ok (.invokestatic 67, 3) := by decide +kernel
theorem d58_5 : decode C58 5 = .ok (.aload_n 0, 1) := by decide +kernel
theorem d58_6 : decode C58 6 = .ok (.iload_n 1, 1) := by decide +kernel
theorem d58_7 : decode C58 7 = .ok (.invokestatic 71, 3) := by decide +kernel
theorem d58_10 : decode C58 10 = .ok (.ireturn, 1) := by decide +kernel
theorem d59_0 : decode C59 0 = .ok (.iload_n 0, 1) := by decide +kernel
theorem d59_1 : decode C59 1 = .ok (.aload_n 1, 1) := by decide +kernel
theorem d59_2 : decode C59 2 = .ok (.invokestatic 48, 3) := by decide +kernel
theorem d59_5 : decode C59 5 = .ok (.invokestatic 414, 3) := by decide +kernel
theorem d59_8 : decode C59 8 = .ok (.return_, 1) := by decide +kernel
theorem own_ext_refl (h : Heap) : Ext h h := ⟨Nat.le_refl _, fun _ _ q => q⟩
theorem own_ext_trans {h h' h'' : Heap} (E : Ext h h') (F : Ext h' h'') : Ext h h'' := ⟨Nat.le_trans E.1 F.1, fun a c q => F.2 a c (E.2 a c q)⟩
theorem own_ext_keep {h h' h'' : Heap} {ws : List Addr} (E : Ext h h') (K : Keep h' h'' ws) (q : ∀ x ∈ ws, h.size ≤ x) : Ext h h'' := ⟨Nat.le_trans E.1 K.1, fun a c r => K.2.1 a c (E.2 a c r) fun z => absurd (Array.getElem?_eq_some_iff.mp r).1 (Nat.not_lt.mpr (q a z))⟩
theorem own_ext_wr {h h' h'' : Heap} {a : Addr} {sl : Nat} {v : Value} (E : Ext h h') (W : Wr h' h'' a sl v) (q : h.size ≤ a) : Ext h h'' := own_ext_keep E (Keep.of_wr W) (allS q all0)
theorem own_endW {s t : State} {o : Outcome} {L : List Loc} {k n k' n' : Nat} (h : ReturnedEndW s o t L k n) (hk : k ≤ k') (hn : n ≤ n') : ReturnedEndW s o t L k' n' := ⟨h.1, h.2.1, h.2.2.1, h.2.2.2.mono hk hn⟩
def Sts (Z : State) (h : Heap) (zc : Int32) (fm : Value) : Prop := Sta Z h "java/lang/String" "COMPACT_STRINGS" "Z" (.int zc) ∧ Sta Z h "jdk/internal/util/Preconditions" "SIOOBE_FORMATTER" "Ljava/util/function/BiFunction;" fm ∧ Sta Z h "java/lang/StringUTF16" "$assertionsDisabled" "Z" (.int (1 : Int32)) ∧ Sta Z h "java/lang/StringUTF16" "HI_BYTE_SHIFT" "I" (.int (0 : Int32)) ∧ Sta Z h "java/lang/StringUTF16" "LO_BYTE_SHIFT" "I" (.int (8 : Int32)) ∧ (¬ zc = (0 : Int32)) ∧ fm.isRef = true
theorem own_cat {v : Value} (h : v.isRef = true) : v.category = 1 := by cases v <;> simp_all [Value.isRef, Value.category]
theorem own_ef3 (m : MethodId) (x y : Int32) {v : Value} (h : v.isRef = true) : entryFrame m #[.int x, .int y, v] 3 = mkF m 0 #[iv x, iv y, .val v] [] := by cases v <;> first | (simp [Value.isRef] at h; done) | rfl
theorem own_ef4 (m : MethodId) (x y z : Int32) {v : Value} (h : v.isRef = true) : entryFrame m #[.int x, .int y, .int z, v] 4 = mkF m 0 #[iv x, iv y, iv z, .val v] [] := by cases v <;> first | (simp [Value.isRef] at h; done) | rfl
theorem own_old0 {Z : State} {n0 : Nat} {h : Heap} (Y : Old Z n0 h) : n0 ≤ h.size := by rw [← Y.1]; exact Y.2.1
theorem own_nb8 (x : Int32) : nar .byte (x.toInt8.toInt32) = StrChars.lo8 x := by
  show (x.toInt8.toInt32).toInt8.toInt32 = x.toInt8.toInt32
  simp
theorem own_us {vs : List Value} {d : Value} {z : Int32} {k : Nat} (e : z.toNatClampNeg = k) (h : vs.length = k) : vs = (List.range z.toNatClampNeg).map fun i => vs.getD ((0 : Int32).toNatClampNeg + i) d := by
  have e0 : (0 : Int32).toNatClampNeg = 0 := by decide
  rw [e, e0]
  refine List.ext_getElem (by simp [h]) fun i h1 h2 => ?_
  simp [List.getD_eq_getElem?_getD, h1]
theorem own_tk {vs : List Value} {d : Value} {z : Int32} {k : Nat} (e : z.toNatClampNeg = k) (h : k ≤ vs.length) : vs.take k = (List.range z.toNatClampNeg).map fun i => vs.getD ((0 : Int32).toNatClampNeg + i) d := by
  have e0 : (0 : Int32).toNatClampNeg = 0 := by decide
  rw [e, e0]
  refine List.ext_getElem (by simp [h]) fun i h1 h2 => ?_
  have h3 : i < vs.length := by simp at h1; omega
  simp [List.getD_eq_getElem?_getD, h3]
theorem own_decl {Z : State} {a0 : Array Value} {y : MethodName} {bytes : ByteArray} {ml : Nat} {rt : Option FieldType} (w1 : (Jvm.Cond.instanceMethod y).before a0 Z = true) (w2 : (Jvm.Cond.code y bytes ml rt).before a0 Z = true) : (Jvm.Cond.declares y).before a0 Z = true := by
  obtain ⟨mk, meth, hn, hm, hs, ha⟩ := Cond.instanceMethod_spec w1
  obtain ⟨m2, c, q1, -, -, -, -, -, -, hsig⟩ := Cond.code_spec hn w2
  cases hm.symm.trans q1
  simp [Cond.before, Cond.holds, Cond.value, hn, hm, hs, hsig]
theorem own_nf {s : State} {args : Array Value} {C : String} {y y' : MethodName} (hc : y.cls = y'.cls) (w : (Jvm.Cond.selects C y' y').before args s = true) (wi : (Jvm.Cond.instanceMethod y').before args s = true) : NotFace s y := fun r0 h0 => by
  obtain ⟨r', m', hn', -⟩ := Cond.instanceMethod_spec wi
  obtain ⟨kr, hk, hi⟩ := notFace_of_selects w r' hn'
  have e1 := findClass_of_methodNamed h0
  have e2 := findClass_of_methodNamed hn'
  rw [hc] at e1
  have e : r0.cls = r'.cls := Option.some.inj (e1.symm.trans e2)
  exact ⟨kr, by rw [e]; exact hk, hi⟩
theorem own_same {Z : State} {a0 : Array Value} {y : MethodName} (w : (Jvm.Cond.instanceMethod y).before a0 Z = true) (nf : NotFace Z y) (hy : y.cls ≠ "java/lang/invoke/MethodHandle" ∧ y.cls ≠ "java/lang/invoke/VarHandle") : (Jvm.Cond.sameMethod y.cls y.cls y.name y.desc).before a0 Z = true := by
  obtain ⟨r, meth, hn, -⟩ := Cond.instanceMethod_spec w
  obtain ⟨k, hk, hi⟩ := nf r hn
  have hf := State.methodFound?_of_named hn hy
  have hc := findClass_of_methodNamed hn
  have hn' : Z.methodNamed? ⟨y.cls, y.name, y.desc⟩ = some r := hn
  simp [Cond.before, Cond.holds, Cond.value, hc, hf, hn', hk, hi]
def TX (Z : State) (h : Heap) (a t : Addr) (k : ClassId) (N : Int32) (vs : List Value) (cd : Int32) : Prop := Exa Z h a "java/lang/String" ∧ Fld Z h a "java/lang/String" "coder" "B" (.int cd) ∧ Fld Z h a "java/lang/String" "value" "[B" (.ref t) ∧ Arv Z h t k .byte N vs (.int (0 : Int32))
section
variable {Z : State} {h h' : Heap} {a r t : Addr} {k : ClassId} {N cd cnt : Int32} {vs : List Value} {ws : List Addr}
theorem TX.ext (F : TX Z h a t k N vs cd) (E : Ext h h') : TX Z h' a t k N vs cd := ⟨F.1.ext E, F.2.1.ext E, F.2.2.1.ext E, F.2.2.2.ext E⟩
theorem TX.keep (F : TX Z h a t k N vs cd) (K : Keep h h' ws) (q1 : a ∉ ws) (q2 : t ∉ ws) : TX Z h' a t k N vs cd := ⟨F.1.keep K, F.2.1.keep K q1, F.2.2.1.keep K q1, F.2.2.2.keep K q2⟩
theorem TX.lt0 (F : TX Z h a t k N vs cd) : a < h.size := F.1.lt
theorem TX.lt1 (F : TX Z h a t k N vs cd) : t < h.size := F.2.2.2.lt
end
def SB (Z : State) (h : Heap) (r t : Addr) (k : ClassId) (N : Int32) (vs : List Value) (cd cnt : Int32) : Prop := Exa Z h r "java/lang/StringBuilder" ∧ Fld Z h r "java/lang/AbstractStringBuilder" "value" "[B" (.ref t) ∧ Fld Z h r "java/lang/AbstractStringBuilder" "coder" "B" (.int cd) ∧ Fld Z h r "java/lang/AbstractStringBuilder" "count" "I" (.int cnt) ∧ Fld Z h r "java/lang/AbstractStringBuilder" "maybeLatin1" "Z" (.int (0 : Int32)) ∧ Arv Z h t k .byte N vs (.int (0 : Int32)) ∧ t ≠ r
section
variable {Z : State} {h h' : Heap} {a r t : Addr} {k : ClassId} {N cd cnt : Int32} {vs : List Value} {ws : List Addr}
theorem SB.ext (F : SB Z h r t k N vs cd cnt) (E : Ext h h') : SB Z h' r t k N vs cd cnt := ⟨F.1.ext E, F.2.1.ext E, F.2.2.1.ext E, F.2.2.2.1.ext E, F.2.2.2.2.1.ext E, F.2.2.2.2.2.1.ext E, F.2.2.2.2.2.2⟩
theorem SB.keep (F : SB Z h r t k N vs cd cnt) (K : Keep h h' ws) (q1 : r ∉ ws) (q2 : t ∉ ws) : SB Z h' r t k N vs cd cnt := ⟨F.1.keep K, F.2.1.keep K q1, F.2.2.1.keep K q1, F.2.2.2.1.keep K q1, F.2.2.2.2.1.keep K q1, F.2.2.2.2.2.1.keep K q2, F.2.2.2.2.2.2⟩
theorem own_sep {a0 : Array Value} {ta : Addr} {ka : ClassId} {Na cda : Int32} {va : List Value} {n1 n2 : Nat} (A : TX Z h a ta ka Na va cda) (B : SB Z h r t k N vs cd cnt) (w1 : (Jvm.Cond.instantiable "java/lang/String" n1).before a0 Z = true) (w2 : (Jvm.Cond.instantiable "java/lang/StringBuilder" n2).before a0 Z = true) : a ≠ r ∧ ta ≠ r ∧ a ≠ t := ⟨Exa.ne A.1 B.1 (by decide), (Exa.neArv B.1 A.2.2.2 w2).symm, Exa.neArv A.1 B.2.2.2.2.2.1 w1⟩
end
def Qp (res : Option Value) (h0 : Heap) (n0 : Nat) (v : Option Value) (h : Heap) (L : List Loc) : Prop := v = res ∧ Fr n0 L ∧ h = h0
def Qn (Z : State) (N : Int32) (vs : List Value) (h0 : Heap) (n0 : Nat) (v : Option Value) (h : Heap) (L : List Loc) : Prop := ∃ (u : Addr) (k : ClassId), v = some (.ref u) ∧ Fr n0 L ∧ Ext h0 h ∧ h0.size ≤ u ∧ Arv Z h u k .byte N vs (.int (0 : Int32))
def Qa (Z : State) (d : Addr) (k : ClassId) (N : Int32) (vs : List Value) (h0 : Heap) (n0 : Nat) (v : Option Value) (h : Heap) (L : List Loc) : Prop := v = none ∧ Fr n0 L ∧ Keep h0 h [d] ∧ Arv Z h d k .byte N vs (.int (0 : Int32))
def Qg (Z : State) (r : Addr) (N : Int32) (vs : List Value) (cd cnt : Int32) (res : Option Value) (h0 : Heap) (n0 : Nat) (v : Option Value) (h : Heap) (L : List Loc) : Prop := ∃ (u : Addr) (k : ClassId), v = res ∧ Fr n0 L ∧ Keep h0 h [r] ∧ h0.size ≤ u ∧ SB Z h r u k N vs cd cnt
def Qb (Z : State) (r t : Addr) (k : ClassId) (N : Int32) (vs : List Value) (cd cnt : Int32) (res : Option Value) (h0 : Heap) (n0 : Nat) (v : Option Value) (h : Heap) (L : List Loc) : Prop := v = res ∧ Fr n0 L ∧ Keep h0 h [r, t] ∧ SB Z h r t k N vs cd cnt
def Qs (Z : State) (r : Addr) (N : Int32) (vs : List Value) (cd : Int32) (h0 : Heap) (n0 : Nat) (v : Option Value) (h : Heap) (L : List Loc) : Prop := ∃ (u : Addr) (k : ClassId), v = none ∧ Fr n0 L ∧ Keep h0 h [r] ∧ h0.size ≤ u ∧ TX Z h r u k N vs cd
def Qm (Z : State) (N : Int32) (vs : List Value) (cd : Int32) (h0 : Heap) (n0 : Nat) (v : Option Value) (h : Heap) (L : List Loc) : Prop := ∃ (m u : Addr) (k : ClassId), v = some (.ref m) ∧ Fr n0 L ∧ Ext h0 h ∧ h0.size ≤ m ∧ h0.size ≤ u ∧ TX Z h m u k N vs cd
def Qc (da : Addr) (j : Nat) (h0 : Heap) (n0 : Nat) (v : Option Value) (h : Heap) (L : List Loc) : Prop := v = some (.int (Int32.ofNat j)) ∧ Fr n0 L ∧ Keep h0 h [da]
def Qok (h0 : Heap) (n0 : Nat) (v : Option Value) (h : Heap) (L : List Loc) : Prop := v = some (.int (1 : Int32)) ∧ Fr n0 L ∧ Ext h0 h
def Q0 (h0 : Heap) (n0 : Nat) (v : Option Value) (h : Heap) (L : List Loc) : Prop := v = some (.int (1 : Int32)) ∧ Fr n0 L
theorem own_ext_of {h h' : Heap} (K : Keep h h' []) : Ext h h' := ⟨K.1, fun a c q => K.2.1 a c q nin0⟩
theorem ww {Z : State} {a0 : Array Value} (hw : ∀ d ∈ tables_1, d.before a0 Z = true) (i : Nat) {d : Jvm.Cond} (h : tables_1[i]? = some d) : d.before a0 Z = true := hw _ (List.mem_of_getElem? h)
abbrev MFa (l : Launch) (y : MethodName) (bs : ByteArray) (n : Nat) (r : Option FieldType) (ws : List Jvm.Cond) (R : Room) (Z : State) (h0 : Heap) (n0 : Nat) (as : Array Value) (Q : Heap → Nat → Option Value → Heap → List Loc → Prop) : Prop := MetFree l y (head1 (Jvm.Cond.code y bs n r :: ws) R) (fun a U => a = as ∧ Z.Warmed39 U.vm ∧ U.heap = h0) (fun _ _ _ _ _ => True) (fun _ U o U' => ∃ v L, o = .returned v ∧ Q h0 n0 v U'.heap L ∧ FrameEnd U o U' L R.cells R.slots)
abbrev Pr (p : Program) (e : Env) (below : List Frame) (A B : State) : Prop := ∀ t, Steps p.tables e below A t → Steps p.tables e below B t
theorem own_z {a : Nat} : 2 * 0 + a ≤ a := Nat.le_of_eq (Nat.zero_add a)
theorem mw {Z s : State} {a0 args : Array Value} (hZ : Z.Warmed39 s.vm) (hw : ∀ d ∈ tables_1, d.before a0 Z = true) (i : Nat) {d : Jvm.Cond} (h : tables_1[i]? = some d) (hd : (d.onTables && d.keepsFace) = true := by first | rfl | simp [Cond.onTables, Cond.keepsFace, Cond.keeps, Cond.steady]) : d.before args s = true := mvT hZ (ww hw i h) hd
theorem own_fr {n0 : Nat} {L A B : List Loc} (l : L = A ++ B) (N : Fr n0 A) (M : Fr n0 B) : Fr n0 L := by rw [l]; exact Fr.app N M
def own_bo (b : Int32) : Prop := b = (0 : Int32) ∨ b = (1 : Int32)
theorem own_nby {b : Int32} (h : own_bo b) : nar .byte b = b := by rcases h with rfl | rfl <;> rfl
def own_ch (x : Int32) : Prop := ¬ x < (0 : Int32) ∧ ¬ (255 : Int32) < x
def own_c16 (x : Int32) : Prop := ¬ x < (0 : Int32) ∧ ¬ (65535 : Int32) < x
theorem own_up16 {x : Int32} (h : own_ch x) : own_c16 x := by
  obtain ⟨h1, h2⟩ := h
  refine ⟨h1, fun q => h2 ?_⟩
  have a : (65535 : Int32).toInt = 65535 := by decide
  have b : (255 : Int32).toInt = 255 := by decide
  rw [Int32.lt_iff_toInt_lt] at q ⊢
  omega
theorem own_nar16 {x : Int32} (h : own_c16 x) : nar .char x = x := by
  obtain ⟨h1, h2⟩ := h
  have e := c_i2c x
  have a : (0 : Int32).toInt = 0 := by decide
  have b : (65535 : Int32).toInt = 65535 := by decide
  rw [Int32.lt_iff_toInt_lt] at h1 h2
  exact Int32.toInt_inj.mp (by show (x.toUInt32.toUInt16.toUInt32.toInt32).toInt = _; omega)
theorem own_i2c {x : Int32} (h : own_c16 x) : x.toUInt32.toUInt16.toUInt32.toInt32 = x := own_nar16 h
theorem own_pair {c : Int32} (h : own_c16 c) : (((StrChars.lo8 c &&& (255 : Int32)) <<< ((0 : Int32) &&& 31)) ||| ((StrChars.hi8 c &&& (255 : Int32)) <<< ((8 : Int32) &&& 31))).toUInt32.toUInt16.toUInt32.toInt32 = c := StrChars.pair_says h.1 h.2
theorem own_b255 {c : Int32} (h : own_ch c) : (StrChars.lo8 c &&& (255 : Int32)) = c := by
  have e1 := StrChars.lo8_and c
  obtain ⟨h1, h2⟩ := h
  have a : (0 : Int32).toInt = 0 := by decide
  have b : (255 : Int32).toInt = 255 := by decide
  rw [Int32.lt_iff_toInt_lt] at h1 h2
  have hc : c.toInt = c.toBitVec.toInt := rfl
  apply Int32.toBitVec_inj.mp
  apply BitVec.eq_of_toNat_eq
  rw [e1]
  have hb := BitVec.toInt_eq_toNat_cond c.toBitVec
  have hlt := c.toBitVec.isLt
  split at hb <;> omega
theorem own_n0 : (0 : Int32).toNatClampNeg = 0 := by decide
theorem own_h4 (z : Int32) : (0 : Int32).toNatClampNeg + z.toNatClampNeg ≤ z.toNatClampNeg := by rw [own_n0]; omega
theorem own_sub0 (x : Int32) : x - (0 : Int32) = x := by simp
abbrev GR (mc nb cd gw pg nn rr cap : Int32) (kx ky : Nat) : Prop := (nb >>> (cd &&& 31)) = cap ∧ (0 : Int32) < (mc - cap) ∧ ((mc <<< (cd &&& 31)) - nb) = gw ∧ (nb + ((2 : Int32) <<< (cd &&& 31))) = pg ∧ gw < pg ∧ (nb + pg) = nn ∧ (0 : Int32) < nn ∧ (¬ (2147483639 : Int32) < nn) ∧ (¬ nn = (2147483647 : Int32)) ∧ (nn >>> (cd &&& 31)) = rr ∧ (rr <<< (cd &&& 31)) = nn ∧ (¬ nn = nb) ∧ (¬ nn < nb) ∧ (¬ nb < 0) ∧ (¬ nn < 0) ∧ nb.toNatClampNeg = kx ∧ nn.toNatClampNeg = ky ∧ kx ≤ ky ∧ ky ≤ 68
abbrev NB (k ky : Int32) (kn : Nat) : Prop := (¬ k < (0 : Int32)) ∧ k < (1073741823 : Int32) ∧ (k <<< ((1 : Int32) &&& 31)) = ky ∧ (¬ ky < 0) ∧ ky.toNatClampNeg = kn ∧ kn ≤ 32
theorem own_oi {k : Nat} (h : k < 128) : (Int32.ofNat k).toInt = (k : Int) := (by decide +kernel : ∀ k : Fin 128, (Int32.ofNat k.val).toInt = (k.val : Int)) ⟨k, h⟩
theorem own_on {k : Nat} (h : k < 128) : (Int32.ofNat k).toNatClampNeg = k := (by decide +kernel : ∀ k : Fin 128, (Int32.ofNat k.val).toNatClampNeg = k.val) ⟨k, h⟩
theorem own_oa {k : Nat} (h : k < 128) : Int32.ofNat k + (1 : Int32) = Int32.ofNat (k + 1) := (by decide +kernel : ∀ k : Fin 128, Int32.ofNat k.val + (1 : Int32) = Int32.ofNat (k.val + 1)) ⟨k, h⟩
theorem own_os {k : Nat} (h : k < 64) : (Int32.ofNat k <<< ((1 : Int32) &&& 31)) = Int32.ofNat (2 * k) := (by decide +kernel : ∀ k : Fin 64, (Int32.ofNat k.val <<< ((1 : Int32) &&& 31)) = Int32.ofNat (2 * k.val)) ⟨k, h⟩
theorem own_o0 {k : Nat} (h : k < 128) : ¬ Int32.ofNat k < 0 := by rw [Int32.lt_iff_toInt_lt, own_oi h]; have : (0 : Int32).toInt = 0 := rfl; omega
theorem own_ol {k n : Nat} (h : k < n) (hn : n < 128) : Int32.ofNat k < Int32.ofNat n := by rw [Int32.lt_iff_toInt_lt, own_oi hn, own_oi (by omega)]; omega
def own_inf (cs : List Int32) : Nat → Nat → Nat → List Value → List Value
  | 0, _, _, vd => vd
  | r + 1, k, q, vd => own_inf cs r (k + 1) (q + 1) ((vd.set (2 * q) (.int (StrChars.lo8 (cs.getD k 0)))).set (2 * q + 1) (.int (StrChars.hi8 (cs.getD k 0))))
abbrev IF (oa la Na Nd ln : Int32) (qq nn nd : Nat) : Prop := Int32.ofNat qq = oa ∧ Int32.ofNat nn = la ∧ (¬ Na < la) ∧ Nd = Int32.ofNat nd ∧ 2 * (qq + nn) ≤ nd ∧ nd ≤ 68 ∧ nn ≤ 15 ∧ (Nd >>> ((1 : Int32) &&& 31)) = ln ∧ (¬ ((ln ||| oa) ||| la) < (0 : Int32)) ∧ ¬ (ln - oa) < la
abbrev GBX (db cd dp Na Nd : Int32) (dn kn : Nat) : Prop := (db <<< (cd &&& 31)) = dp ∧ (¬ dp < 0) ∧ dp.toNatClampNeg = dn ∧ Na.toNatClampNeg = kn ∧ dn + kn ≤ Nd.toNatClampNeg
theorem own_len0 {Z : State} {h : Heap} {a : Addr} {k : ClassId} {ty : FieldType} {z : Int32} {vs : List Value} {d : Value} (A : Arv Z h a k ty z vs d) : ¬ z < 0 := by obtain ⟨c, -, -, -, q, -⟩ := A; exact q
abbrev CR (kz Nb : Int32) (kn : Nat) : Prop := (¬ kz < (0 : Int32)) ∧ kz < Nb ∧ (¬ kz = Nb) ∧ kz.toNatClampNeg = kn ∧ kn ≤ 50 ∧ kn ≤ Nb.toNatClampNeg
def EX (Z : State) (h : Heap) (a : Addr) : Prop := Exa Z h a "com/example/tidegauge/tidegauge/UsageException" ∧ Unt h a ∧ Fld Z h a "java/lang/Throwable" "cause" "Ljava/lang/Throwable;" .null ∧ Fld Z h a "java/lang/Throwable" "stackTrace" "[Ljava/lang/StackTraceElement;" .null ∧ Fld Z h a "java/lang/Throwable" "suppressedExceptions" "Ljava/util/List;" .null ∧ Fld Z h a "java/lang/Throwable" "backtrace" "Ljava/lang/Object;" .null ∧ Fld Z h a "java/lang/Throwable" "detailMessage" "Ljava/lang/String;" .null
section
variable {Z : State} {h h' : Heap} {a : Addr} {ws : List Addr}
theorem EX.ext (F : EX Z h a) (E : Ext h h') : EX Z h' a := ⟨F.1.ext E, F.2.1.ext E, F.2.2.1.ext E, F.2.2.2.1.ext E, F.2.2.2.2.1.ext E, F.2.2.2.2.2.1.ext E, F.2.2.2.2.2.2.ext E⟩
theorem EX.keep (F : EX Z h a) (K : Keep h h' ws) (q : a ∉ ws) : EX Z h' a := ⟨F.1.keep K, Unt.keep K q F.2.1, F.2.2.1.keep K q, F.2.2.2.1.keep K q, F.2.2.2.2.1.keep K q, F.2.2.2.2.2.1.keep K q, F.2.2.2.2.2.2.keep K q⟩
theorem EX.lt0 (F : EX Z h a) : a < h.size := F.1.lt
end
section
variable {Z : State} {h h' : Heap} {a r t : Addr} {k : ClassId} {N cd cnt : Int32} {vs : List Value} {ws : List Addr}
theorem SB.lt0 (F : SB Z h r t k N vs cd cnt) : r < h.size := F.1.lt
theorem SB.lt1 (F : SB Z h r t k N vs cd cnt) : t < h.size := F.2.2.2.2.2.1.lt
end
theorem own_EW {Z : State} {a0 : Array Value} (hw : ∀ d ∈ tables_1, d.before a0 Z = true) : EW Z a0 consts_1 := EW.cons (hw _ (List.mem_of_getElem? (i := 56) rfl)) (by decide) (EW.cons (hw _ (List.mem_of_getElem? (i := 106) rfl)) (by decide) (EW.cons (hw _ (List.mem_of_getElem? (i := 231) rfl)) (by decide) (EW.cons (hw _ (List.mem_of_getElem? (i := 257) rfl)) (by decide) (EW.cons (hw _ (List.mem_of_getElem? (i := 258) rfl)) (by decide) (EW.nil)))))
theorem own_wSa {Z : State} {a0 : Array Value} (hw : ∀ d ∈ tables_1, d.before a0 Z = true) : ∀ d ∈ Bundle.stringAtoms, d.before a0 Z = true := fun d hd => hw d ((by decide +kernel : ∀ d ∈ Bundle.stringAtoms, d ∈ tables_1) d hd)
theorem own_backKH {p : Program} {l : Launch} {e : Env} {R : Room} {s : State} {args : Array Value} {below : List Frame} {Z : State} {a0 : Array Value} {EL : List (String × Nat)} {h : Heap} {vm0 : Vm} {y : MethodName} {bytes : ByteArray} {maxL : Nat} {ret : Option FieldType} {rm : Room} {len W : Nat} {as' : Array Value} {Q : Option Value → Heap → List Loc → Prop}
    (hM : MetFree l y (head1 [Jvm.Cond.code y bytes maxL ret] rm) (fun a U => a = as' ∧ Z.Warmed39 U.vm ∧ U.heap = h ∧ CHv Z EL U.vm h) (fun _ _ bl s _ => s.vm.MethodsKnown ∧ s.vm.FramesKnown bl) (fun _ U o U' => ∃ v L, o = .returned v ∧ Q v U'.heap L ∧ CHr Z EL U.vm U.heap U'.vm U'.heap ∧ ReturnedEndW U o U' L rm.cells rm.slots))
    (hZ : Z.Warmed39 vm0) (wc : (Jvm.Cond.code y bytes maxL ret).before a0 Z = true) (wz : (Jvm.Cond.initialized y.cls).before a0 Z = true) (hf : rm.frames + 1 ≤ R.frames) (hl : W + (maxL + 11) + rm.locals ≤ R.locals) (hEL : EW Z a0 EL) (H : CHv Z EL vm0 h) (hTK : vm0.MethodsKnown) (hBelow : vm0.FramesKnown below) :
    BackS l R p e below (s.setVm vm0) args y len W (fun A a => a = as' ∧ A.U.heap = h ∧ A.cells + rm.cells ≤ R.cells ∧ A.slots + rm.slots ≤ R.slots)
      (fun A _ v B => ∃ L, Q v B.U.heap L ∧ B.locs = A.locs ++ L ∧ B.cells = A.cells + rm.cells ∧ B.slots = A.slots + rm.slots ∧ CHr Z EL vm0 h B.U.vm B.U.heap) :=
  BackS.of_freeWG (bytes := bytes) (maxL := maxL) (ret := ret) (E := fun _ first o t L k n => k = rm.cells ∧ n = rm.slots ∧ (∃ v, o = .returned v ∧ Q v t.heap L) ∧ CHr Z EL first.vm first.heap t.vm t.heap) hM hf hl
    (fun m meth c A a Y hp => have hU : Z.Warmed39 A.U.vm := wtrans (s := s.setVm vm0) hZ Y.warmed
      ⟨by show (Jvm.Cond.and _ .tt).before a A.U = true; rw [Cond.before_and, mv hU wc]; rfl, mv hU wc, mv hU wz, hp.2.2.1, hp.2.2.2⟩)
    (fun m meth c A a g mk Y hp => ⟨hp.1, wtrans (s := s.setVm vm0) hZ Y.warmed, hp.2.1, (CHv.at Y hZ hEL H).1⟩)
    (fun m meth c A a g mk Y _ hg => known_frames Y hg hTK hBelow)
    (fun _ _ _ _ ⟨v, L, h1, h2, h3, h4⟩ => ⟨L, _, _, h4, rfl, rfl, ⟨v, h1, h2⟩, h3⟩)
    (fun m meth c A a g mk v t L k n Y hp _ _ ⟨e1, e2, ⟨v', e3, e4⟩, e5⟩ => by
      cases e3; subst e1 e2
      refine ⟨L, e4, rfl, rfl, rfl, (CHv.at Y hZ hEL H).trans ?_⟩
      rw [← hp.2.1]; exact e5)
def Qu (Z : State) (a m : Addr) (h0 : Heap) (n0 : Nat) (v : Option Value) (h : Heap) (L : List Loc) : Prop := v = none ∧ Fr n0 L ∧ Keep h0 h [a] ∧ Exa Z h a "com/example/tidegauge/tidegauge/UsageException" ∧ Fld Z h a "java/lang/Throwable" "detailMessage" "Ljava/lang/String;" (.ref m)
def Qt (Z : State) (N : Int32) (vs : List Value) (cd : Int32) (h0 : Heap) (n0 : Nat) (v : Option Value) (h : Heap) (L : List Loc) : Prop := ∃ (a m t : Addr) (k : ClassId), v = some (.ref a) ∧ Fr n0 L ∧ Ext h0 h ∧ Exa Z h a "com/example/tidegauge/tidegauge/UsageException" ∧ Fld Z h a "java/lang/Throwable" "detailMessage" "Ljava/lang/String;" (.ref m) ∧ TX Z h m t k N vs cd
abbrev own_vo : List Value := [(Value.int (StrChars.lo8 (111 : Int32))), (Value.int (StrChars.lo8 (112 : Int32))), (Value.int (StrChars.lo8 (116 : Int32))), (Value.int (StrChars.lo8 (105 : Int32))), (Value.int (StrChars.lo8 (111 : Int32))), (Value.int (StrChars.lo8 (110 : Int32))), (Value.int (StrChars.lo8 (32 : Int32)))]
abbrev own_v1 : List Value := [(Value.int (StrChars.lo8 (111 : Int32))), (Value.int (StrChars.lo8 (112 : Int32))), (Value.int (StrChars.lo8 (116 : Int32))), (Value.int (StrChars.lo8 (105 : Int32))), (Value.int (StrChars.lo8 (111 : Int32))), (Value.int (StrChars.lo8 (110 : Int32))), (Value.int (StrChars.lo8 (32 : Int32))), (Value.int (0 : Int32)), (Value.int (0 : Int32)), (Value.int (0 : Int32)), (Value.int (0 : Int32)), (Value.int (0 : Int32)), (Value.int (0 : Int32)), (Value.int (0 : Int32)), (Value.int (0 : Int32)), (Value.int (0 : Int32))]
abbrev own_vf : List Value := [(Value.int (StrChars.lo8 (32 : Int32))), (Value.int (StrChars.lo8 (105 : Int32))), (Value.int (StrChars.lo8 (115 : Int32))), (Value.int (StrChars.lo8 (32 : Int32))), (Value.int (StrChars.lo8 (103 : Int32))), (Value.int (StrChars.lo8 (105 : Int32))), (Value.int (StrChars.lo8 (118 : Int32))), (Value.int (StrChars.lo8 (101 : Int32))), (Value.int (StrChars.lo8 (110 : Int32))), (Value.int (StrChars.lo8 (32 : Int32))), (Value.int (StrChars.lo8 (116 : Int32))), (Value.int (StrChars.lo8 (119 : Int32))), (Value.int (StrChars.lo8 (105 : Int32))), (Value.int (StrChars.lo8 (99 : Int32))), (Value.int (StrChars.lo8 (101 : Int32)))]
abbrev own_opt : List Int32 := [(111 : Int32), (112 : Int32), (116 : Int32), (105 : Int32), (111 : Int32), (110 : Int32), (32 : Int32)]
abbrev own_suf : List Int32 := [(32 : Int32), (105 : Int32), (115 : Int32), (32 : Int32), (103 : Int32), (105 : Int32), (118 : Int32), (101 : Int32), (110 : Int32), (32 : Int32), (116 : Int32), (119 : Int32), (105 : Int32), (99 : Int32), (101 : Int32)]
abbrev GTL (Na nl mb mc gw : Int32) (nk : Nat) : Prop := (Na >>> ((0 : Int32) &&& 31)) = nl ∧ ((7 : Int32) + nl) = mb ∧ (¬ (0 : Int32) < (mb - (16 : Int32))) ∧ GBX (7 : Int32) (0 : Int32) (7 : Int32) Na (16 : Int32) 7 nk ∧ (mb + (15 : Int32)) = mc ∧ GR mc (16 : Int32) (0 : Int32) gw (18 : Int32) (34 : Int32) (34 : Int32) (16 : Int32) 16 34 ∧ GBX mb (0 : Int32) mb (15 : Int32) (34 : Int32) (7 + nk) 15 ∧ CR mc (34 : Int32) (22 + nk) ∧ nk ≤ 3
abbrev GTW (Na nl mb mc gw kz : Int32) (nk : Nat) : Prop := (Na >>> ((1 : Int32) &&& 31)) = nl ∧ ((7 : Int32) + nl) = mb ∧ (¬ (0 : Int32) < (mb - (16 : Int32))) ∧ GBX (7 : Int32) (1 : Int32) (14 : Int32) Na (32 : Int32) 14 (2 * nk) ∧ (mb + (15 : Int32)) = mc ∧ GR mc (32 : Int32) (1 : Int32) gw (36 : Int32) (68 : Int32) (34 : Int32) (16 : Int32) 32 68 ∧ IF mb (15 : Int32) (15 : Int32) (68 : Int32) (34 : Int32) (7 + nk) 15 68 ∧ (mc <<< ((1 : Int32) &&& 31)) = kz ∧ CR kz (68 : Int32) (2 * (22 + nk)) ∧ nk ≤ 3
def own_wb : List Int32 → List Value
  | [] => []
  | c :: cs => .int (StrChars.lo8 c) :: .int (StrChars.hi8 c) :: own_wb cs
theorem own_wb0 (d : Value) : ∀ (cs : List Int32) (j : Nat), j < cs.length → (own_wb cs).getD (2 * j) d = .int (StrChars.lo8 (cs.getD j 0)) ∧ (own_wb cs).getD (2 * j + 1) d = .int (StrChars.hi8 (cs.getD j 0))
  | [], j, h => absurd h (by simp)
  | c :: cs, 0, _ => ⟨rfl, rfl⟩
  | c :: cs, j + 1, h => by
    have q := own_wb0 d cs j (by simpa using h)
    have e1 : 2 * (j + 1) = 2 * j + 1 + 1 := by omega
    rw [e1]
    simpa [own_wb, List.getD_eq_getElem?_getD] using q
def own_lb (cs : List Int32) : List Value := cs.map fun c => .int (StrChars.lo8 c)
theorem own_lb0 (d : Value) (cs : List Int32) (j : Nat) (h : j < cs.length) : (own_lb cs).getD j d = .int (StrChars.lo8 (cs.getD j 0)) := by simp [own_lb, List.getD_eq_getElem?_getD, h]
def TM (Z : State) (h : Heap) (a : Addr) (ms : List Int32) : Prop := ∃ (t : Addr) (k : ClassId) (N : Int32) (vs : List Value) (cd : Int32), TX Z h a t k N vs cd ∧ ((cd = 0 ∧ N = Int32.ofNat ms.length ∧ vs = own_lb ms ∧ ∀ c ∈ ms, own_ch c) ∨ (cd = 1 ∧ N = Int32.ofNat (2 * ms.length) ∧ vs = own_wb ms ∧ ∀ c ∈ ms, own_c16 c)) ∧ ms.length ≤ 32
theorem TM.ext {Z : State} {h h' : Heap} {a : Addr} {ms : List Int32} (M : TM Z h a ms) (E : Ext h h') : TM Z h' a ms := by obtain ⟨t, k, N, vs, cd, X, r⟩ := M; exact ⟨t, k, N, vs, cd, X.ext E, r⟩
theorem TM.exa {Z : State} {h : Heap} {a : Addr} {ms : List Int32} (M : TM Z h a ms) : Exa Z h a "java/lang/String" := by obtain ⟨t, k, N, vs, cd, X, r⟩ := M; exact X.1
theorem TM.lt0 {Z : State} {h : Heap} {a : Addr} {ms : List Int32} (M : TM Z h a ms) : a < h.size := M.exa.lt
theorem own_mem {cs : List Int32} {q : Nat} (h : q < cs.length) : cs.getD q 0 ∈ cs := by simp [List.getD_eq_getElem?_getD, h]
theorem own_ad {p k : Nat} (h : p < 32) (h2 : k < 32) : Int32.ofNat p + Int32.ofNat k = Int32.ofNat (p + k) := (by decide +kernel : ∀ p k : Fin 32, Int32.ofNat p.val + Int32.ofNat k.val = Int32.ofNat (p.val + k.val)) ⟨p, h⟩ ⟨k, h2⟩
theorem own_or {k : Nat} (h : k < 64) : (Int32.ofNat (2 * k) >>> ((1 : Int32) &&& 31)) = Int32.ofNat k := (by decide +kernel : ∀ k : Fin 64, (Int32.ofNat (2 * k.val) >>> ((1 : Int32) &&& 31)) = Int32.ofNat k.val) ⟨k, h⟩
theorem own_or0 {k : Nat} (h : k < 64) : (Int32.ofNat k >>> ((0 : Int32) &&& 31)) = Int32.ofNat k := (by decide +kernel : ∀ k : Fin 64, (Int32.ofNat k.val >>> ((0 : Int32) &&& 31)) = Int32.ofNat k.val) ⟨k, h⟩
def Qe (Z : State) (r : Addr) (h0 : Heap) (n0 : Nat) (v : Option Value) (h : Heap) (L : List Loc) : Prop := ∃ (u : Addr) (k : ClassId), v = none ∧ Fr n0 L ∧ Keep h0 h [r] ∧ TX Z h r u k (0 : Int32) [] (0 : Int32)
theorem own_safe0 {Z : State} {vm : Vm} {h : Heap} {r : Addr} {EL : List (String × Nat)} (hal : Z.vm.Alike vm) (E : Exa Z h r "java/lang/String") (F : Fld Z h r "java/lang/String" "value" "[B" .null) : Safe Z EL vm h r := fun B => by
  obtain ⟨p, -, u, a, -, q, rfl, ⟨cS, ⟨⟨s1, s2, s3, ⟨cv, kv, iv, s4, s4'⟩, s5, s6, s7, s8, s9, s10, s11, s12⟩, -⟩, -, hB, -⟩, hy⟩ := B
  obtain ⟨cell, cf, k, i, f, h1, h2, h3, h4, h5, h6, h7⟩ := F
  obtain ⟨c1, kx, e1, e2, e3, e4, -⟩ := E
  cases h1.symm.trans e1
  rcases hy with rfl | rfl
  · obtain ⟨ky, q2, -⟩ := State.fieldFound?_setVm (s := Z) hal h2
    have e5 := (show (Wst Z vm h).fieldFound? _ _ _ = _ from q2).symm.trans s4
    simp only [Option.some.injEq, Prod.mk.injEq] at e5
    cases h1.symm.trans (show h[q.sa]? = some q.sC from s1)
    rw [e5.2.2.2, s8] at h7
    cases h7
  · cases h1.symm.trans (show h[q.sd]? = some q.SA from s10)
    have hB' : Z.vm.findClass "[B" = some q.SA.cls := by rw [← hal.findClass]; exact hB
    exact ids_ne e2 hB' (by decide) rfl
def Qz (Z : State) (ms : List Int32) (h0 : Heap) (n0 : Nat) (v : Option Value) (h : Heap) (L : List Loc) : Prop := ∃ (a m : Addr), v = some (.ref a) ∧ Fr n0 L ∧ Ext h0 h ∧ Exa Z h a "com/example/tidegauge/tidegauge/UsageException" ∧ Fld Z h a "java/lang/Throwable" "detailMessage" "Ljava/lang/String;" (.ref m) ∧ TM Z h m ms
theorem own_chl {xs : List Int32} {P : Int32 → Prop} (h : ∀ c ∈ xs, P c) (h1 : ∀ c ∈ own_opt, P c) (h2 : ∀ c ∈ own_suf, P c) : ∀ c ∈ own_opt ++ xs ++ own_suf, P c := fun c hc => by
  rcases List.mem_append.mp hc with q | q
  · rcases List.mem_append.mp q with q | q
    · exact h1 c q
    · exact h c q
  · exact h2 c q
theorem own_c16i (z : Int32) : own_c16 (z.toUInt32.toUInt16.toUInt32.toInt32) := by
  have e := c_i2c z
  have a : (0 : Int32).toInt = 0 := by decide
  have b : (65535 : Int32).toInt = 65535 := by decide
  refine ⟨fun q => ?_, fun q => ?_⟩ <;> rw [Int32.lt_iff_toInt_lt] at q <;> omega
theorem own_fit16 {x : Int32} (h : own_c16 x) : fits .char (.int x) = true := by
  have q := fits_nar_char x
  rw [own_nar16 h] at q; exact q
theorem own_vc (xs : List Int32) : ∀ i, i < xs.length → (xs.map Value.int).getD i (.int (0 : Int32)) = .int (xs.getD i 0) := fun i h => by simp [List.getD_eq_getElem?_getD, h]
theorem own_chof {x : Int32} (h : own_c16 x) (q : ¬ (255 : Int32) < x) : own_ch x := ⟨h.1, q⟩
theorem own_all0 {P : Int32 → Prop} : ∀ c ∈ ([] : List Int32), P c := fun _ h => nomatch h
theorem own_allc {P : Int32 → Prop} {x : Int32} {xs : List Int32} (h : P x) (r : ∀ c ∈ xs, P c) : ∀ c ∈ x :: xs, P c := fun c hc => (List.mem_cons.mp hc).elim (fun e => e ▸ h) (r c)
theorem own_m3 (k : Int32) : (k &&& (3 : Int32)) = (0 : Int32) ∨ (k &&& (3 : Int32)) = (1 : Int32) ∨ (k &&& (3 : Int32)) = (2 : Int32) ∨ (k &&& (3 : Int32)) = (3 : Int32) := by
  have e1 := c_mask k (3 : Int32) 2 (by decide) (by decide)
  generalize (k &&& (3 : Int32)) = z at *
  have h : z.toInt = 0 ∨ z.toInt = 1 ∨ z.toInt = 2 ∨ z.toInt = 3 := by omega
  rcases h with h | h | h | h
  · exact Or.inl (Int32.toInt_inj.mp (h.trans (by decide : (0 : Int) = (0 : Int32).toInt)))
  · exact Or.inr (Or.inl (Int32.toInt_inj.mp (h.trans (by decide : (1 : Int) = (1 : Int32).toInt))))
  · exact Or.inr (Or.inr (Or.inl (Int32.toInt_inj.mp (h.trans (by decide : (2 : Int) = (2 : Int32).toInt)))))
  · exact Or.inr (Or.inr (Or.inr ((Int32.toInt_inj.mp (h.trans (by decide : (3 : Int) = (3 : Int32).toInt))))))
theorem own_sp1 (xa : Int32) : ((255 : Int32) < xa) ∨ (¬ (255 : Int32) < xa) := by
  by_cases h0 : (255 : Int32) < xa
  · exact Or.inl h0
  exact Or.inr (h0)
theorem own_sp2 (xa xb : Int32) : ((255 : Int32) < xa) ∨ (¬ (255 : Int32) < xa ∧ (255 : Int32) < xb) ∨ (¬ (255 : Int32) < xa ∧ ¬ (255 : Int32) < xb) := by
  by_cases h0 : (255 : Int32) < xa
  · exact Or.inl h0
  by_cases h1 : (255 : Int32) < xb
  · exact Or.inr (Or.inl ⟨h0, h1⟩)
  exact Or.inr (Or.inr (⟨h0, h1⟩))
theorem own_sp3 (xa xb xc : Int32) : ((255 : Int32) < xa) ∨ (¬ (255 : Int32) < xa ∧ (255 : Int32) < xb) ∨ (¬ (255 : Int32) < xa ∧ ¬ (255 : Int32) < xb ∧ (255 : Int32) < xc) ∨ (¬ (255 : Int32) < xa ∧ ¬ (255 : Int32) < xb ∧ ¬ (255 : Int32) < xc) := by
  by_cases h0 : (255 : Int32) < xa
  · exact Or.inl h0
  by_cases h1 : (255 : Int32) < xb
  · exact Or.inr (Or.inl ⟨h0, h1⟩)
  by_cases h2 : (255 : Int32) < xc
  · exact Or.inr (Or.inr (Or.inl ⟨h0, h1, h2⟩))
  exact Or.inr (Or.inr (Or.inr (⟨h0, h1, h2⟩)))
theorem pn_13 : plainName "java/lang/String" = true := by first | (simp [plainName, overriddenIn]; done) | decide +kernel
theorem rm_cod (l : Launch) (Z : State) (a0 : Array Value) (hw : ∀ d ∈ tables_1, d.before a0 Z = true) (ws : List Jvm.Cond) (sa : Addr) (h0 : Heap) (n0 : Nat) (Z0 : n0 ≤ h0.size) (Y0 : Old Z n0 h0) (zc : Int32) (fm : Value) (S : Sts Z Z.heap zc fm) (cda : Int32) (hcd : own_bo cda) (ta : Addr) (ka : ClassId) (Na : Int32) (va : List Value) (Xa : TX Z h0 sa ta ka Na va cda)  :
    MFa l mN0 jdk_42_method_152_code 1 (some .byte) ws (Room.mk 0 0 0 0) Z h0 n0 #[(.ref sa)] (Qp (some (.int cda))) := by
  refine MetFree.of_bodySF (plainFor_of_name pn_13) hisR ?_
  intro p e s m args below meth c s₁ Bd hml0 hP hK
  obtain ⟨rfl, hZ, hh⟩ := hP
  have hx := Bd.exec
  have hby := Bd.bytes
  have hown : s.vm.findClass "java/lang/String" = some m.cls := findClass_of_methodNamed Bd.named
  have X0 : Stand p l e (Room.mk 0 0 0 0) s m #[(.ref sa)] below meth c s₁ [] 0 0 := Stand.of_body Bd
  have e0 : s₁.heap = h0 := by rw [← hh, Bd.state]; rfl
  have N0 := Fr.nil n0
  have pre0 : Pr p e below (s₁.setTop (mkF m 0 #[rv sa] [])) (s₁.setTop (entryFrame m #[(.ref sa)] 1)) := fun t k => castTop (by first | (simp [entryFrame, mkF, argsToLocals, Value.category]; done) | rfl) k
  obtain ⟨T1, X1, e1, st1⟩ := getS2 X0 hx hZ hown (host := "") (Or.inl (ww hw 15 rfl)) Via.refl e0 (S.1.ext Y0.2) (g := (mkF m 0 #[rv sa] [])) rfl (hb hby d13_0)
  obtain ⟨T2, X2, e2, st2⟩ := getF X1 hx hZ hown (host := "") (Or.inl (ww hw 27 rfl)) Via.refl e1 Xa.2.1 (g := (mkF m 7 #[rv sa] [(.ref sa)])) rfl rfl (hb hby d13_7)
  have pre3 : Pr p e below (T2.setTop (mkF m 14 #[rv sa] [(.int cda)])) (s₁.setTop (entryFrame m #[(.ref sa)] 1)) := fun t k => pre0 t (by
    show Steps _ _ _ (s₁.setTop (mkF m 0 #[rv sa] [])) _
    refine st1 _ ?_
    show Steps _ _ _ (T1.setTop (mkF m 3 #[rv sa] [(.int zc)])) _
    refine XS.ifNo X1.here hx rfl (hb hby d13_3) rfl ((if0 _ _).trans (feq S.2.2.2.2.2.1).1) ?_
    refine XS.aloadN X1.here hx rfl (hb hby d13_6) rfl rfl ?_
    refine st2 _ ?_
    refine XS.goto X2.here hx rfl (pc0 := 10) (pc' := 14) rfl (hb hby d13_10) (by decide) (by decide) ?_
    exact k)
  obtain ⟨fs, hr, hrun, hended, hW, hsame⟩ := X2.leave (v := some (.int (nar .byte cda))) (fun h => by rw [Bd.returns] at h; cases h)
  refine ⟨_, _, pre3 _ ?_, hrun, hended, _, _, rfl, ?_, ⟨_, rfl⟩, hW, hsame.mono (by decide) (by decide)⟩
  · show Steps _ _ _ (T2.setTop (mkF m 14 #[rv sa] [(.int cda)])) _
    exact retN X2 hx (t := .byte) Bd.returns (by simp) (hb hby d13_14) hr
  · show (Qp (some (.int cda))) h0 n0 _ T2.heap _
    rw [e2]
    exact ⟨by rw [own_nby hcd], N0, rfl⟩
theorem rm_len (l : Launch) (Z : State) (a0 : Array Value) (hw : ∀ d ∈ tables_1, d.before a0 Z = true) (ws : List Jvm.Cond) (sa : Addr) (h0 : Heap) (n0 : Nat) (Z0 : n0 ≤ h0.size) (Y0 : Old Z n0 h0) (zc : Int32) (fm : Value) (S : Sts Z Z.heap zc fm) (cda : Int32) (hcd : own_bo cda) (ta : Addr) (ka : ClassId) (Na : Int32) (va : List Value) (Xa : TX Z h0 sa ta ka Na va cda) (ln : Int32) (hln : (Na >>> (cda &&& 31)) = ln)  :
    MFa l mN1 jdk_42_method_54_code 1 (some .int) ws (Room.mk 1 0 0 13) Z h0 n0 #[(.ref sa)] (Qp (some (.int ln))) := by
  refine MetFree.of_bodySF (plainFor_of_name pn_13) hisR ?_
  intro p e s m args below meth c s₁ Bd hml0 hP hK
  obtain ⟨rfl, hZ, hh⟩ := hP
  have hx := Bd.exec
  have hby := Bd.bytes
  have hml : c.maxLocals = 1 := hml0
  have hown : s.vm.findClass "java/lang/String" = some m.cls := findClass_of_methodNamed Bd.named
  have X0 : Stand p l e (Room.mk 1 0 0 13) s m #[(.ref sa)] below meth c s₁ [] 0 0 := Stand.of_body Bd
  have e0 : s₁.heap = h0 := by rw [← hh, Bd.state]; rfl
  have N0 := Fr.nil n0
  have pre0 : Pr p e below (s₁.setTop (mkF m 0 #[rv sa] [])) (s₁.setTop (entryFrame m #[(.ref sa)] 1)) := fun t k => castTop (by first | (simp [entryFrame, mkF, argsToLocals, Value.category]; done) | rfl) k
  obtain ⟨T1, X1, e1, st1⟩ := getF X0 hx hZ hown (host := "") (Or.inl (ww hw 29 rfl)) Via.refl e0 Xa.2.2.1 (g := (mkF m 1 #[rv sa] [(.ref sa)])) rfl rfl (hb hby d12_1)
  obtain ⟨cl2, Ar2, -, Sz2, nz2, -, -⟩ := id Xa.2.2.2
  obtain ⟨cq3, kq3, q3a, q3b, q3c⟩ := isOf hZ e1 Xa.1
  obtain ⟨_, _, ⟨T3, L3, k3, n3⟩, -, X3, ⟨Lc3, hQ3, l3, y3, z3⟩, st3⟩ := X1.virtualBack hx (y := mN0) (z := mN0) hown (mw hZ hw 74 rfl) (mw hZ hw 75 rfl) (notFace_of_selects (args := #[]) (mw hZ hw 77 rfl)) (mw hZ hw 77 rfl) (mw hZ hw 76 rfl) (by decide) (backOf (W := 1) (rm_cod l Z a0 hw [] sa h0 n0 (own_old0 Y0) Y0 zc fm S cda hcd ta ka Na va Xa ) hZ (ww hw 78 rfl) (ww hw 4 rfl) (by decide) (by decide)) q3a q3c (g := (mkF m 6 #[rv sa] [(.ref sa), (.int Na)])) rfl (by rw [hml]; rfl) (Steps.refl _) (argsL := []) (rest := [(.int Na)]) (lenOf pd_0 rfl) rfl own_z (hb hby d12_6) (fun _ _ => ⟨rfl, e1, (by decide : 0 + 0 ≤ _), (by decide : 0 + 0 ≤ _)⟩)
  dsimp only [Pt.U, Pt.locs, Pt.cells, Pt.slots] at X3 l3 y3 z3 st3 hQ3
  rw [y3, z3] at X3
  obtain ⟨rfl, N3q, e3⟩ := hQ3
  have N3 := own_fr l3 N0 N3q
  have pre4 : Pr p e below (T3.setTop (mkF m 10 #[rv sa] [(.int ln)])) (s₁.setTop (entryFrame m #[(.ref sa)] 1)) := fun t k => pre0 t (by
    show Steps _ _ _ (s₁.setTop (mkF m 0 #[rv sa] [])) _
    refine XS.aloadN X0.here hx rfl (hb hby d12_0) rfl rfl ?_
    refine st1 _ ?_
    refine X1.arraylength hx (by rw [e1]; exact Ar2.1) (State.isArrayOf_alike hZ.alike Ar2.2.1) (g := (mkF m 4 #[rv sa] [(.ref ta)])) rfl rfl (hb hby d12_4) _ ?_
    rw [len_of Sz2 nz2]
    refine XS.aloadN X1.here hx rfl (hb hby d12_5) rfl rfl ?_
    refine st3.trans ?_
    refine XS.ishr X3.here hx rfl (hb hby d12_9) rfl ?_
    show Steps _ _ _ (T3.setTop (mkF m 10 #[rv sa] [(.int (Na >>> (cda &&& 31)))])) _
    refine castTop (g' := (mkF m 10 #[rv sa] [(.int ln)])) (by rw [hln]) ?_
    exact k)
  obtain ⟨fs, hr, hrun, hended, hW, hsame⟩ := X3.leave (v := some (.int ln)) (fun h => by rw [Bd.returns] at h; cases h)
  refine ⟨_, _, pre4 _ ?_, hrun, hended, _, _, rfl, ?_, ⟨_, rfl⟩, hW, hsame.mono (by decide) (by decide)⟩
  · show Steps _ _ _ (T3.setTop (mkF m 10 #[rv sa] [(.int ln)])) _
    exact retOut X3 hx Bd.returns rfl (Or.inl ⟨rfl, by simp, _, rfl⟩) (hb hby d12_10) hr
  · show (Qp (some (.int ln))) h0 n0 _ T3.heap _
    rw [e3]
    exact ⟨rfl, N3, rfl⟩
theorem pn_26 : plainName "java/lang/AbstractStringBuilder" = true := by first | (simp [plainName, overriddenIn]; done) | decide +kernel
theorem rm_gv (l : Launch) (Z : State) (a0 : Array Value) (hw : ∀ d ∈ tables_1, d.before a0 Z = true) (ws : List Jvm.Cond) (rb : Addr) (h0 : Heap) (n0 : Nat) (Z0 : n0 ≤ h0.size) (Y0 : Old Z n0 h0) (zc : Int32) (fm : Value) (S : Sts Z Z.heap zc fm) (Nb cb cdb : Int32) (tb : Addr) (kb : ClassId) (vb : List Value) (Bb : SB Z h0 rb tb kb Nb vb cdb cb) (gr : n0 ≤ rb) (gt : n0 ≤ tb)  :
    MFa l mN2 jdk_68_method_64_code 1 (some (.array .byte)) ws (Room.mk 0 0 0 0) Z h0 n0 #[(.ref rb)] (Qp (some (.ref tb))) := by
  refine MetFree.of_bodySF (plainFor_of_name pn_26) hisR ?_
  intro p e s m args below meth c s₁ Bd hml0 hP hK
  obtain ⟨rfl, hZ, hh⟩ := hP
  have hx := Bd.exec
  have hby := Bd.bytes
  have hown : s.vm.findClass "java/lang/AbstractStringBuilder" = some m.cls := findClass_of_methodNamed Bd.named
  have X0 : Stand p l e (Room.mk 0 0 0 0) s m #[(.ref rb)] below meth c s₁ [] 0 0 := Stand.of_body Bd
  have e0 : s₁.heap = h0 := by rw [← hh, Bd.state]; rfl
  have N0 := Fr.nil n0
  have pre0 : Pr p e below (s₁.setTop (mkF m 0 #[rv rb] [])) (s₁.setTop (entryFrame m #[(.ref rb)] 1)) := fun t k => castTop (by first | (simp [entryFrame, mkF, argsToLocals, Value.category]; done) | rfl) k
  obtain ⟨T1, X1, e1, st1⟩ := getF X0 hx hZ hown (host := "") (Or.inl (ww hw 52 rfl)) Via.refl e0 Bb.2.1 (g := (mkF m 1 #[rv rb] [(.ref rb)])) rfl rfl (hb hby d26_1)
  have pre2 : Pr p e below (T1.setTop (mkF m 4 #[rv rb] [(.ref tb)])) (s₁.setTop (entryFrame m #[(.ref rb)] 1)) := fun t k => pre0 t (by
    show Steps _ _ _ (s₁.setTop (mkF m 0 #[rv rb] [])) _
    refine XS.aloadN X0.here hx rfl (hb hby d26_0) rfl rfl ?_
    refine st1 _ ?_
    exact k)
  obtain ⟨fs, hr, hrun, hended, hW, hsame⟩ := X1.leave (v := some (.ref tb)) (fun h => by rw [Bd.returns] at h; cases h)
  refine ⟨_, _, pre2 _ ?_, hrun, hended, _, _, rfl, ?_, ⟨_, rfl⟩, hW, hsame.mono (by decide) (by decide)⟩
  · show Steps _ _ _ (T1.setTop (mkF m 4 #[rv rb] [(.ref tb)])) _
    exact retOut X1 hx Bd.returns rfl (Or.inr (Or.inr (Or.inr (Or.inr ⟨rfl, rfl, rfl⟩)))) (hb hby d26_4) hr
  · show (Qp (some (.ref tb))) h0 n0 _ T1.heap _
    rw [e1]
    exact ⟨rfl, N0, rfl⟩
theorem rm_aln (l : Launch) (Z : State) (a0 : Array Value) (hw : ∀ d ∈ tables_1, d.before a0 Z = true) (ws : List Jvm.Cond) (rb : Addr) (h0 : Heap) (n0 : Nat) (Z0 : n0 ≤ h0.size) (Y0 : Old Z n0 h0) (zc : Int32) (fm : Value) (S : Sts Z Z.heap zc fm) (Nb cb cdb : Int32) (tb : Addr) (kb : ClassId) (vb : List Value) (Bb : SB Z h0 rb tb kb Nb vb cdb cb) (gr : n0 ≤ rb) (gt : n0 ≤ tb)  :
    MFa l mN3 jdk_68_method_6_code 1 (some .int) ws (Room.mk 0 0 0 0) Z h0 n0 #[(.ref rb)] (Qp (some (.int cb))) := by
  refine MetFree.of_bodySF (plainFor_of_name pn_26) hisR ?_
  intro p e s m args below meth c s₁ Bd hml0 hP hK
  obtain ⟨rfl, hZ, hh⟩ := hP
  have hx := Bd.exec
  have hby := Bd.bytes
  have hown : s.vm.findClass "java/lang/AbstractStringBuilder" = some m.cls := findClass_of_methodNamed Bd.named
  have X0 : Stand p l e (Room.mk 0 0 0 0) s m #[(.ref rb)] below meth c s₁ [] 0 0 := Stand.of_body Bd
  have e0 : s₁.heap = h0 := by rw [← hh, Bd.state]; rfl
  have N0 := Fr.nil n0
  have pre0 : Pr p e below (s₁.setTop (mkF m 0 #[rv rb] [])) (s₁.setTop (entryFrame m #[(.ref rb)] 1)) := fun t k => castTop (by first | (simp [entryFrame, mkF, argsToLocals, Value.category]; done) | rfl) k
  obtain ⟨T1, X1, e1, st1⟩ := getF X0 hx hZ hown (host := "") (Or.inl (ww hw 79 rfl)) Via.refl e0 Bb.2.2.2.1 (g := (mkF m 1 #[rv rb] [(.ref rb)])) rfl rfl (hb hby d28_1)
  have pre2 : Pr p e below (T1.setTop (mkF m 4 #[rv rb] [(.int cb)])) (s₁.setTop (entryFrame m #[(.ref rb)] 1)) := fun t k => pre0 t (by
    show Steps _ _ _ (s₁.setTop (mkF m 0 #[rv rb] [])) _
    refine XS.aloadN X0.here hx rfl (hb hby d28_0) rfl rfl ?_
    refine st1 _ ?_
    exact k)
  obtain ⟨fs, hr, hrun, hended, hW, hsame⟩ := X1.leave (v := some (.int cb)) (fun h => by rw [Bd.returns] at h; cases h)
  refine ⟨_, _, pre2 _ ?_, hrun, hended, _, _, rfl, ?_, ⟨_, rfl⟩, hW, hsame.mono (by decide) (by decide)⟩
  · show Steps _ _ _ (T1.setTop (mkF m 4 #[rv rb] [(.int cb)])) _
    exact retOut X1 hx Bd.returns rfl (Or.inl ⟨rfl, by simp, _, rfl⟩) (hb hby d28_4) hr
  · show (Qp (some (.int cb))) h0 n0 _ T1.heap _
    rw [e1]
    exact ⟨rfl, N0, rfl⟩
theorem pn_27 : plainName "java/lang/StringBuilder" = true := by first | (simp [plainName, overriddenIn]; done) | decide +kernel
theorem rm_bln (l : Launch) (Z : State) (a0 : Array Value) (hw : ∀ d ∈ tables_1, d.before a0 Z = true) (ws : List Jvm.Cond) (rb : Addr) (h0 : Heap) (n0 : Nat) (Z0 : n0 ≤ h0.size) (Y0 : Old Z n0 h0) (zc : Int32) (fm : Value) (S : Sts Z Z.heap zc fm) (Nb cb cdb : Int32) (tb : Addr) (kb : ClassId) (vb : List Value) (Bb : SB Z h0 rb tb kb Nb vb cdb cb) (gr : n0 ≤ rb) (gt : n0 ≤ tb)  :
    MFa l mN4 jdk_67_method_93_code 1 (some .int) ws (Room.mk 1 0 0 12) Z h0 n0 #[(.ref rb)] (Qp (some (.int cb))) := by
  refine MetFree.of_bodySF (plainFor_of_name pn_27) hisR ?_
  intro p e s m args below meth c s₁ Bd hml0 hP hK
  obtain ⟨rfl, hZ, hh⟩ := hP
  have hx := Bd.exec
  have hby := Bd.bytes
  have hml : c.maxLocals = 1 := hml0
  have hown : s.vm.findClass "java/lang/StringBuilder" = some m.cls := findClass_of_methodNamed Bd.named
  have X0 : Stand p l e (Room.mk 1 0 0 12) s m #[(.ref rb)] below meth c s₁ [] 0 0 := Stand.of_body Bd
  have e0 : s₁.heap = h0 := by rw [← hh, Bd.state]; rfl
  have N0 := Fr.nil n0
  have pre0 : Pr p e below (s₁.setTop (mkF m 0 #[rv rb] [])) (s₁.setTop (entryFrame m #[(.ref rb)] 1)) := fun t k => castTop (by first | (simp [entryFrame, mkF, argsToLocals, Value.category]; done) | rfl) k
  obtain ⟨_, _, ⟨T1, L1, k1, n1⟩, -, X1, ⟨Lc1, hQ1, l1, y1, z1⟩, st1⟩ := superBack X0 hx hZ (y := mN3) hown (ww hw 153 rfl) (own_same (ww hw 149 rfl) (own_nf (args := a0) (y' := mN5) rfl (ww hw 84 rfl) (ww hw 82 rfl)) (by decide)) (ww hw 149 rfl) (ww hw 66 rfl) (by decide) (backOf (W := 0) (rm_aln l Z a0 hw [] rb h0 n0 (own_old0 Y0) Y0 zc fm S Nb cb cdb tb kb vb ⟨Bb.1, Bb.2.1, Bb.2.2.1, Bb.2.2.2.1, Bb.2.2.2.2.1, Bb.2.2.2.2.2.1, Bb.2.2.2.2.2.2⟩ gr gt ) hZ (ww hw 154 rfl) (ww hw 48 rfl) (by decide) (by decide)) e0 (Ins.self Bb.1) (g := (mkF m 1 #[rv rb] [(.ref rb)])) rfl (by rw [hml]; rfl) (ww hw 154 rfl) (argsL := []) (rest := []) (lenOf pd_1 rfl) rfl own_z (hb hby d27_1) (fun _ _ => ⟨rfl, e0, (by decide : 0 + 0 ≤ _), (by decide : 0 + 0 ≤ _)⟩)
  dsimp only [Pt.U, Pt.locs, Pt.cells, Pt.slots] at X1 l1 y1 z1 st1 hQ1
  rw [y1, z1] at X1
  obtain ⟨rfl, N1q, e1⟩ := hQ1
  have N1 := own_fr l1 N0 N1q
  have pre2 : Pr p e below (T1.setTop (mkF m 4 #[rv rb] [(.int cb)])) (s₁.setTop (entryFrame m #[(.ref rb)] 1)) := fun t k => pre0 t (by
    show Steps _ _ _ (s₁.setTop (mkF m 0 #[rv rb] [])) _
    refine XS.aloadN X0.here hx rfl (hb hby d27_0) rfl rfl ?_
    refine st1.trans ?_
    exact k)
  obtain ⟨fs, hr, hrun, hended, hW, hsame⟩ := X1.leave (v := some (.int cb)) (fun h => by rw [Bd.returns] at h; cases h)
  refine ⟨_, _, pre2 _ ?_, hrun, hended, _, _, rfl, ?_, ⟨_, rfl⟩, hW, hsame.mono (by decide) (by decide)⟩
  · show Steps _ _ _ (T1.setTop (mkF m 4 #[rv rb] [(.int cb)])) _
    exact retOut X1 hx Bd.returns rfl (Or.inl ⟨rfl, by simp, _, rfl⟩) (hb hby d27_4) hr
  · show (Qp (some (.int cb))) h0 n0 _ T1.heap _
    rw [e1]
    exact ⟨rfl, N1, rfl⟩
theorem rm_isl0 (l : Launch) (Z : State) (a0 : Array Value) (hw : ∀ d ∈ tables_1, d.before a0 Z = true) (ws : List Jvm.Cond) (sa : Addr) (h0 : Heap) (n0 : Nat) (Z0 : n0 ≤ h0.size) (Y0 : Old Z n0 h0) (zc : Int32) (fm : Value) (S : Sts Z Z.heap zc fm) (ta : Addr) (ka : ClassId) (Na : Int32) (va : List Value) (Xa : TX Z h0 sa ta ka Na va (0 : Int32))  :
    MFa l mN6 jdk_42_method_154_code 1 (some .boolean) ws (Room.mk 0 0 0 0) Z h0 n0 #[(.ref sa)] (Qp (some (.int 1))) := by
  refine MetFree.of_bodySF (plainFor_of_name pn_13) hisR ?_
  intro p e s m args below meth c s₁ Bd hml0 hP hK
  obtain ⟨rfl, hZ, hh⟩ := hP
  have hx := Bd.exec
  have hby := Bd.bytes
  have hown : s.vm.findClass "java/lang/String" = some m.cls := findClass_of_methodNamed Bd.named
  have X0 : Stand p l e (Room.mk 0 0 0 0) s m #[(.ref sa)] below meth c s₁ [] 0 0 := Stand.of_body Bd
  have e0 : s₁.heap = h0 := by rw [← hh, Bd.state]; rfl
  have N0 := Fr.nil n0
  have pre0 : Pr p e below (s₁.setTop (mkF m 0 #[rv sa] [])) (s₁.setTop (entryFrame m #[(.ref sa)] 1)) := fun t k => castTop (by first | (simp [entryFrame, mkF, argsToLocals, Value.category]; done) | rfl) k
  obtain ⟨T1, X1, e1, st1⟩ := getS2 X0 hx hZ hown (host := "") (Or.inl (ww hw 15 rfl)) Via.refl e0 (S.1.ext Y0.2) (g := (mkF m 0 #[rv sa] [])) rfl (hb hby d41_0)
  obtain ⟨T2, X2, e2, st2⟩ := getF X1 hx hZ hown (host := "") (Or.inl (ww hw 27 rfl)) Via.refl e1 Xa.2.1 (g := (mkF m 7 #[rv sa] [(.ref sa)])) rfl rfl (hb hby d41_7)
  have pre3 : Pr p e below (T2.setTop (mkF m 18 #[rv sa] [(.int 1)])) (s₁.setTop (entryFrame m #[(.ref sa)] 1)) := fun t k => pre0 t (by
    show Steps _ _ _ (s₁.setTop (mkF m 0 #[rv sa] [])) _
    refine st1 _ ?_
    show Steps _ _ _ (T1.setTop (mkF m 3 #[rv sa] [(.int zc)])) _
    refine XS.ifNo X1.here hx rfl (hb hby d41_3) rfl ((if0 _ _).trans (feq S.2.2.2.2.2.1).1) ?_
    refine XS.aloadN X1.here hx rfl (hb hby d41_6) rfl rfl ?_
    refine st2 _ ?_
    show Steps _ _ _ (T2.setTop (mkF m 10 #[rv sa] [(.int 0)])) _
    refine XS.ifNo X2.here hx rfl (hb hby d41_10) rfl ((if0 _ _).trans (teq (by decide : ((0 : Int32) = (0 : Int32)))).2) ?_
    refine XT.iconstV X2.here hx rfl (1 : Int32) (hb hby d41_13) (by decide) ?_
    refine XS.goto X2.here hx rfl (pc0 := 14) (pc' := 18) rfl (hb hby d41_14) (by decide) (by decide) ?_
    exact k)
  obtain ⟨fs, hr, hrun, hended, hW, hsame⟩ := X2.leave (v := some (.int 1)) (fun h => by rw [Bd.returns] at h; cases h)
  refine ⟨_, _, pre3 _ ?_, hrun, hended, _, _, rfl, ?_, ⟨_, rfl⟩, hW, hsame.mono (by decide) (by decide)⟩
  · show Steps _ _ _ (T2.setTop (mkF m 18 #[rv sa] [(.int 1)])) _
    exact retOut X2 hx Bd.returns rfl (Or.inl ⟨rfl, by simp, _, rfl⟩) (hb hby d41_18) hr
  · show (Qp (some (.int 1))) h0 n0 _ T2.heap _
    rw [e2]
    exact ⟨rfl, N0, rfl⟩
theorem rm_bisl0 (l : Launch) (Z : State) (a0 : Array Value) (hw : ∀ d ∈ tables_1, d.before a0 Z = true) (ws : List Jvm.Cond) (rb : Addr) (h0 : Heap) (n0 : Nat) (Z0 : n0 ≤ h0.size) (Y0 : Old Z n0 h0) (zc : Int32) (fm : Value) (S : Sts Z Z.heap zc fm) (Nb cb : Int32) (tb : Addr) (kb : ClassId) (vb : List Value) (Bb : SB Z h0 rb tb kb Nb vb (0 : Int32) cb) (gr : n0 ≤ rb) (gt : n0 ≤ tb)  :
    MFa l mN7 jdk_68_method_68_code 1 (some .boolean) ws (Room.mk 0 0 0 0) Z h0 n0 #[(.ref rb)] (Qp (some (.int 1))) := by
  refine MetFree.of_bodySF (plainFor_of_name pn_26) hisR ?_
  intro p e s m args below meth c s₁ Bd hml0 hP hK
  obtain ⟨rfl, hZ, hh⟩ := hP
  have hx := Bd.exec
  have hby := Bd.bytes
  have hown : s.vm.findClass "java/lang/AbstractStringBuilder" = some m.cls := findClass_of_methodNamed Bd.named
  have X0 : Stand p l e (Room.mk 0 0 0 0) s m #[(.ref rb)] below meth c s₁ [] 0 0 := Stand.of_body Bd
  have e0 : s₁.heap = h0 := by rw [← hh, Bd.state]; rfl
  have N0 := Fr.nil n0
  have pre0 : Pr p e below (s₁.setTop (mkF m 0 #[rv rb] [])) (s₁.setTop (entryFrame m #[(.ref rb)] 1)) := fun t k => castTop (by first | (simp [entryFrame, mkF, argsToLocals, Value.category]; done) | rfl) k
  obtain ⟨T1, X1, e1, st1⟩ := getS2 X0 hx hZ hown (host := "") (Or.inl (ww hw 51 rfl)) Via.refl e0 (S.1.ext Y0.2) (g := (mkF m 0 #[rv rb] [])) rfl (hb hby d29_0)
  obtain ⟨T2, X2, e2, st2⟩ := getF X1 hx hZ hown (host := "") (Or.inl (ww hw 54 rfl)) Via.refl e1 Bb.2.2.1 (g := (mkF m 7 #[rv rb] [(.ref rb)])) rfl rfl (hb hby d29_7)
  have pre3 : Pr p e below (T2.setTop (mkF m 18 #[rv rb] [(.int 1)])) (s₁.setTop (entryFrame m #[(.ref rb)] 1)) := fun t k => pre0 t (by
    show Steps _ _ _ (s₁.setTop (mkF m 0 #[rv rb] [])) _
    refine st1 _ ?_
    show Steps _ _ _ (T1.setTop (mkF m 3 #[rv rb] [(.int zc)])) _
    refine XS.ifNo X1.here hx rfl (hb hby d29_3) rfl ((if0 _ _).trans (feq S.2.2.2.2.2.1).1) ?_
    refine XS.aloadN X1.here hx rfl (hb hby d29_6) rfl rfl ?_
    refine st2 _ ?_
    show Steps _ _ _ (T2.setTop (mkF m 10 #[rv rb] [(.int 0)])) _
    refine XS.ifNo X2.here hx rfl (hb hby d29_10) rfl ((if0 _ _).trans (teq (by decide : ((0 : Int32) = (0 : Int32)))).2) ?_
    refine XT.iconstV X2.here hx rfl (1 : Int32) (hb hby d29_13) (by decide) ?_
    refine XS.goto X2.here hx rfl (pc0 := 14) (pc' := 18) rfl (hb hby d29_14) (by decide) (by decide) ?_
    exact k)
  obtain ⟨fs, hr, hrun, hended, hW, hsame⟩ := X2.leave (v := some (.int 1)) (fun h => by rw [Bd.returns] at h; cases h)
  refine ⟨_, _, pre3 _ ?_, hrun, hended, _, _, rfl, ?_, ⟨_, rfl⟩, hW, hsame.mono (by decide) (by decide)⟩
  · show Steps _ _ _ (T2.setTop (mkF m 18 #[rv rb] [(.int 1)])) _
    exact retOut X2 hx Bd.returns rfl (Or.inl ⟨rfl, by simp, _, rfl⟩) (hb hby d29_18) hr
  · show (Qp (some (.int 1))) h0 n0 _ T2.heap _
    rw [e2]
    exact ⟨rfl, N0, rfl⟩
theorem rm_isl1 (l : Launch) (Z : State) (a0 : Array Value) (hw : ∀ d ∈ tables_1, d.before a0 Z = true) (ws : List Jvm.Cond) (sa : Addr) (h0 : Heap) (n0 : Nat) (Z0 : n0 ≤ h0.size) (Y0 : Old Z n0 h0) (zc : Int32) (fm : Value) (S : Sts Z Z.heap zc fm) (ta : Addr) (ka : ClassId) (Na : Int32) (va : List Value) (Xa : TX Z h0 sa ta ka Na va (1 : Int32))  :
    MFa l mN6 jdk_42_method_154_code 1 (some .boolean) ws (Room.mk 0 0 0 0) Z h0 n0 #[(.ref sa)] (Qp (some (.int 0))) := by
  refine MetFree.of_bodySF (plainFor_of_name pn_13) hisR ?_
  intro p e s m args below meth c s₁ Bd hml0 hP hK
  obtain ⟨rfl, hZ, hh⟩ := hP
  have hx := Bd.exec
  have hby := Bd.bytes
  have hown : s.vm.findClass "java/lang/String" = some m.cls := findClass_of_methodNamed Bd.named
  have X0 : Stand p l e (Room.mk 0 0 0 0) s m #[(.ref sa)] below meth c s₁ [] 0 0 := Stand.of_body Bd
  have e0 : s₁.heap = h0 := by rw [← hh, Bd.state]; rfl
  have N0 := Fr.nil n0
  have pre0 : Pr p e below (s₁.setTop (mkF m 0 #[rv sa] [])) (s₁.setTop (entryFrame m #[(.ref sa)] 1)) := fun t k => castTop (by first | (simp [entryFrame, mkF, argsToLocals, Value.category]; done) | rfl) k
  obtain ⟨T1, X1, e1, st1⟩ := getS2 X0 hx hZ hown (host := "") (Or.inl (ww hw 15 rfl)) Via.refl e0 (S.1.ext Y0.2) (g := (mkF m 0 #[rv sa] [])) rfl (hb hby d41_0)
  obtain ⟨T2, X2, e2, st2⟩ := getF X1 hx hZ hown (host := "") (Or.inl (ww hw 27 rfl)) Via.refl e1 Xa.2.1 (g := (mkF m 7 #[rv sa] [(.ref sa)])) rfl rfl (hb hby d41_7)
  have pre3 : Pr p e below (T2.setTop (mkF m 18 #[rv sa] [(.int 0)])) (s₁.setTop (entryFrame m #[(.ref sa)] 1)) := fun t k => pre0 t (by
    show Steps _ _ _ (s₁.setTop (mkF m 0 #[rv sa] [])) _
    refine st1 _ ?_
    show Steps _ _ _ (T1.setTop (mkF m 3 #[rv sa] [(.int zc)])) _
    refine XS.ifNo X1.here hx rfl (hb hby d41_3) rfl ((if0 _ _).trans (feq S.2.2.2.2.2.1).1) ?_
    refine XS.aloadN X1.here hx rfl (hb hby d41_6) rfl rfl ?_
    refine st2 _ ?_
    show Steps _ _ _ (T2.setTop (mkF m 10 #[rv sa] [(.int 1)])) _
    refine XS.ifYes X2.here hx rfl (pc0 := 10) (pc' := 17) rfl (hb hby d41_10) rfl ((if0 _ _).trans (feq (by decide : ¬ ((1 : Int32) = (0 : Int32)))).2) (by decide) (by decide) ?_
    refine XT.iconstV X2.here hx rfl (0 : Int32) (hb hby d41_17) (by decide) ?_
    exact k)
  obtain ⟨fs, hr, hrun, hended, hW, hsame⟩ := X2.leave (v := some (.int 0)) (fun h => by rw [Bd.returns] at h; cases h)
  refine ⟨_, _, pre3 _ ?_, hrun, hended, _, _, rfl, ?_, ⟨_, rfl⟩, hW, hsame.mono (by decide) (by decide)⟩
  · show Steps _ _ _ (T2.setTop (mkF m 18 #[rv sa] [(.int 0)])) _
    exact retOut X2 hx Bd.returns rfl (Or.inl ⟨rfl, by simp, _, rfl⟩) (hb hby d41_18) hr
  · show (Qp (some (.int 0))) h0 n0 _ T2.heap _
    rw [e2]
    exact ⟨rfl, N0, rfl⟩
theorem rm_bisl1 (l : Launch) (Z : State) (a0 : Array Value) (hw : ∀ d ∈ tables_1, d.before a0 Z = true) (ws : List Jvm.Cond) (rb : Addr) (h0 : Heap) (n0 : Nat) (Z0 : n0 ≤ h0.size) (Y0 : Old Z n0 h0) (zc : Int32) (fm : Value) (S : Sts Z Z.heap zc fm) (Nb cb : Int32) (tb : Addr) (kb : ClassId) (vb : List Value) (Bb : SB Z h0 rb tb kb Nb vb (1 : Int32) cb) (gr : n0 ≤ rb) (gt : n0 ≤ tb)  :
    MFa l mN7 jdk_68_method_68_code 1 (some .boolean) ws (Room.mk 0 0 0 0) Z h0 n0 #[(.ref rb)] (Qp (some (.int 0))) := by
  refine MetFree.of_bodySF (plainFor_of_name pn_26) hisR ?_
  intro p e s m args below meth c s₁ Bd hml0 hP hK
  obtain ⟨rfl, hZ, hh⟩ := hP
  have hx := Bd.exec
  have hby := Bd.bytes
  have hown : s.vm.findClass "java/lang/AbstractStringBuilder" = some m.cls := findClass_of_methodNamed Bd.named
  have X0 : Stand p l e (Room.mk 0 0 0 0) s m #[(.ref rb)] below meth c s₁ [] 0 0 := Stand.of_body Bd
  have e0 : s₁.heap = h0 := by rw [← hh, Bd.state]; rfl
  have N0 := Fr.nil n0
  have pre0 : Pr p e below (s₁.setTop (mkF m 0 #[rv rb] [])) (s₁.setTop (entryFrame m #[(.ref rb)] 1)) := fun t k => castTop (by first | (simp [entryFrame, mkF, argsToLocals, Value.category]; done) | rfl) k
  obtain ⟨T1, X1, e1, st1⟩ := getS2 X0 hx hZ hown (host := "") (Or.inl (ww hw 51 rfl)) Via.refl e0 (S.1.ext Y0.2) (g := (mkF m 0 #[rv rb] [])) rfl (hb hby d29_0)
  obtain ⟨T2, X2, e2, st2⟩ := getF X1 hx hZ hown (host := "") (Or.inl (ww hw 54 rfl)) Via.refl e1 Bb.2.2.1 (g := (mkF m 7 #[rv rb] [(.ref rb)])) rfl rfl (hb hby d29_7)
  have pre3 : Pr p e below (T2.setTop (mkF m 18 #[rv rb] [(.int 0)])) (s₁.setTop (entryFrame m #[(.ref rb)] 1)) := fun t k => pre0 t (by
    show Steps _ _ _ (s₁.setTop (mkF m 0 #[rv rb] [])) _
    refine st1 _ ?_
    show Steps _ _ _ (T1.setTop (mkF m 3 #[rv rb] [(.int zc)])) _
    refine XS.ifNo X1.here hx rfl (hb hby d29_3) rfl ((if0 _ _).trans (feq S.2.2.2.2.2.1).1) ?_
    refine XS.aloadN X1.here hx rfl (hb hby d29_6) rfl rfl ?_
    refine st2 _ ?_
    show Steps _ _ _ (T2.setTop (mkF m 10 #[rv rb] [(.int 1)])) _
    refine XS.ifYes X2.here hx rfl (pc0 := 10) (pc' := 17) rfl (hb hby d29_10) rfl ((if0 _ _).trans (feq (by decide : ¬ ((1 : Int32) = (0 : Int32)))).2) (by decide) (by decide) ?_
    refine XT.iconstV X2.here hx rfl (0 : Int32) (hb hby d29_17) (by decide) ?_
    exact k)
  obtain ⟨fs, hr, hrun, hended, hW, hsame⟩ := X2.leave (v := some (.int 0)) (fun h => by rw [Bd.returns] at h; cases h)
  refine ⟨_, _, pre3 _ ?_, hrun, hended, _, _, rfl, ?_, ⟨_, rfl⟩, hW, hsame.mono (by decide) (by decide)⟩
  · show Steps _ _ _ (T2.setTop (mkF m 18 #[rv rb] [(.int 0)])) _
    exact retOut X2 hx Bd.returns rfl (Or.inl ⟨rfl, by simp, _, rfl⟩) (hb hby d29_18) hr
  · show (Qp (some (.int 0))) h0 n0 _ T2.heap _
    rw [e2]
    exact ⟨rfl, N0, rfl⟩
theorem rm_max (l : Launch) (Z : State) (a0 : Array Value) (hw : ∀ d ∈ tables_1, d.before a0 Z = true) (ws : List Jvm.Cond) (xa : Int32) (xb : Int32) (h0 : Heap) (n0 : Nat) (Z0 : n0 ≤ h0.size) (Y0 : Old Z n0 h0) (zc : Int32) (fm : Value) (S : Sts Z Z.heap zc fm) (hab : xa < xb)  :
    MFa l mN8 jdk_29_method_65_code 2 (some .int) ws (Room.mk 0 0 0 0) Z h0 n0 #[(.int xa), (.int xb)] (Qp (some (.int xb))) := by
  refine MetFree.of_bodySF (Jvm.Free.JP.mathPlain rfl (by decide +kernel)) hisR ?_
  intro p e s m args below meth c s₁ Bd hml0 hP hK
  obtain ⟨rfl, hZ, hh⟩ := hP
  have hx := Bd.exec
  have hby := Bd.bytes
  have X0 : Stand p l e (Room.mk 0 0 0 0) s m #[(.int xa), (.int xb)] below meth c s₁ [] 0 0 := Stand.of_body Bd
  have e0 : s₁.heap = h0 := by rw [← hh, Bd.state]; rfl
  have N0 := Fr.nil n0
  have pre0 : Pr p e below (s₁.setTop (mkF m 0 #[iv xa, iv xb] [])) (s₁.setTop (entryFrame m #[(.int xa), (.int xb)] 2)) := fun t k => castTop (by first | (simp [entryFrame, mkF, argsToLocals, Value.category]; done) | rfl) k
  have pre1 : Pr p e below (s₁.setTop (mkF m 10 #[iv xa, iv xb] [(.int xb)])) (s₁.setTop (entryFrame m #[(.int xa), (.int xb)] 2)) := fun t k => pre0 t (by
    show Steps _ _ _ (s₁.setTop (mkF m 0 #[iv xa, iv xb] [])) _
    refine XS.iloadN X0.here hx rfl (hb hby d20_0) rfl ?_
    refine XS.iloadN X0.here hx rfl (hb hby d20_1) rfl ?_
    show Steps _ _ _ (s₁.setTop (mkF m 2 #[iv xa, iv xb] [(.int xb), (.int xa)])) _
    refine XS.icmpYes X0.here hx rfl (pc0 := 2) (pc' := 9) rfl (hb hby d20_2) rfl (tlt hab).1 (by decide) (by decide) ?_
    refine XS.iloadN X0.here hx rfl (hb hby d20_9) rfl ?_
    exact k)
  obtain ⟨fs, hr, hrun, hended, hW, hsame⟩ := X0.leave (v := some (.int xb)) (fun h => by rw [Bd.returns] at h; cases h)
  refine ⟨_, _, pre1 _ ?_, hrun, hended, _, _, rfl, ?_, ⟨_, rfl⟩, hW, hsame.mono (by decide) (by decide)⟩
  · show Steps _ _ _ (s₁.setTop (mkF m 10 #[iv xa, iv xb] [(.int xb)])) _
    exact retOut X0 hx Bd.returns rfl (Or.inl ⟨rfl, by simp, _, rfl⟩) (hb hby d20_10) hr
  · show (Qp (some (.int xb))) h0 n0 _ s₁.heap _
    rw [e0]
    exact ⟨rfl, N0, rfl⟩
theorem rm_min (l : Launch) (Z : State) (a0 : Array Value) (hw : ∀ d ∈ tables_1, d.before a0 Z = true) (ws : List Jvm.Cond) (xa : Int32) (xb : Int32) (h0 : Heap) (n0 : Nat) (Z0 : n0 ≤ h0.size) (Y0 : Old Z n0 h0) (zc : Int32) (fm : Value) (S : Sts Z Z.heap zc fm) (hab : ¬ xb < xa)  :
    MFa l mN9 jdk_29_method_69_code 2 (some .int) ws (Room.mk 0 0 0 0) Z h0 n0 #[(.int xa), (.int xb)] (Qp (some (.int xa))) := by
  refine MetFree.of_bodySF (Jvm.Free.JP.mathPlain rfl (by decide +kernel)) hisR ?_
  intro p e s m args below meth c s₁ Bd hml0 hP hK
  obtain ⟨rfl, hZ, hh⟩ := hP
  have hx := Bd.exec
  have hby := Bd.bytes
  have X0 : Stand p l e (Room.mk 0 0 0 0) s m #[(.int xa), (.int xb)] below meth c s₁ [] 0 0 := Stand.of_body Bd
  have e0 : s₁.heap = h0 := by rw [← hh, Bd.state]; rfl
  have N0 := Fr.nil n0
  have pre0 : Pr p e below (s₁.setTop (mkF m 0 #[iv xa, iv xb] [])) (s₁.setTop (entryFrame m #[(.int xa), (.int xb)] 2)) := fun t k => castTop (by first | (simp [entryFrame, mkF, argsToLocals, Value.category]; done) | rfl) k
  have pre1 : Pr p e below (s₁.setTop (mkF m 10 #[iv xa, iv xb] [(.int xa)])) (s₁.setTop (entryFrame m #[(.int xa), (.int xb)] 2)) := fun t k => pre0 t (by
    show Steps _ _ _ (s₁.setTop (mkF m 0 #[iv xa, iv xb] [])) _
    refine XS.iloadN X0.here hx rfl (hb hby d22_0) rfl ?_
    refine XS.iloadN X0.here hx rfl (hb hby d22_1) rfl ?_
    show Steps _ _ _ (s₁.setTop (mkF m 2 #[iv xa, iv xb] [(.int xb), (.int xa)])) _
    refine XS.icmpNo X0.here hx rfl (hb hby d22_2) rfl (flt hab).2.2.1 ?_
    refine XS.iloadN X0.here hx rfl (hb hby d22_5) rfl ?_
    refine XS.goto X0.here hx rfl (pc0 := 6) (pc' := 10) rfl (hb hby d22_6) (by decide) (by decide) ?_
    exact k)
  obtain ⟨fs, hr, hrun, hended, hW, hsame⟩ := X0.leave (v := some (.int xa)) (fun h => by rw [Bd.returns] at h; cases h)
  refine ⟨_, _, pre1 _ ?_, hrun, hended, _, _, rfl, ?_, ⟨_, rfl⟩, hW, hsame.mono (by decide) (by decide)⟩
  · show Steps _ _ _ (s₁.setTop (mkF m 10 #[iv xa, iv xb] [(.int xa)])) _
    exact retOut X0 hx Bd.returns rfl (Or.inl ⟨rfl, by simp, _, rfl⟩) (hb hby d22_10) hr
  · show (Qp (some (.int xa))) h0 n0 _ s₁.heap _
    rw [e0]
    exact ⟨rfl, N0, rfl⟩
theorem rm_minB (l : Launch) (Z : State) (a0 : Array Value) (hw : ∀ d ∈ tables_1, d.before a0 Z = true) (ws : List Jvm.Cond) (xa : Int32) (xb : Int32) (h0 : Heap) (n0 : Nat) (Z0 : n0 ≤ h0.size) (Y0 : Old Z n0 h0) (zc : Int32) (fm : Value) (S : Sts Z Z.heap zc fm) (hab : xb < xa)  :
    MFa l mN9 jdk_29_method_69_code 2 (some .int) ws (Room.mk 0 0 0 0) Z h0 n0 #[(.int xa), (.int xb)] (Qp (some (.int xb))) := by
  refine MetFree.of_bodySF (Jvm.Free.JP.mathPlain rfl (by decide +kernel)) hisR ?_
  intro p e s m args below meth c s₁ Bd hml0 hP hK
  obtain ⟨rfl, hZ, hh⟩ := hP
  have hx := Bd.exec
  have hby := Bd.bytes
  have X0 : Stand p l e (Room.mk 0 0 0 0) s m #[(.int xa), (.int xb)] below meth c s₁ [] 0 0 := Stand.of_body Bd
  have e0 : s₁.heap = h0 := by rw [← hh, Bd.state]; rfl
  have N0 := Fr.nil n0
  have pre0 : Pr p e below (s₁.setTop (mkF m 0 #[iv xa, iv xb] [])) (s₁.setTop (entryFrame m #[(.int xa), (.int xb)] 2)) := fun t k => castTop (by first | (simp [entryFrame, mkF, argsToLocals, Value.category]; done) | rfl) k
  have pre1 : Pr p e below (s₁.setTop (mkF m 10 #[iv xa, iv xb] [(.int xb)])) (s₁.setTop (entryFrame m #[(.int xa), (.int xb)] 2)) := fun t k => pre0 t (by
    show Steps _ _ _ (s₁.setTop (mkF m 0 #[iv xa, iv xb] [])) _
    refine XS.iloadN X0.here hx rfl (hb hby d22_0) rfl ?_
    refine XS.iloadN X0.here hx rfl (hb hby d22_1) rfl ?_
    show Steps _ _ _ (s₁.setTop (mkF m 2 #[iv xa, iv xb] [(.int xb), (.int xa)])) _
    refine XS.icmpYes X0.here hx rfl (pc0 := 2) (pc' := 9) rfl (hb hby d22_2) rfl (tlt hab).2.2.1 (by decide) (by decide) ?_
    refine XS.iloadN X0.here hx rfl (hb hby d22_9) rfl ?_
    exact k)
  obtain ⟨fs, hr, hrun, hended, hW, hsame⟩ := X0.leave (v := some (.int xb)) (fun h => by rw [Bd.returns] at h; cases h)
  refine ⟨_, _, pre1 _ ?_, hrun, hended, _, _, rfl, ?_, ⟨_, rfl⟩, hW, hsame.mono (by decide) (by decide)⟩
  · show Steps _ _ _ (s₁.setTop (mkF m 10 #[iv xa, iv xb] [(.int xb)])) _
    exact retOut X0 hx Bd.returns rfl (Or.inl ⟨rfl, by simp, _, rfl⟩) (hb hby d22_10) hr
  · show (Qp (some (.int xb))) h0 n0 _ s₁.heap _
    rw [e0]
    exact ⟨rfl, N0, rfl⟩
theorem pn_19 : plainName "jdk/internal/util/ArraysSupport" = true := by first | (simp [plainName, overriddenIn]; done) | decide +kernel
theorem rm_nl (l : Launch) (Z : State) (a0 : Array Value) (hw : ∀ d ∈ tables_1, d.before a0 Z = true) (ws : List Jvm.Cond) (nb : Int32) (gw : Int32) (pg : Int32) (h0 : Heap) (n0 : Nat) (Z0 : n0 ≤ h0.size) (Y0 : Old Z n0 h0) (zc : Int32) (fm : Value) (S : Sts Z Z.heap zc fm) (mc nn rr cap cdb : Int32) (kx ky : Nat) (hg : GR mc nb cdb gw pg nn rr cap kx ky)  :
    MFa l mN10 jdk_48_method_27_code 4 (some .int) ws (Room.mk 1 0 0 14) Z h0 n0 #[(.int nb), (.int gw), (.int pg)] (Qp (some (.int nn))) := by
  refine MetFree.of_bodySF (plainFor_of_name pn_19) hisR ?_
  intro p e s m args below meth c s₁ Bd hml0 hP hK
  obtain ⟨rfl, hZ, hh⟩ := hP
  have hx := Bd.exec
  have hby := Bd.bytes
  have hml : c.maxLocals = 4 := hml0
  have hown : s.vm.findClass "jdk/internal/util/ArraysSupport" = some m.cls := findClass_of_methodNamed Bd.named
  have X0 : Stand p l e (Room.mk 1 0 0 14) s m #[(.int nb), (.int gw), (.int pg)] below meth c s₁ [] 0 0 := Stand.of_body Bd
  have e0 : s₁.heap = h0 := by rw [← hh, Bd.state]; rfl
  have N0 := Fr.nil n0
  have pre0 : Pr p e below (s₁.setTop (mkF m 0 #[iv nb, iv gw, iv pg, .unset] [])) (s₁.setTop (entryFrame m #[(.int nb), (.int gw), (.int pg)] 4)) := fun t k => castTop (by first | (simp [entryFrame, mkF, argsToLocals, Value.category]; done) | rfl) k
  obtain ⟨_, _, ⟨T1, L1, k1, n1⟩, -, X1, ⟨Lc1, hQ1, l1, y1, z1⟩, st1⟩ := Jvm.LawKit.callS X0 hx (y := mN8) hown (mw hZ hw 116 rfl) (mw hZ hw 117 rfl) (mw hZ hw 118 rfl) (mw hZ hw 119 rfl) (by decide) (backOf (W := 1) (rm_max l Z a0 hw [] gw pg h0 n0 (own_old0 Y0) Y0 zc fm S hg.2.2.2.2.1) hZ (ww hw 119 rfl) (ww hw 118 rfl) (by decide) (by decide)) (g := (mkF m 3 #[iv nb, iv gw, iv pg, .unset] [(.int pg), (.int gw), (.int nb)])) rfl (by rw [hml]; rfl) (argsL := [(.int gw), (.int pg)]) (rest := [(.int nb)]) (lenOf pd_2 rfl) rfl own_z (hb hby d19_3) (fun _ _ => ⟨rfl, e0, (by decide : 0 + 0 ≤ _), (by decide : 0 + 0 ≤ _)⟩)
  dsimp only [Pt.U, Pt.locs, Pt.cells, Pt.slots] at X1 l1 y1 z1 st1 hQ1
  rw [y1, z1] at X1
  obtain ⟨rfl, N1q, e1⟩ := hQ1
  have N1 := own_fr l1 N0 N1q
  have pre2 : Pr p e below (T1.setTop (mkF m 19 #[iv nb, iv gw, iv pg, iv nn] [])) (s₁.setTop (entryFrame m #[(.int nb), (.int gw), (.int pg)] 4)) := fun t k => pre0 t (by
    show Steps _ _ _ (s₁.setTop (mkF m 0 #[iv nb, iv gw, iv pg, .unset] [])) _
    refine XS.iloadN X0.here hx rfl (hb hby d19_0) rfl ?_
    refine XS.iloadN X0.here hx rfl (hb hby d19_1) rfl ?_
    refine XS.iloadN X0.here hx rfl (hb hby d19_2) rfl ?_
    refine st1 _ ?_
    refine XS.iadd X1.here hx rfl (hb hby d19_6) rfl ?_
    show Steps _ _ _ (T1.setTop (mkF m 7 #[iv nb, iv gw, iv pg, .unset] [(.int (nb + pg))])) _
    refine castTop (g' := (mkF m 7 #[iv nb, iv gw, iv pg, .unset] [(.int nn)])) (by rw [hg.2.2.2.2.2.1]) ?_
    refine XS.istoreN X1.here hx rfl (hb hby d19_7) rfl (l' := #[iv nb, iv gw, iv pg, iv nn]) rfl ?_
    refine XT.iconstV X1.here hx rfl (0 : Int32) (hb hby d19_8) (by decide) ?_
    refine XS.iloadN X1.here hx rfl (hb hby d19_9) rfl ?_
    show Steps _ _ _ (T1.setTop (mkF m 10 #[iv nb, iv gw, iv pg, iv nn] [(.int nn), (.int 0)])) _
    refine XS.icmpNo X1.here hx rfl (hb hby d19_10) rfl (tlt hg.2.2.2.2.2.2.1).2.1 ?_
    refine XS.iloadN X1.here hx rfl (hb hby d19_13) rfl ?_
    refine X1.ldcInt hx hown (mw hZ hw 120 rfl) (g := (mkF m 14 #[iv nb, iv gw, iv pg, iv nn] [(.int nn)])) rfl (hb hby d19_14) _ ?_
    show Steps _ _ _ (T1.setTop (mkF m 16 #[iv nb, iv gw, iv pg, iv nn] [(.int 2147483639), (.int nn)])) _
    refine XS.icmpNo X1.here hx rfl (hb hby d19_16) rfl (flt hg.2.2.2.2.2.2.2.1).2.2.1 ?_
    exact k)
  have pre3 : Pr p e below (T1.setTop (mkF m 20 #[iv nb, iv gw, iv pg, iv nn] [(.int nn)])) (s₁.setTop (entryFrame m #[(.int nb), (.int gw), (.int pg)] 4)) := fun t k => pre2 t (by
    show Steps _ _ _ (T1.setTop (mkF m 19 #[iv nb, iv gw, iv pg, iv nn] [])) _
    refine XS.iloadN X1.here hx rfl (hb hby d19_19) rfl ?_
    exact k)
  obtain ⟨fs, hr, hrun, hended, hW, hsame⟩ := X1.leave (v := some (.int nn)) (fun h => by rw [Bd.returns] at h; cases h)
  refine ⟨_, _, pre3 _ ?_, hrun, hended, _, _, rfl, ?_, ⟨_, rfl⟩, hW, hsame.mono (by decide) (by decide)⟩
  · show Steps _ _ _ (T1.setTop (mkF m 20 #[iv nb, iv gw, iv pg, iv nn] [(.int nn)])) _
    exact retOut X1 hx Bd.returns rfl (Or.inl ⟨rfl, by simp, _, rfl⟩) (hb hby d19_20) hr
  · show (Qp (some (.int nn))) h0 n0 _ T1.heap _
    rw [e1]
    exact ⟨rfl, N1, rfl⟩
theorem rm_nc (l : Launch) (Z : State) (a0 : Array Value) (hw : ∀ d ∈ tables_1, d.before a0 Z = true) (ws : List Jvm.Cond) (rb : Addr) (mc : Int32) (h0 : Heap) (n0 : Nat) (Z0 : n0 ≤ h0.size) (Y0 : Old Z n0 h0) (zc : Int32) (fm : Value) (S : Sts Z Z.heap zc fm) (cb cdb : Int32) (nb gw pg nn rr cap : Int32) (kx ky : Nat) (hg : GR mc nb cdb gw pg nn rr cap kx ky) (tb : Addr) (kb : ClassId) (vb : List Value) (Bb : SB Z h0 rb tb kb nb vb cdb cb) (gr : n0 ≤ rb) (gt : n0 ≤ tb)  :
    MFa l mN11 jdk_68_method_10_code 6 (some .int) ws (Room.mk 2 0 0 29) Z h0 n0 #[(.ref rb), (.int mc)] (Qp (some (.int rr))) := by
  refine MetFree.of_bodySF (plainFor_of_name pn_26) hisR ?_
  intro p e s m args below meth c s₁ Bd hml0 hP hK
  obtain ⟨rfl, hZ, hh⟩ := hP
  have hx := Bd.exec
  have hby := Bd.bytes
  have hml : c.maxLocals = 6 := hml0
  have hown : s.vm.findClass "java/lang/AbstractStringBuilder" = some m.cls := findClass_of_methodNamed Bd.named
  have X0 : Stand p l e (Room.mk 2 0 0 29) s m #[(.ref rb), (.int mc)] below meth c s₁ [] 0 0 := Stand.of_body Bd
  have e0 : s₁.heap = h0 := by rw [← hh, Bd.state]; rfl
  have N0 := Fr.nil n0
  have pre0 : Pr p e below (s₁.setTop (mkF m 0 #[rv rb, iv mc, .unset, .unset, .unset, .unset] [])) (s₁.setTop (entryFrame m #[(.ref rb), (.int mc)] 6)) := fun t k => castTop (by first | (simp [entryFrame, mkF, argsToLocals, Value.category]; done) | rfl) k
  obtain ⟨T1, X1, e1, st1⟩ := getF X0 hx hZ hown (host := "") (Or.inl (ww hw 52 rfl)) Via.refl e0 Bb.2.1 (g := (mkF m 1 #[rv rb, iv mc, .unset, .unset, .unset, .unset] [(.ref rb)])) rfl rfl (hb hby d18_1)
  obtain ⟨cl2, Ar2, -, Sz2, nz2, -, -⟩ := id Bb.2.2.2.2.2.1
  obtain ⟨T3, X3, e3, st3⟩ := getF X1 hx hZ hown (host := "") (Or.inl (ww hw 54 rfl)) Via.refl e1 Bb.2.2.1 (g := (mkF m 8 #[rv rb, iv mc, iv nb, .unset, .unset, .unset] [(.ref rb), (.int mc)])) rfl rfl (hb hby d18_8)
  have pre4 : Pr p e below (T3.setTop (mkF m 16 #[rv rb, iv mc, iv nb, .val (.int (mc <<< (cdb &&& 31))), .unset, .unset] [(.int gw)])) (s₁.setTop (entryFrame m #[(.ref rb), (.int mc)] 6)) := fun t k => pre0 t (by
    show Steps _ _ _ (s₁.setTop (mkF m 0 #[rv rb, iv mc, .unset, .unset, .unset, .unset] [])) _
    refine XS.aloadN X0.here hx rfl (hb hby d18_0) rfl rfl ?_
    refine st1 _ ?_
    refine X1.arraylength hx (by rw [e1]; exact Ar2.1) (State.isArrayOf_alike hZ.alike Ar2.2.1) (g := (mkF m 4 #[rv rb, iv mc, .unset, .unset, .unset, .unset] [(.ref tb)])) rfl rfl (hb hby d18_4) _ ?_
    rw [len_of Sz2 nz2]
    refine XS.istoreN X1.here hx rfl (hb hby d18_5) rfl (l' := #[rv rb, iv mc, iv nb, .unset, .unset, .unset]) rfl ?_
    refine XS.iloadN X1.here hx rfl (hb hby d18_6) rfl ?_
    refine XS.aloadN X1.here hx rfl (hb hby d18_7) rfl rfl ?_
    refine st3 _ ?_
    refine XS.ishl X3.here hx rfl (hb hby d18_11) rfl ?_
    refine XS.istoreN X3.here hx rfl (hb hby d18_12) rfl (l' := #[rv rb, iv mc, iv nb, .val (.int (mc <<< (cdb &&& 31))), .unset, .unset]) rfl ?_
    refine XS.iloadN X3.here hx rfl (hb hby d18_13) rfl ?_
    refine XS.iloadN X3.here hx rfl (hb hby d18_14) rfl ?_
    refine XS.isub X3.here hx rfl (hb hby d18_15) rfl ?_
    show Steps _ _ _ (T3.setTop (mkF m 16 #[rv rb, iv mc, iv nb, .val (.int (mc <<< (cdb &&& 31))), .unset, .unset] [(.int ((mc <<< (cdb &&& 31)) - nb))])) _
    refine castTop (g' := (mkF m 16 #[rv rb, iv mc, iv nb, .val (.int (mc <<< (cdb &&& 31))), .unset, .unset] [(.int gw)])) (by rw [hg.2.2.1]) ?_
    exact k)
  obtain ⟨T5, X5, e5, st5⟩ := getF X3 hx hZ hown (host := "") (Or.inl (ww hw 54 rfl)) Via.refl e3 Bb.2.2.1 (g := (mkF m 24 #[rv rb, iv mc, iv nb, .val (.int (mc <<< (cdb &&& 31))), iv gw, .unset] [(.ref rb), (.int 2), (.int nb), (.int gw), (.int nb)])) rfl rfl (hb hby d18_24)
  obtain ⟨_, _, ⟨T6, L6, k6, n6⟩, -, X6, ⟨Lc6, hQ6, l6, y6, z6⟩, st6⟩ := Jvm.LawKit.callS X5 hx (y := mN10) hown (mw hZ hw 112 rfl) (mw hZ hw 113 rfl) (mw hZ hw 114 rfl) (mw hZ hw 115 rfl) (by decide) (backOf (W := 0) (rm_nl l Z a0 hw [] nb gw pg h0 n0 (own_old0 Y0) Y0 zc fm S mc nn rr cap cdb kx ky hg) hZ (ww hw 115 rfl) (ww hw 114 rfl) (by decide) (by decide)) (g := (mkF m 29 #[rv rb, iv mc, iv nb, .val (.int (mc <<< (cdb &&& 31))), iv gw, .unset] [(.int pg), (.int gw), (.int nb)])) rfl (by rw [hml]; rfl) (argsL := [(.int nb), (.int gw), (.int pg)]) (rest := []) (lenOf pd_3 rfl) rfl own_z (hb hby d18_29) (fun _ _ => ⟨rfl, e5, (by decide : 0 + 0 ≤ _), (by decide : 0 + 0 ≤ _)⟩)
  dsimp only [Pt.U, Pt.locs, Pt.cells, Pt.slots] at X6 l6 y6 z6 st6 hQ6
  rw [y6, z6] at X6
  obtain ⟨rfl, N6q, e6⟩ := hQ6
  have N6 := own_fr l6 N0 N6q
  have pre7 : Pr p e below (T6.setTop (mkF m 36 #[rv rb, iv mc, iv nb, .val (.int (mc <<< (cdb &&& 31))), iv gw, iv nn] [(.int nn)])) (s₁.setTop (entryFrame m #[(.ref rb), (.int mc)] 6)) := fun t k => pre4 t (by
    show Steps _ _ _ (T3.setTop (mkF m 16 #[rv rb, iv mc, iv nb, .val (.int (mc <<< (cdb &&& 31))), .unset, .unset] [(.int gw)])) _
    refine XS.istore X3.here hx rfl (hb hby d18_16) rfl (l' := #[rv rb, iv mc, iv nb, .val (.int (mc <<< (cdb &&& 31))), iv gw, .unset]) rfl ?_
    refine XS.iloadN X3.here hx rfl (hb hby d18_18) rfl ?_
    refine XS.iload X3.here hx rfl (hb hby d18_19) rfl ?_
    refine XS.iloadN X3.here hx rfl (hb hby d18_21) rfl ?_
    refine XT.iconstV X3.here hx rfl (2 : Int32) (hb hby d18_22) (by decide) ?_
    refine XS.aloadN X3.here hx rfl (hb hby d18_23) rfl rfl ?_
    refine st5 _ ?_
    refine XS.ishl X5.here hx rfl (hb hby d18_27) rfl ?_
    refine XS.iadd X5.here hx rfl (hb hby d18_28) rfl ?_
    show Steps _ _ _ (T5.setTop (mkF m 29 #[rv rb, iv mc, iv nb, .val (.int (mc <<< (cdb &&& 31))), iv gw, .unset] [(.int (nb + ((2 : Int32) <<< (cdb &&& 31)))), (.int gw), (.int nb)])) _
    refine castTop (g' := (mkF m 29 #[rv rb, iv mc, iv nb, .val (.int (mc <<< (cdb &&& 31))), iv gw, .unset] [(.int pg), (.int gw), (.int nb)])) (by rw [hg.2.2.2.1]) ?_
    refine st6 _ ?_
    refine XS.istore X6.here hx rfl (hb hby d18_32) rfl (l' := #[rv rb, iv mc, iv nb, .val (.int (mc <<< (cdb &&& 31))), iv gw, iv nn]) rfl ?_
    refine XS.iload X6.here hx rfl (hb hby d18_34) rfl ?_
    exact k)
  obtain ⟨T8, X8, e8, st8⟩ := getF X6 hx hZ hown (host := "") (Or.inl (ww hw 54 rfl)) Via.refl e6 Bb.2.2.1 (g := (mkF m 54 #[rv rb, iv mc, iv nb, .val (.int (mc <<< (cdb &&& 31))), iv gw, iv nn] [(.ref rb), (.int nn)])) rfl rfl (hb hby d18_54)
  have pre9 : Pr p e below (T8.setTop (mkF m 58 #[rv rb, iv mc, iv nb, .val (.int (mc <<< (cdb &&& 31))), iv gw, iv nn] [(.int rr)])) (s₁.setTop (entryFrame m #[(.ref rb), (.int mc)] 6)) := fun t k => pre7 t (by
    show Steps _ _ _ (T6.setTop (mkF m 36 #[rv rb, iv mc, iv nb, .val (.int (mc <<< (cdb &&& 31))), iv gw, iv nn] [(.int nn)])) _
    refine X6.ldcInt hx hown (mw hZ hw 121 rfl) (g := (mkF m 36 #[rv rb, iv mc, iv nb, .val (.int (mc <<< (cdb &&& 31))), iv gw, iv nn] [(.int nn)])) rfl (hb hby d18_36) _ ?_
    show Steps _ _ _ (T6.setTop (mkF m 38 #[rv rb, iv mc, iv nb, .val (.int (mc <<< (cdb &&& 31))), iv gw, iv nn] [(.int 2147483647), (.int nn)])) _
    refine XS.icmpYes X6.here hx rfl (pc0 := 38) (pc' := 51) rfl (hb hby d18_38) rfl (feq hg.2.2.2.2.2.2.2.2.1).2 (by decide) (by decide) ?_
    refine XS.iload X6.here hx rfl (hb hby d18_51) rfl ?_
    refine XS.aloadN X6.here hx rfl (hb hby d18_53) rfl rfl ?_
    refine st8 _ ?_
    refine XS.ishr X8.here hx rfl (hb hby d18_57) rfl ?_
    show Steps _ _ _ (T8.setTop (mkF m 58 #[rv rb, iv mc, iv nb, .val (.int (mc <<< (cdb &&& 31))), iv gw, iv nn] [(.int (nn >>> (cdb &&& 31)))])) _
    refine castTop (g' := (mkF m 58 #[rv rb, iv mc, iv nb, .val (.int (mc <<< (cdb &&& 31))), iv gw, iv nn] [(.int rr)])) (by rw [hg.2.2.2.2.2.2.2.2.2.1]) ?_
    exact k)
  obtain ⟨fs, hr, hrun, hended, hW, hsame⟩ := X8.leave (v := some (.int rr)) (fun h => by rw [Bd.returns] at h; cases h)
  refine ⟨_, _, pre9 _ ?_, hrun, hended, _, _, rfl, ?_, ⟨_, rfl⟩, hW, hsame.mono (by decide) (by decide)⟩
  · show Steps _ _ _ (T8.setTop (mkF m 58 #[rv rb, iv mc, iv nb, .val (.int (mc <<< (cdb &&& 31))), iv gw, iv nn] [(.int rr)])) _
    exact retOut X8 hx Bd.returns rfl (Or.inl ⟨rfl, by simp, _, rfl⟩) (hb hby d18_58) hr
  · show (Qp (some (.int rr))) h0 n0 _ T8.heap _
    rw [e8]
    exact ⟨rfl, N6, rfl⟩
theorem pn_21 : plainName "java/util/Arrays" = true := by first | (simp [plainName, overriddenIn]; done) | decide +kernel
theorem rm_cp (l : Launch) (Z : State) (a0 : Array Value) (hw : ∀ d ∈ tables_1, d.before a0 Z = true) (ws : List Jvm.Cond) (tb : Addr) (nn : Int32) (h0 : Heap) (n0 : Nat) (Z0 : n0 ≤ h0.size) (Y0 : Old Z n0 h0) (zc : Int32) (fm : Value) (S : Sts Z Z.heap zc fm) (mc cdb : Int32) (nb gw pg rr cap : Int32) (kx ky : Nat) (hg : GR mc nb cdb gw pg nn rr cap kx ky) (kb : ClassId) (vb : List Value) (Ab : Arv Z h0 tb kb .byte nb vb (Value.int 0)) (hvb : vb.length = kx)  :
    MFa l mN12 jdk_65_method_121_code 3 (some (.array .byte)) ws (Room.mk 1 1 68 18) Z h0 n0 #[(.ref tb), (.int nn)] (Qn Z nn (vb ++ List.replicate (ky - kx) (Value.int 0))) := by
  refine MetFree.of_bodySF (plainFor_of_name pn_21) hisR ?_
  intro p e s m args below meth c s₁ Bd hml0 hP hK
  obtain ⟨rfl, hZ, hh⟩ := hP
  have hx := Bd.exec
  have hby := Bd.bytes
  have hml : c.maxLocals = 3 := hml0
  have hown : s.vm.findClass "java/util/Arrays" = some m.cls := findClass_of_methodNamed Bd.named
  have X0 : Stand p l e (Room.mk 1 1 68 18) s m #[(.ref tb), (.int nn)] below meth c s₁ [] 0 0 := Stand.of_body Bd
  have e0 : s₁.heap = h0 := by rw [← hh, Bd.state]; rfl
  have N0 := Fr.nil n0
  have pre0 : Pr p e below (s₁.setTop (mkF m 0 #[rv tb, iv nn, .unset] [])) (s₁.setTop (entryFrame m #[(.ref tb), (.int nn)] 3)) := fun t k => castTop (by first | (simp [entryFrame, mkF, argsToLocals, Value.category]; done) | rfl) k
  obtain ⟨cl1, Ar1, -, Sz1, nz1, -, -⟩ := id Ab
  obtain ⟨T2, h2, k2, X2, e2, E2, A2, st2⟩ := newP X0 hx hZ (ww hw 20 rfl) e0 (g := (mkF m 15 #[rv tb, iv nn, .unset] [(.int nn)])) rfl (hb hby d21_15) rfl hg.2.2.2.2.2.2.2.2.2.2.2.2.2.2.1 (cap := 68) (by rw [hg.2.2.2.2.2.2.2.2.2.2.2.2.2.2.2.2.1]; exact hg.2.2.2.2.2.2.2.2.2.2.2.2.2.2.2.2.2.2) (by decide) (by decide) (by decide)
  obtain ⟨b2, g2⟩ : ∃ z, z = h0.size := ⟨_, rfl⟩
  rw [← g2] at A2 st2
  have z_b2 : h0.size ≤ b2 := Nat.le_trans (Nat.le_refl h0.size) (Nat.le_of_eq g2.symm)
  have g_b2 : n0 ≤ b2 := Nat.le_trans Z0 z_b2
  have V2_tb := Ab.ext E2
  have Y2 := Old.ext Y0 E2
  have K2 : Keep h0 h2 [] := (Keep.refl h0 []).ext E2
  have V2 : Arv Z h2 b2 k2 .byte nn (List.replicate ky (.int 0)) (.int 0) := (Arv.new A2 hg.2.2.2.2.2.2.2.2.2.2.2.2.2.2.1).pad (pad_rep [] (.int 0) ky)
  have pre3 : Pr p e below (T2.setTop (mkF m 23 #[rv tb, iv nn, rv b2] [(.ref tb), (.int 0), (.ref b2), (.int 0), (.ref tb)])) (s₁.setTop (entryFrame m #[(.ref tb), (.int nn)] 3)) := fun t k => pre0 t (by
    show Steps _ _ _ (s₁.setTop (mkF m 0 #[rv tb, iv nn, .unset] [])) _
    refine XS.iloadN X0.here hx rfl (hb hby d21_0) rfl ?_
    refine XS.aloadN X0.here hx rfl (hb hby d21_1) rfl rfl ?_
    refine X0.arraylength hx (by rw [e0]; exact Ar1.1) (State.isArrayOf_alike hZ.alike Ar1.2.1) (g := (mkF m 2 #[rv tb, iv nn, .unset] [(.ref tb), (.int nn)])) rfl rfl (hb hby d21_2) _ ?_
    rw [len_of Sz1 nz1]
    show Steps _ _ _ (s₁.setTop (mkF m 3 #[rv tb, iv nn, .unset] [(.int nb), (.int nn)])) _
    refine XS.icmpYes X0.here hx rfl (pc0 := 3) (pc' := 14) rfl (hb hby d21_3) rfl (feq hg.2.2.2.2.2.2.2.2.2.2.2.1).2 (by decide) (by decide) ?_
    refine XS.iloadN X0.here hx rfl (hb hby d21_14) rfl ?_
    refine st2 _ ?_
    refine XS.astoreN X2.here hx rfl (hb hby d21_17) rfl rfl (l' := #[rv tb, iv nn, rv b2]) rfl ?_
    refine XS.aloadN X2.here hx rfl (hb hby d21_18) rfl rfl ?_
    refine XT.iconstV X2.here hx rfl (0 : Int32) (hb hby d21_19) (by decide) ?_
    refine XS.aloadN X2.here hx rfl (hb hby d21_20) rfl rfl ?_
    refine XT.iconstV X2.here hx rfl (0 : Int32) (hb hby d21_21) (by decide) ?_
    refine XS.aloadN X2.here hx rfl (hb hby d21_22) rfl rfl ?_
    exact k)
  obtain ⟨cl4, Ar4, -, Sz4, nz4, -, -⟩ := id V2_tb
  obtain ⟨_, _, ⟨T5, L5, k5, n5⟩, -, X5, ⟨Lc5, hQ5, l5, y5, z5⟩, st5⟩ := Jvm.LawKit.callS X2 hx (y := mN9) hown (mw hZ hw 126 rfl) (mw hZ hw 127 rfl) (mw hZ hw 118 rfl) (mw hZ hw 128 rfl) (by decide) (backOf (W := 4) (rm_min l Z a0 hw [] nb nn h2 n0 (own_old0 Y2) Y2 zc fm S hg.2.2.2.2.2.2.2.2.2.2.2.2.1) hZ (ww hw 128 rfl) (ww hw 118 rfl) (by decide) (by decide)) (g := (mkF m 25 #[rv tb, iv nn, rv b2] [(.int nn), (.int nb), (.int 0), (.ref b2), (.int 0), (.ref tb)])) rfl (by rw [hml]; rfl) (argsL := [(.int nb), (.int nn)]) (rest := [(.int 0), (.ref b2), (.int 0), (.ref tb)]) (lenOf pd_2 rfl) rfl own_z (hb hby d21_25) (fun _ _ => ⟨rfl, e2, (by decide : 1 + 0 ≤ _), (by decide : 68 + 0 ≤ _)⟩)
  dsimp only [Pt.U, Pt.locs, Pt.cells, Pt.slots] at X5 l5 y5 z5 st5 hQ5
  rw [y5, z5] at X5
  obtain ⟨rfl, N5q, e5⟩ := hQ5
  have N5 := own_fr l5 N0 N5q
  obtain ⟨T6, h6, L6, X6, e6, N6, Kc6, V6, st6⟩ := cpA X5 hx hZ hown (ww hw 129 rfl) (ww hw 105 rfl) (ww hw 103 rfl) (ww hw 104 rfl) e5 (sp := (0 : Int32)) (dp := (0 : Int32)) (nn := nb) (us := vb) V2_tb V2 (Or.inl ⟨rfl, rfl⟩) (by decide) (by decide) hg.2.2.2.2.2.2.2.2.2.2.2.2.2.1 (own_h4 nb) (by rw [own_n0, hg.2.2.2.2.2.2.2.2.2.2.2.2.2.2.2.1, hg.2.2.2.2.2.2.2.2.2.2.2.2.2.2.2.2.1, Nat.zero_add]; exact hg.2.2.2.2.2.2.2.2.2.2.2.2.2.2.2.2.2.1) (own_us hg.2.2.2.2.2.2.2.2.2.2.2.2.2.2.2.1 hvb) (by rw [own_n0, hg.2.2.2.2.2.2.2.2.2.2.2.2.2.2.2.1, List.length_replicate, Nat.zero_add]; exact hg.2.2.2.2.2.2.2.2.2.2.2.2.2.2.2.2.2.1) N5 g_b2 (g := (mkF m 28 #[rv tb, iv nn, rv b2] [(.int nb), (.int 0), (.ref b2), (.int 0), (.ref tb)])) rfl (by rw [hml]; rfl) (rest := []) rfl (hb hby d21_28) (by decide) (W := 0) own_z (by decide)
  rw [own_n0, hg.2.2.2.2.2.2.2.2.2.2.2.2.2.2.2.1, List.take_zero, List.nil_append, Nat.zero_add, List.drop_replicate] at V6
  have K6k : Keep h0 h6 [] := Keep.trans K2 Kc6 (allS (Or.inr z_b2) all0)
  have pre7 : Pr p e below (T6.setTop (mkF m 32 #[rv tb, iv nn, rv b2] [(.ref b2)])) (s₁.setTop (entryFrame m #[(.ref tb), (.int nn)] 3)) := fun t k => pre3 t (by
    show Steps _ _ _ (T2.setTop (mkF m 23 #[rv tb, iv nn, rv b2] [(.ref tb), (.int 0), (.ref b2), (.int 0), (.ref tb)])) _
    refine X2.arraylength hx (by rw [e2]; exact Ar4.1) (State.isArrayOf_alike hZ.alike Ar4.2.1) (g := (mkF m 23 #[rv tb, iv nn, rv b2] [(.ref tb), (.int 0), (.ref b2), (.int 0), (.ref tb)])) rfl rfl (hb hby d21_23) _ ?_
    rw [len_of Sz4 nz4]
    refine XS.iloadN X2.here hx rfl (hb hby d21_24) rfl ?_
    refine st5 _ ?_
    refine st6 _ ?_
    refine XS.aloadN X6.here hx rfl (hb hby d21_31) rfl rfl ?_
    exact k)
  obtain ⟨fs, hr, hrun, hended, hW, hsame⟩ := X6.leave (v := some (.ref b2)) (fun h => by rw [Bd.returns] at h; cases h)
  refine ⟨_, _, pre7 _ ?_, hrun, hended, _, _, rfl, ?_, ⟨_, rfl⟩, hW, hsame.mono (by decide) (by decide)⟩
  · show Steps _ _ _ (T6.setTop (mkF m 32 #[rv tb, iv nn, rv b2] [(.ref b2)])) _
    exact retOut X6 hx Bd.returns rfl (Or.inr (Or.inr (Or.inr (Or.inr ⟨rfl, rfl, rfl⟩)))) (hb hby d21_32) hr
  · show (Qn Z nn (vb ++ List.replicate (ky - kx) (Value.int 0))) h0 n0 _ T6.heap _
    rw [e6]
    exact ⟨_, _, rfl, N6, own_ext_of K6k, z_b2, V6⟩
theorem rm_eg (l : Launch) (Z : State) (a0 : Array Value) (hw : ∀ d ∈ tables_1, d.before a0 Z = true) (ws : List Jvm.Cond) (rb : Addr) (mc : Int32) (h0 : Heap) (n0 : Nat) (Z0 : n0 ≤ h0.size) (Y0 : Old Z n0 h0) (zc : Int32) (fm : Value) (S : Sts Z Z.heap zc fm) (cb cdb : Int32) (nb gw pg nn rr cap : Int32) (kx ky : Nat) (hg : GR mc nb cdb gw pg nn rr cap kx ky) (tb : Addr) (kb : ClassId) (vb : List Value) (Bb : SB Z h0 rb tb kb nb vb cdb cb) (gr : n0 ≤ rb) (gt : n0 ≤ tb) (hvb : vb.length = kx)  :
    MFa l mN5 jdk_68_method_9_code 3 none ws (Room.mk 3 1 68 48) Z h0 n0 #[(.ref rb), (.int mc)] (Qg Z rb nn (vb ++ List.replicate (ky - kx) (Value.int 0)) cdb cb none) := by
  refine MetFree.of_bodySF (plainFor_of_name pn_26) hisR ?_
  intro p e s m args below meth c s₁ Bd hml0 hP hK
  obtain ⟨rfl, hZ, hh⟩ := hP
  have hx := Bd.exec
  have hby := Bd.bytes
  have hml : c.maxLocals = 3 := hml0
  have hown : s.vm.findClass "java/lang/AbstractStringBuilder" = some m.cls := findClass_of_methodNamed Bd.named
  have X0 : Stand p l e (Room.mk 3 1 68 48) s m #[(.ref rb), (.int mc)] below meth c s₁ [] 0 0 := Stand.of_body Bd
  have e0 : s₁.heap = h0 := by rw [← hh, Bd.state]; rfl
  have N0 := Fr.nil n0
  have pre0 : Pr p e below (s₁.setTop (mkF m 0 #[rv rb, iv mc, .unset] [])) (s₁.setTop (entryFrame m #[(.ref rb), (.int mc)] 3)) := fun t k => castTop (by first | (simp [entryFrame, mkF, argsToLocals, Value.category]; done) | rfl) k
  obtain ⟨T1, X1, e1, st1⟩ := getF X0 hx hZ hown (host := "") (Or.inl (ww hw 52 rfl)) Via.refl e0 Bb.2.1 (g := (mkF m 1 #[rv rb, iv mc, .unset] [(.ref rb)])) rfl rfl (hb hby d14_1)
  obtain ⟨cl2, Ar2, -, Sz2, nz2, -, -⟩ := id Bb.2.2.2.2.2.1
  obtain ⟨T3, X3, e3, st3⟩ := getF X1 hx hZ hown (host := "") (Or.inl (ww hw 54 rfl)) Via.refl e1 Bb.2.2.1 (g := (mkF m 6 #[rv rb, iv mc, .unset] [(.ref rb), (.int nb)])) rfl rfl (hb hby d14_6)
  have pre4 : Pr p e below (T3.setTop (mkF m 17 #[rv rb, iv mc, iv cap] [])) (s₁.setTop (entryFrame m #[(.ref rb), (.int mc)] 3)) := fun t k => pre0 t (by
    show Steps _ _ _ (s₁.setTop (mkF m 0 #[rv rb, iv mc, .unset] [])) _
    refine XS.aloadN X0.here hx rfl (hb hby d14_0) rfl rfl ?_
    refine st1 _ ?_
    refine X1.arraylength hx (by rw [e1]; exact Ar2.1) (State.isArrayOf_alike hZ.alike Ar2.2.1) (g := (mkF m 4 #[rv rb, iv mc, .unset] [(.ref tb)])) rfl rfl (hb hby d14_4) _ ?_
    rw [len_of Sz2 nz2]
    refine XS.aloadN X1.here hx rfl (hb hby d14_5) rfl rfl ?_
    refine st3 _ ?_
    refine XS.ishr X3.here hx rfl (hb hby d14_9) rfl ?_
    show Steps _ _ _ (T3.setTop (mkF m 10 #[rv rb, iv mc, .unset] [(.int (nb >>> (cdb &&& 31)))])) _
    refine castTop (g' := (mkF m 10 #[rv rb, iv mc, .unset] [(.int cap)])) (by rw [hg.1]) ?_
    refine XS.istoreN X3.here hx rfl (hb hby d14_10) rfl (l' := #[rv rb, iv mc, iv cap]) rfl ?_
    refine XS.iloadN X3.here hx rfl (hb hby d14_11) rfl ?_
    refine XS.iloadN X3.here hx rfl (hb hby d14_12) rfl ?_
    refine XS.isub X3.here hx rfl (hb hby d14_13) rfl ?_
    show Steps _ _ _ (T3.setTop (mkF m 14 #[rv rb, iv mc, iv cap] [(.int (mc - cap))])) _
    refine XS.ifNo X3.here hx rfl (hb hby d14_14) rfl ((if0 _ _).trans (tlt hg.2.1).2.2.2) ?_
    exact k)
  obtain ⟨T5, X5, e5, st5⟩ := getF X3 hx hZ hown (host := "") (Or.inl (ww hw 52 rfl)) Via.refl e3 Bb.2.1 (g := (mkF m 19 #[rv rb, iv mc, iv cap] [(.ref rb), (.ref rb)])) rfl rfl (hb hby d14_19)
  obtain ⟨cq6, kq6, q6a, q6b, q6c⟩ := isOf hZ e5 Bb.1
  obtain ⟨_, _, ⟨T6, L6, k6, n6⟩, -, X6, ⟨Lc6, hQ6, l6, y6, z6⟩, st6⟩ := X5.virtualBack hx (y := mN11) (z := mN11) hown (mw hZ hw 107 rfl) (mvT hZ (own_decl (ww hw 108 rfl) (ww hw 111 rfl))) (notFace_of_selects (args := #[]) (mw hZ hw 110 rfl)) (mw hZ hw 110 rfl) (mw hZ hw 108 rfl) (by decide) (backOf (W := 2) (rm_nc l Z a0 hw [] rb mc h0 n0 (own_old0 Y0) Y0 zc fm S cb cdb nb gw pg nn rr cap kx ky hg tb kb vb ⟨Bb.1, Bb.2.1, Bb.2.2.1, Bb.2.2.2.1, Bb.2.2.2.2.1, Bb.2.2.2.2.2.1, Bb.2.2.2.2.2.2⟩ gr gt ) hZ (ww hw 111 rfl) (ww hw 48 rfl) (by decide) (by decide)) q6a q6c (g := (mkF m 24 #[rv rb, iv mc, iv cap] [(.int mc), (.ref rb), (.ref tb), (.ref rb)])) rfl (by rw [hml]; rfl) (Steps.refl _) (argsL := [(.int mc)]) (rest := [(.ref tb), (.ref rb)]) (lenOf pd_4 rfl) rfl own_z (hb hby d14_24) (fun _ _ => ⟨rfl, e5, (by decide : 0 + 0 ≤ _), (by decide : 0 + 0 ≤ _)⟩)
  dsimp only [Pt.U, Pt.locs, Pt.cells, Pt.slots] at X6 l6 y6 z6 st6 hQ6
  rw [y6, z6] at X6
  obtain ⟨rfl, N6q, e6⟩ := hQ6
  have N6 := own_fr l6 N0 N6q
  obtain ⟨T7, X7, e7, st7⟩ := getF X6 hx hZ hown (host := "") (Or.inl (ww hw 54 rfl)) Via.refl e6 Bb.2.2.1 (g := (mkF m 28 #[rv rb, iv mc, iv cap] [(.ref rb), (.int rr), (.ref tb), (.ref rb)])) rfl rfl (hb hby d14_28)
  obtain ⟨_, _, ⟨T8, L8, k8, n8⟩, -, X8, ⟨Lc8, hQ8, l8, y8, z8⟩, st8⟩ := Jvm.LawKit.callS X7 hx (y := mN12) hown (mw hZ hw 122 rfl) (mw hZ hw 123 rfl) (mw hZ hw 124 rfl) (mw hZ hw 125 rfl) (by decide) (backOf (W := 1) (rm_cp l Z a0 hw [] tb nn h0 n0 (own_old0 Y0) Y0 zc fm S mc cdb nb gw pg rr cap kx ky hg kb vb Bb.2.2.2.2.2.1 hvb) hZ (ww hw 125 rfl) (ww hw 124 rfl) (by decide) (by decide)) (g := (mkF m 32 #[rv rb, iv mc, iv cap] [(.int nn), (.ref tb), (.ref rb)])) rfl (by rw [hml]; rfl) (argsL := [(.ref tb), (.int nn)]) (rest := [(.ref rb)]) (lenOf pd_5 rfl) rfl own_z (hb hby d14_32) (fun _ _ => ⟨rfl, e7, (by decide : 0 + 1 ≤ _), (by decide : 0 + 68 ≤ _)⟩)
  dsimp only [Pt.U, Pt.locs, Pt.cells, Pt.slots] at X8 l8 y8 z8 st8 hQ8
  rw [y8, z8] at X8
  obtain ⟨u8, ku8, rfl, N8q, E8, zz8, V8⟩ := hQ8
  have N8 := own_fr l8 N6 N8q
  have ne_rb_u8 : rb ≠ u8 := Nat.ne_of_lt (Nat.lt_of_lt_of_le Bb.1.lt zz8)
  have z_u8 : h0.size ≤ u8 := Nat.le_trans (Nat.le_refl h0.size) zz8
  have E8_rb := Bb.1.ext E8
  have F8_rb_value := Bb.2.1.ext E8
  have F8_rb_coder := Bb.2.2.1.ext E8
  have F8_rb_count := Bb.2.2.2.1.ext E8
  have F8_rb_maybeLatin1 := Bb.2.2.2.2.1.ext E8
  have K8 : Keep h0 T8.heap [rb] := (Keep.refl h0 [rb]).ext E8
  obtain ⟨T9, h9, X9, e9, W9, st9⟩ := putF X8 hx hZ hown (host := "") (Or.inl (ww hw 52 rfl)) Via.refl rfl F8_rb_value E8_rb (Or.inl (ww hw 53 rfl)) (ww hw 39 rfl) (ty := (.array .byte)) (by decide) rfl rfl (g := (mkF m 35 #[rv rb, iv mc, iv cap] [(.ref u8), (.ref rb)])) rfl rfl (hb hby d14_35)
  have E9_rb := E8_rb.wr W9
  have V9_u8 := V8.other W9 (Ne.symm ne_rb_u8)
  have F9_rb_value := F8_rb_value.same W9
  have F9_rb_coder := F8_rb_coder.other W9 (Or.inr (slot_ne (Or.inl (ww hw 55 rfl)) (Or.inl (ww hw 53 rfl)) (by decide) (t := .byte) (t' := (.array .byte)) (by decide) (by decide)))
  have F9_rb_count := F8_rb_count.other W9 (Or.inr (slot_ne (Or.inl (ww hw 80 rfl)) (Or.inl (ww hw 53 rfl)) (by decide) (t := .int) (t' := (.array .byte)) (by decide) (by decide)))
  have F9_rb_maybeLatin1 := F8_rb_maybeLatin1.other W9 (Or.inr (slot_ne (Or.inl (ww hw 305 rfl)) (Or.inl (ww hw 53 rfl)) (by decide) (t := .boolean) (t' := (.array .byte)) (by decide) (by decide)))
  have K9 : Keep h0 h9 [rb] := K8.wr W9 (Or.inl (List.mem_of_getElem? (i := 0) rfl))
  have N9 := Fr.snoc X9 N8 gr
  have pre10 : Pr p e below (T9.setTop (mkF m 38 #[rv rb, iv mc, iv cap] [])) (s₁.setTop (entryFrame m #[(.ref rb), (.int mc)] 3)) := fun t k => pre4 t (by
    show Steps _ _ _ (T3.setTop (mkF m 17 #[rv rb, iv mc, iv cap] [])) _
    refine XS.aloadN X3.here hx rfl (hb hby d14_17) rfl rfl ?_
    refine XS.aloadN X3.here hx rfl (hb hby d14_18) rfl rfl ?_
    refine st5 _ ?_
    refine XS.aloadN X5.here hx rfl (hb hby d14_22) rfl rfl ?_
    refine XS.iloadN X5.here hx rfl (hb hby d14_23) rfl ?_
    refine st6.trans ?_
    refine XS.aloadN X6.here hx rfl (hb hby d14_27) rfl rfl ?_
    refine st7 _ ?_
    refine XS.ishl X7.here hx rfl (hb hby d14_31) rfl ?_
    show Steps _ _ _ (T7.setTop (mkF m 32 #[rv rb, iv mc, iv cap] [(.int (rr <<< (cdb &&& 31))), (.ref tb), (.ref rb)])) _
    refine castTop (g' := (mkF m 32 #[rv rb, iv mc, iv cap] [(.int nn), (.ref tb), (.ref rb)])) (by rw [hg.2.2.2.2.2.2.2.2.2.2.1]) ?_
    refine st8 _ ?_
    refine st9 _ ?_
    exact k)
  obtain ⟨fs, hr, hrun, hended, hW, hsame⟩ := X9.leave (v := none) (fun _ => rfl)
  refine ⟨_, _, pre10 _ ?_, hrun, hended, _, _, rfl, ?_, ⟨_, rfl⟩, hW, hsame.mono (by decide) (by decide)⟩
  · show Steps _ _ _ (T9.setTop (mkF m 38 #[rv rb, iv mc, iv cap] [])) _
    exact X9.returnOut hx Bd.returns (hb hby d14_38) hr
  · show (Qg Z rb nn (vb ++ List.replicate (ky - kx) (Value.int 0)) cdb cb none) h0 n0 _ T9.heap _
    rw [e9]
    exact ⟨_, _, rfl, N9, K9, z_u8, ⟨E9_rb, F9_rb_value, F9_rb_coder, F9_rb_count, F9_rb_maybeLatin1, V9_u8, (Ne.symm ne_rb_u8)⟩⟩
theorem rm_en (l : Launch) (Z : State) (a0 : Array Value) (hw : ∀ d ∈ tables_1, d.before a0 Z = true) (ws : List Jvm.Cond) (rb : Addr) (mc : Int32) (h0 : Heap) (n0 : Nat) (Z0 : n0 ≤ h0.size) (Y0 : Old Z n0 h0) (zc : Int32) (fm : Value) (S : Sts Z Z.heap zc fm) (cb : Int32) (tb : Addr) (kb : ClassId) (vb : List Value) (Bb : SB Z h0 rb tb kb (16 : Int32) vb (0 : Int32) cb) (gr : n0 ≤ rb) (gt : n0 ≤ tb) (hng : ¬ (0 : Int32) < (mc - (16 : Int32)))  :
    MFa l mN5 jdk_68_method_9_code 3 none ws (Room.mk 0 0 0 0) Z h0 n0 #[(.ref rb), (.int mc)] (Qp none) := by
  refine MetFree.of_bodySF (plainFor_of_name pn_26) hisR ?_
  intro p e s m args below meth c s₁ Bd hml0 hP hK
  obtain ⟨rfl, hZ, hh⟩ := hP
  have hx := Bd.exec
  have hby := Bd.bytes
  have hown : s.vm.findClass "java/lang/AbstractStringBuilder" = some m.cls := findClass_of_methodNamed Bd.named
  have X0 : Stand p l e (Room.mk 0 0 0 0) s m #[(.ref rb), (.int mc)] below meth c s₁ [] 0 0 := Stand.of_body Bd
  have e0 : s₁.heap = h0 := by rw [← hh, Bd.state]; rfl
  have N0 := Fr.nil n0
  have pre0 : Pr p e below (s₁.setTop (mkF m 0 #[rv rb, iv mc, .unset] [])) (s₁.setTop (entryFrame m #[(.ref rb), (.int mc)] 3)) := fun t k => castTop (by first | (simp [entryFrame, mkF, argsToLocals, Value.category]; done) | rfl) k
  obtain ⟨T1, X1, e1, st1⟩ := getF X0 hx hZ hown (host := "") (Or.inl (ww hw 52 rfl)) Via.refl e0 Bb.2.1 (g := (mkF m 1 #[rv rb, iv mc, .unset] [(.ref rb)])) rfl rfl (hb hby d14_1)
  obtain ⟨cl2, Ar2, -, Sz2, nz2, -, -⟩ := id Bb.2.2.2.2.2.1
  obtain ⟨T3, X3, e3, st3⟩ := getF X1 hx hZ hown (host := "") (Or.inl (ww hw 54 rfl)) Via.refl e1 Bb.2.2.1 (g := (mkF m 6 #[rv rb, iv mc, .unset] [(.ref rb), (.int 16)])) rfl rfl (hb hby d14_6)
  have pre4 : Pr p e below (T3.setTop (mkF m 38 #[rv rb, iv mc, iv 16] [])) (s₁.setTop (entryFrame m #[(.ref rb), (.int mc)] 3)) := fun t k => pre0 t (by
    show Steps _ _ _ (s₁.setTop (mkF m 0 #[rv rb, iv mc, .unset] [])) _
    refine XS.aloadN X0.here hx rfl (hb hby d14_0) rfl rfl ?_
    refine st1 _ ?_
    refine X1.arraylength hx (by rw [e1]; exact Ar2.1) (State.isArrayOf_alike hZ.alike Ar2.2.1) (g := (mkF m 4 #[rv rb, iv mc, .unset] [(.ref tb)])) rfl rfl (hb hby d14_4) _ ?_
    rw [len_of Sz2 nz2]
    refine XS.aloadN X1.here hx rfl (hb hby d14_5) rfl rfl ?_
    refine st3 _ ?_
    refine XS.ishr X3.here hx rfl (hb hby d14_9) rfl ?_
    show Steps _ _ _ (T3.setTop (mkF m 10 #[rv rb, iv mc, .unset] [(.int ((16 : Int32) >>> ((0 : Int32) &&& 31)))])) _
    refine castTop (g' := (mkF m 10 #[rv rb, iv mc, .unset] [(.int 16)])) (by rw [(by decide : ((16 : Int32) >>> ((0 : Int32) &&& 31)) = (16 : Int32))]) ?_
    refine XS.istoreN X3.here hx rfl (hb hby d14_10) rfl (l' := #[rv rb, iv mc, iv 16]) rfl ?_
    refine XS.iloadN X3.here hx rfl (hb hby d14_11) rfl ?_
    refine XS.iloadN X3.here hx rfl (hb hby d14_12) rfl ?_
    refine XS.isub X3.here hx rfl (hb hby d14_13) rfl ?_
    show Steps _ _ _ (T3.setTop (mkF m 14 #[rv rb, iv mc, iv 16] [(.int (mc - (16 : Int32)))])) _
    refine XS.ifYes X3.here hx rfl (pc0 := 14) (pc' := 38) rfl (hb hby d14_14) rfl ((if0 _ _).trans (flt hng).2.2.2) (by decide) (by decide) ?_
    exact k)
  obtain ⟨fs, hr, hrun, hended, hW, hsame⟩ := X3.leave (v := none) (fun _ => rfl)
  refine ⟨_, _, pre4 _ ?_, hrun, hended, _, _, rfl, ?_, ⟨_, rfl⟩, hW, hsame.mono (by decide) (by decide)⟩
  · show Steps _ _ _ (T3.setTop (mkF m 38 #[rv rb, iv mc, iv 16] [])) _
    exact X3.returnOut hx Bd.returns (hb hby d14_38) hr
  · show (Qp none) h0 n0 _ T3.heap _
    rw [e3]
    exact ⟨rfl, N0, rfl⟩
theorem pn_55 : plainName "java/lang/StringUTF16" = true := by first | (simp [plainName, overriddenIn]; done) | decide +kernel
theorem rm_ul (l : Launch) (Z : State) (a0 : Array Value) (hw : ∀ d ∈ tables_1, d.before a0 Z = true) (ws : List Jvm.Cond) (da : Addr) (h0 : Heap) (n0 : Nat) (Z0 : n0 ≤ h0.size) (Y0 : Old Z n0 h0) (zc : Int32) (fm : Value) (S : Sts Z Z.heap zc fm) (kd : ClassId) (Nd : Int32) (vd : List Value) (Ad : Arv Z h0 da kd .byte Nd vd (Value.int 0)) (ln : Int32) (hln : (Nd >>> ((1 : Int32) &&& 31)) = ln)  :
    MFa l mN13 jdk_52_method_6_code 1 (some .int) ws (Room.mk 0 0 0 0) Z h0 n0 #[(.ref da)] (Qp (some (.int ln))) := by
  refine MetFree.of_bodySF (plainFor_of_name pn_55) hisR ?_
  intro p e s m args below meth c s₁ Bd hml0 hP hK
  obtain ⟨rfl, hZ, hh⟩ := hP
  have hx := Bd.exec
  have hby := Bd.bytes
  have X0 : Stand p l e (Room.mk 0 0 0 0) s m #[(.ref da)] below meth c s₁ [] 0 0 := Stand.of_body Bd
  have e0 : s₁.heap = h0 := by rw [← hh, Bd.state]; rfl
  have N0 := Fr.nil n0
  have pre0 : Pr p e below (s₁.setTop (mkF m 0 #[rv da] [])) (s₁.setTop (entryFrame m #[(.ref da)] 1)) := fun t k => castTop (by first | (simp [entryFrame, mkF, argsToLocals, Value.category]; done) | rfl) k
  obtain ⟨cl1, Ar1, -, Sz1, nz1, -, -⟩ := id Ad
  have pre2 : Pr p e below (s₁.setTop (mkF m 4 #[rv da] [(.int ln)])) (s₁.setTop (entryFrame m #[(.ref da)] 1)) := fun t k => pre0 t (by
    show Steps _ _ _ (s₁.setTop (mkF m 0 #[rv da] [])) _
    refine XS.aloadN X0.here hx rfl (hb hby d55_0) rfl rfl ?_
    refine X0.arraylength hx (by rw [e0]; exact Ar1.1) (State.isArrayOf_alike hZ.alike Ar1.2.1) (g := (mkF m 1 #[rv da] [(.ref da)])) rfl rfl (hb hby d55_1) _ ?_
    rw [len_of Sz1 nz1]
    refine XT.iconstV X0.here hx rfl (1 : Int32) (hb hby d55_2) (by decide) ?_
    refine XS.ishr X0.here hx rfl (hb hby d55_3) rfl ?_
    show Steps _ _ _ (s₁.setTop (mkF m 4 #[rv da] [(.int (Nd >>> ((1 : Int32) &&& 31)))])) _
    refine castTop (g' := (mkF m 4 #[rv da] [(.int ln)])) (by rw [hln]) ?_
    exact k)
  obtain ⟨fs, hr, hrun, hended, hW, hsame⟩ := X0.leave (v := some (.int ln)) (fun h => by rw [Bd.returns] at h; cases h)
  refine ⟨_, _, pre2 _ ?_, hrun, hended, _, _, rfl, ?_, ⟨_, rfl⟩, hW, hsame.mono (by decide) (by decide)⟩
  · show Steps _ _ _ (s₁.setTop (mkF m 4 #[rv da] [(.int ln)])) _
    exact retOut X0 hx Bd.returns rfl (Or.inl ⟨rfl, by simp, _, rfl⟩) (hb hby d55_4) hr
  · show (Qp (some (.int ln))) h0 n0 _ s₁.heap _
    rw [e0]
    exact ⟨rfl, N0, rfl⟩
theorem rm_pc (l : Launch) (Z : State) (a0 : Array Value) (hw : ∀ d ∈ tables_1, d.before a0 Z = true) (ws : List Jvm.Cond) (da : Addr) (ia : Int32) (ch : Int32) (h0 : Heap) (n0 : Nat) (Z0 : n0 ≤ h0.size) (Y0 : Old Z n0 h0) (zc : Int32) (fm : Value) (S : Sts Z Z.heap zc fm) (kd : ClassId) (Nd : Int32) (vd : List Value) (Ad : Arv Z h0 da kd .byte Nd vd (Value.int 0)) (gd : n0 ≤ da) (ib : Int32) (hib : (ia <<< ((1 : Int32) &&& 31)) = ib) (jn : Nat) (ej : ib.toNatClampNeg = jn) (ej2 : (ib + (1 : Int32)).toNatClampNeg = jn + 1) (hb1 : ¬ ib < 0 ∧ ib < Nd) (hb2 : ¬ (ib + (1 : Int32)) < 0 ∧ (ib + (1 : Int32)) < Nd) (hjl : jn + 1 < vd.length)  :
    MFa l mN14 jdk_52_method_4_code 3 none ws (Room.mk 0 0 0 0) Z h0 n0 #[(.ref da), (.int ia), (.int ch)] (Qa Z da kd Nd ((vd.set jn (.int (StrChars.lo8 ch))).set (jn + 1) (.int (StrChars.hi8 ch)))) := by
  refine MetFree.of_bodySF (plainFor_of_name pn_55) hisR ?_
  intro p e s m args below meth c s₁ Bd hml0 hP hK
  obtain ⟨rfl, hZ, hh⟩ := hP
  have hx := Bd.exec
  have hby := Bd.bytes
  have hown : s.vm.findClass "java/lang/StringUTF16" = some m.cls := findClass_of_methodNamed Bd.named
  have X0 : Stand p l e (Room.mk 0 0 0 0) s m #[(.ref da), (.int ia), (.int ch)] below meth c s₁ [] 0 0 := Stand.of_body Bd
  have e0 : s₁.heap = h0 := by rw [← hh, Bd.state]; rfl
  have N0 := Fr.nil n0
  have pre0 : Pr p e below (s₁.setTop (mkF m 0 #[rv da, iv ia, iv ch] [])) (s₁.setTop (entryFrame m #[(.ref da), (.int ia), (.int ch)] 3)) := fun t k => castTop (by first | (simp [entryFrame, mkF, argsToLocals, Value.category]; done) | rfl) k
  obtain ⟨T1, X1, e1, st1⟩ := getS2 X0 hx hZ hown (host := "") (Or.inl (ww hw 272 rfl)) Via.refl e0 (S.2.2.1.ext Y0.2) (g := (mkF m 0 #[rv da, iv ia, iv ch] [])) rfl (hb hby d49_0)
  obtain ⟨T2, X2, e2, st2⟩ := getS2 X1 hx hZ hown (host := "") (Or.inl (ww hw 273 rfl)) Via.refl e1 (S.2.2.2.1.ext Y0.2) (g := (mkF m 38 #[rv da, .val (.int (ib + (1 : Int32))), iv ch] [(.int ch), (.int ib), (.ref da)])) rfl (hb hby d49_38)
  have pre3 : Pr p e below (T2.setTop (mkF m 42 #[rv da, .val (.int (ib + (1 : Int32))), iv ch] [(.int ch), (.int ib), (.ref da)])) (s₁.setTop (entryFrame m #[(.ref da), (.int ia), (.int ch)] 3)) := fun t k => pre0 t (by
    show Steps _ _ _ (s₁.setTop (mkF m 0 #[rv da, iv ia, iv ch] [])) _
    refine st1 _ ?_
    show Steps _ _ _ (T1.setTop (mkF m 3 #[rv da, iv ia, iv ch] [(.int 1)])) _
    refine XS.ifYes X1.here hx rfl (pc0 := 3) (pc' := 28) rfl (hb hby d49_3) rfl ((if0 _ _).trans (feq (by decide : ¬ ((1 : Int32) = (0 : Int32)))).2) (by decide) (by decide) ?_
    refine XS.iloadN X1.here hx rfl (hb hby d49_28) rfl ?_
    refine XT.iconstV X1.here hx rfl (1 : Int32) (hb hby d49_29) (by decide) ?_
    refine XS.ishl X1.here hx rfl (hb hby d49_30) rfl ?_
    show Steps _ _ _ (T1.setTop (mkF m 31 #[rv da, iv ia, iv ch] [(.int (ia <<< ((1 : Int32) &&& 31)))])) _
    refine castTop (g' := (mkF m 31 #[rv da, iv ia, iv ch] [(.int ib)])) (by rw [hib]) ?_
    refine XS.istoreN X1.here hx rfl (hb hby d49_31) rfl (l' := #[rv da, iv ib, iv ch]) rfl ?_
    refine XS.aloadN X1.here hx rfl (hb hby d49_32) rfl rfl ?_
    refine XS.iloadN X1.here hx rfl (hb hby d49_33) rfl ?_
    refine XS.iinc X1.here hx rfl (hb hby d49_34) rfl (l' := #[rv da, .val (.int (ib + (1 : Int32))), iv ch]) rfl ?_
    refine XS.iloadN X1.here hx rfl (hb hby d49_37) rfl ?_
    refine st2 _ ?_
    refine XS.ishr X2.here hx rfl (hb hby d49_41) rfl ?_
    show Steps _ _ _ (T2.setTop (mkF m 42 #[rv da, .val (.int (ib + (1 : Int32))), iv ch] [(.int (ch >>> ((0 : Int32) &&& 31))), (.int ib), (.ref da)])) _
    refine castTop (g' := (mkF m 42 #[rv da, .val (.int (ib + (1 : Int32))), iv ch] [(.int ch), (.int ib), (.ref da)])) (by rw [StrChars.shr0 ch]) ?_
    exact k)
  obtain ⟨cl4, Ar4, q4, S4, n4', H4, G4⟩ := id Ad
  have hin4 : ¬ (ib < 0 ∨ cl4.slots.size ≤ (ib).toNatClampNeg) := inb_of S4 hb1
  obtain ⟨T4, h4, X4, e4, W4, st4⟩ := stB X2 hx hZ e2 Ar4 (j := ib) hin4 (g := (mkF m 43 #[rv da, .val (.int (ib + (1 : Int32))), iv ch] [(.int (ch.toInt8.toInt32)), (.int ib), (.ref da)])) rfl rfl (hb hby d49_43)
  rw [own_nb8 ch] at W4
  have V4 : Arv Z h4 da kd .byte Nd (vd.set jn (.int (StrChars.lo8 ch))) (Value.int 0) := Arv.set Ar4 q4 S4 n4' H4 G4 (StrChars.fits_lo8 ch) W4 jn ej (Nat.lt_of_succ_lt hjl)
  have Y4 := Old.wr Y0 W4 gd
  have K4 : Keep h0 h4 [da] := (Keep.refl h0 [da]).wr W4 (Or.inl (List.mem_of_getElem? (i := 0) rfl))
  have N4 := Fr.snoc X4 N0 gd
  obtain ⟨T5, X5, e5, st5⟩ := getS2 X4 hx hZ hown (host := "") (Or.inl (ww hw 274 rfl)) Via.refl e4 (S.2.2.2.2.1.ext Y4.2) (g := (mkF m 47 #[rv da, .val (.int (ib + (1 : Int32))), iv ch] [(.int ch), (.int (ib + (1 : Int32))), (.ref da)])) rfl (hb hby d49_47)
  obtain ⟨cl6, Ar6, q6, S6, n6', H6, G6⟩ := id V4
  have hin6 : ¬ ((ib + (1 : Int32)) < 0 ∨ cl6.slots.size ≤ ((ib + (1 : Int32))).toNatClampNeg) := inb_of S6 hb2
  obtain ⟨T6, h6, X6, e6, W6, st6⟩ := stB X5 hx hZ e5 Ar6 (j := (ib + (1 : Int32))) hin6 (g := (mkF m 52 #[rv da, .val (.int (ib + (1 : Int32))), iv ch] [(.int ((ch >>> ((8 : Int32) &&& 31)).toInt8.toInt32)), (.int (ib + (1 : Int32))), (.ref da)])) rfl rfl (hb hby d49_52)
  rw [own_nb8 (ch >>> ((8 : Int32) &&& 31))] at W6
  have V6 : Arv Z h6 da kd .byte Nd ((vd.set jn (.int (StrChars.lo8 ch))).set (jn + 1) (.int (StrChars.lo8 (ch >>> ((8 : Int32) &&& 31))))) (Value.int 0) := Arv.set Ar6 q6 S6 n6' H6 G6 (StrChars.fits_lo8 (ch >>> ((8 : Int32) &&& 31))) W6 (jn + 1) ej2 (by rw [List.length_set]; exact hjl)
  have K6 : Keep h0 h6 [da] := K4.wr W6 (Or.inl (List.mem_of_getElem? (i := 0) rfl))
  have N6 := Fr.snoc X6 N4 gd
  have pre7 : Pr p e below (T6.setTop (mkF m 53 #[rv da, .val (.int (ib + (1 : Int32))), iv ch] [])) (s₁.setTop (entryFrame m #[(.ref da), (.int ia), (.int ch)] 3)) := fun t k => pre3 t (by
    show Steps _ _ _ (T2.setTop (mkF m 42 #[rv da, .val (.int (ib + (1 : Int32))), iv ch] [(.int ch), (.int ib), (.ref da)])) _
    refine XS.i2b X2.here hx rfl (hb hby d49_42) rfl ?_
    refine st4 _ ?_
    refine XS.aloadN X4.here hx rfl (hb hby d49_44) rfl rfl ?_
    refine XS.iloadN X4.here hx rfl (hb hby d49_45) rfl ?_
    refine XS.iloadN X4.here hx rfl (hb hby d49_46) rfl ?_
    refine st5 _ ?_
    refine XS.ishr X5.here hx rfl (hb hby d49_50) rfl ?_
    refine XS.i2b X5.here hx rfl (hb hby d49_51) rfl ?_
    refine st6 _ ?_
    exact k)
  obtain ⟨fs, hr, hrun, hended, hW, hsame⟩ := X6.leave (v := none) (fun _ => rfl)
  refine ⟨_, _, pre7 _ ?_, hrun, hended, _, _, rfl, ?_, ⟨_, rfl⟩, hW, hsame.mono (by decide) (by decide)⟩
  · show Steps _ _ _ (T6.setTop (mkF m 53 #[rv da, .val (.int (ib + (1 : Int32))), iv ch] [])) _
    exact X6.returnOut hx Bd.returns (hb hby d49_53) hr
  · show (Qa Z da kd Nd ((vd.set jn (.int (StrChars.lo8 ch))).set (jn + 1) (.int (StrChars.hi8 ch)))) h0 n0 _ T6.heap _
    rw [e6]
    exact ⟨rfl, N6, K6, V6⟩
theorem rm_gc (l : Launch) (Z : State) (a0 : Array Value) (hw : ∀ d ∈ tables_1, d.before a0 Z = true) (ws : List Jvm.Cond) (da : Addr) (ia : Int32) (h0 : Heap) (n0 : Nat) (Z0 : n0 ≤ h0.size) (Y0 : Old Z n0 h0) (zc : Int32) (fm : Value) (S : Sts Z Z.heap zc fm) (kd : ClassId) (Nd : Int32) (vd : List Value) (Ad : Arv Z h0 da kd .byte Nd vd (Value.int 0)) (ib : Int32) (hib : (ia <<< ((1 : Int32) &&& 31)) = ib) (hb1 : ¬ ib < 0 ∧ ib < Nd) (hb2 : ¬ (ib + (1 : Int32)) < 0 ∧ (ib + (1 : Int32)) < Nd) (cc : Int32) (g1 : vd.getD ib.toNatClampNeg (Value.int 0) = .int (StrChars.lo8 cc)) (g2 : vd.getD (ib + (1 : Int32)).toNatClampNeg (Value.int 0) = .int (StrChars.hi8 cc)) (hc : own_c16 cc)  :
    MFa l mN15 jdk_52_method_5_code 2 (some .char) ws (Room.mk 0 0 0 0) Z h0 n0 #[(.ref da), (.int ia)] (Qp (some (.int cc))) := by
  refine MetFree.of_bodySF (plainFor_of_name pn_55) hisR ?_
  intro p e s m args below meth c s₁ Bd hml0 hP hK
  obtain ⟨rfl, hZ, hh⟩ := hP
  have hx := Bd.exec
  have hby := Bd.bytes
  have hown : s.vm.findClass "java/lang/StringUTF16" = some m.cls := findClass_of_methodNamed Bd.named
  have X0 : Stand p l e (Room.mk 0 0 0 0) s m #[(.ref da), (.int ia)] below meth c s₁ [] 0 0 := Stand.of_body Bd
  have e0 : s₁.heap = h0 := by rw [← hh, Bd.state]; rfl
  have N0 := Fr.nil n0
  have pre0 : Pr p e below (s₁.setTop (mkF m 0 #[rv da, iv ia] [])) (s₁.setTop (entryFrame m #[(.ref da), (.int ia)] 2)) := fun t k => castTop (by first | (simp [entryFrame, mkF, argsToLocals, Value.category]; done) | rfl) k
  obtain ⟨T1, X1, e1, st1⟩ := getS2 X0 hx hZ hown (host := "") (Or.inl (ww hw 272 rfl)) Via.refl e0 (S.2.2.1.ext Y0.2) (g := (mkF m 0 #[rv da, iv ia] [])) rfl (hb hby d50_0)
  obtain ⟨cl2, Ar2, q2, S2, n2', H2, G2⟩ := id Ad
  have hin2 : ¬ (ib < 0 ∨ cl2.slots.size ≤ (ib).toNatClampNeg) := inb_of S2 hb1
  have hat2 : cl2.slots[(ib).toNatClampNeg]? = some (.int (StrChars.lo8 cc)) := Has.at H2 hin2 g1
  have pre3 : Pr p e below (T1.setTop (mkF m 42 #[rv da, .val (.int (ib + (1 : Int32)))] [(.int ((StrChars.lo8 cc) &&& (255 : Int32)))])) (s₁.setTop (entryFrame m #[(.ref da), (.int ia)] 2)) := fun t k => pre0 t (by
    show Steps _ _ _ (s₁.setTop (mkF m 0 #[rv da, iv ia] [])) _
    refine st1 _ ?_
    show Steps _ _ _ (T1.setTop (mkF m 3 #[rv da, iv ia] [(.int 1)])) _
    refine XS.ifYes X1.here hx rfl (pc0 := 3) (pc' := 28) rfl (hb hby d50_3) rfl ((if0 _ _).trans (feq (by decide : ¬ ((1 : Int32) = (0 : Int32)))).2) (by decide) (by decide) ?_
    refine XS.iloadN X1.here hx rfl (hb hby d50_28) rfl ?_
    refine XT.iconstV X1.here hx rfl (1 : Int32) (hb hby d50_29) (by decide) ?_
    refine XS.ishl X1.here hx rfl (hb hby d50_30) rfl ?_
    show Steps _ _ _ (T1.setTop (mkF m 31 #[rv da, iv ia] [(.int (ia <<< ((1 : Int32) &&& 31)))])) _
    refine castTop (g' := (mkF m 31 #[rv da, iv ia] [(.int ib)])) (by rw [hib]) ?_
    refine XS.istoreN X1.here hx rfl (hb hby d50_31) rfl (l' := #[rv da, iv ib]) rfl ?_
    refine XS.aloadN X1.here hx rfl (hb hby d50_32) rfl rfl ?_
    refine XS.iloadN X1.here hx rfl (hb hby d50_33) rfl ?_
    refine XS.iinc X1.here hx rfl (hb hby d50_34) rfl (l' := #[rv da, .val (.int (ib + (1 : Int32)))]) rfl ?_
    refine X1.baloadBytes hx (j := ib) (v := (.int (StrChars.lo8 cc))) (by rw [e1]; exact Ar2.1) (State.isArrayOf_alike hZ.alike Ar2.2.1) Ar2.2.2 hin2 hat2 (g := (mkF m 37 #[rv da, .val (.int (ib + (1 : Int32)))] [(.int ib), (.ref da)])) rfl rfl (hb hby d50_37) _ ?_
    refine XT.sipushV X1.here hx rfl (255 : Int32) (hb hby d50_38) (by decide) ?_
    refine XS.iand X1.here hx rfl (hb hby d50_41) rfl ?_
    exact k)
  obtain ⟨T4, X4, e4, st4⟩ := getS2 X1 hx hZ hown (host := "") (Or.inl (ww hw 273 rfl)) Via.refl e1 (S.2.2.2.1.ext Y0.2) (g := (mkF m 42 #[rv da, .val (.int (ib + (1 : Int32)))] [(.int ((StrChars.lo8 cc) &&& (255 : Int32)))])) rfl (hb hby d50_42)
  obtain ⟨cl5, Ar5, q5, S5, n5', H5, G5⟩ := id Ad
  have hin5 : ¬ ((ib + (1 : Int32)) < 0 ∨ cl5.slots.size ≤ ((ib + (1 : Int32))).toNatClampNeg) := inb_of S5 hb2
  have hat5 : cl5.slots[((ib + (1 : Int32))).toNatClampNeg]? = some (.int (StrChars.hi8 cc)) := Has.at H5 hin5 g2
  obtain ⟨T6, X6, e6, st6⟩ := getS2 X4 hx hZ hown (host := "") (Or.inl (ww hw 274 rfl)) Via.refl e4 (S.2.2.2.2.1.ext Y0.2) (g := (mkF m 53 #[rv da, .val (.int (ib + (1 : Int32)))] [(.int ((StrChars.hi8 cc) &&& (255 : Int32))), (.int (((StrChars.lo8 cc) &&& (255 : Int32)) <<< ((0 : Int32) &&& 31)))])) rfl (hb hby d50_53)
  have pre7 : Pr p e below (T6.setTop (mkF m 59 #[rv da, .val (.int (ib + (1 : Int32)))] [(.int cc)])) (s₁.setTop (entryFrame m #[(.ref da), (.int ia)] 2)) := fun t k => pre3 t (by
    show Steps _ _ _ (T1.setTop (mkF m 42 #[rv da, .val (.int (ib + (1 : Int32)))] [(.int ((StrChars.lo8 cc) &&& (255 : Int32)))])) _
    refine st4 _ ?_
    refine XS.ishl X4.here hx rfl (hb hby d50_45) rfl ?_
    refine XS.aloadN X4.here hx rfl (hb hby d50_46) rfl rfl ?_
    refine XS.iloadN X4.here hx rfl (hb hby d50_47) rfl ?_
    refine X4.baloadBytes hx (j := (ib + (1 : Int32))) (v := (.int (StrChars.hi8 cc))) (by rw [e4]; exact Ar5.1) (State.isArrayOf_alike hZ.alike Ar5.2.1) Ar5.2.2 hin5 hat5 (g := (mkF m 48 #[rv da, .val (.int (ib + (1 : Int32)))] [(.int (ib + (1 : Int32))), (.ref da), (.int (((StrChars.lo8 cc) &&& (255 : Int32)) <<< ((0 : Int32) &&& 31)))])) rfl rfl (hb hby d50_48) _ ?_
    refine XT.sipushV X4.here hx rfl (255 : Int32) (hb hby d50_49) (by decide) ?_
    refine XS.iand X4.here hx rfl (hb hby d50_52) rfl ?_
    refine st6 _ ?_
    refine XS.ishl X6.here hx rfl (hb hby d50_56) rfl ?_
    refine XS.ior X6.here hx rfl (hb hby d50_57) rfl ?_
    refine XS.i2c X6.here hx rfl (hb hby d50_58) rfl ?_
    show Steps _ _ _ (T6.setTop (mkF m 59 #[rv da, .val (.int (ib + (1 : Int32)))] [(.int (((((StrChars.lo8 cc) &&& (255 : Int32)) <<< ((0 : Int32) &&& 31)) ||| (((StrChars.hi8 cc) &&& (255 : Int32)) <<< ((8 : Int32) &&& 31))).toUInt32.toUInt16.toUInt32.toInt32))])) _
    refine castTop (g' := (mkF m 59 #[rv da, .val (.int (ib + (1 : Int32)))] [(.int cc)])) (by rw [own_pair hc]) ?_
    exact k)
  obtain ⟨fs, hr, hrun, hended, hW, hsame⟩ := X6.leave (v := some (.int (nar .char cc))) (fun h => by rw [Bd.returns] at h; cases h)
  refine ⟨_, _, pre7 _ ?_, hrun, hended, _, _, rfl, ?_, ⟨_, rfl⟩, hW, hsame.mono (by decide) (by decide)⟩
  · show Steps _ _ _ (T6.setTop (mkF m 59 #[rv da, .val (.int (ib + (1 : Int32)))] [(.int cc)])) _
    exact retN X6 hx (t := .char) Bd.returns (by simp) (hb hby d50_59) hr
  · show (Qp (some (.int cc))) h0 n0 _ T6.heap _
    rw [e6]
    exact ⟨by rw [own_nar16 hc], N0, rfl⟩
theorem rm_nbl (l : Launch) (Z : State) (a0 : Array Value) (hw : ∀ d ∈ tables_1, d.before a0 Z = true) (ws : List Jvm.Cond) (ka : Int32) (h0 : Heap) (n0 : Nat) (Z0 : n0 ≤ h0.size) (Y0 : Old Z n0 h0) (zc : Int32) (fm : Value) (S : Sts Z Z.heap zc fm) (kz : Int32) (kn : Nat) (hn : NB ka kz kn)  :
    MFa l mN16 jdk_52_method_3_code 1 (some .int) ws (Room.mk 0 0 0 0) Z h0 n0 #[(.int ka)] (Qp (some (.int kz))) := by
  refine MetFree.of_bodySF (plainFor_of_name pn_55) hisR ?_
  intro p e s m args below meth c s₁ Bd hml0 hP hK
  obtain ⟨rfl, hZ, hh⟩ := hP
  have hx := Bd.exec
  have hby := Bd.bytes
  have hown : s.vm.findClass "java/lang/StringUTF16" = some m.cls := findClass_of_methodNamed Bd.named
  have X0 : Stand p l e (Room.mk 0 0 0 0) s m #[(.int ka)] below meth c s₁ [] 0 0 := Stand.of_body Bd
  have e0 : s₁.heap = h0 := by rw [← hh, Bd.state]; rfl
  have N0 := Fr.nil n0
  have pre0 : Pr p e below (s₁.setTop (mkF m 0 #[iv ka] [])) (s₁.setTop (entryFrame m #[(.int ka)] 1)) := fun t k => castTop (by first | (simp [entryFrame, mkF, argsToLocals, Value.category]; done) | rfl) k
  have pre1 : Pr p e below (s₁.setTop (mkF m 58 #[iv ka] [(.int kz)])) (s₁.setTop (entryFrame m #[(.int ka)] 1)) := fun t k => pre0 t (by
    show Steps _ _ _ (s₁.setTop (mkF m 0 #[iv ka] [])) _
    refine XS.iloadN X0.here hx rfl (hb hby d48_0) rfl ?_
    show Steps _ _ _ (s₁.setTop (mkF m 1 #[iv ka] [(.int ka)])) _
    refine XS.ifYes X0.here hx rfl (pc0 := 1) (pc' := 12) rfl (hb hby d48_1) rfl ((if0 _ _).trans (flt hn.1).2.1) (by decide) (by decide) ?_
    refine XS.iloadN X0.here hx rfl (hb hby d48_12) rfl ?_
    refine X0.ldcInt hx hown (mw hZ hw 268 rfl) (g := (mkF m 13 #[iv ka] [(.int ka)])) rfl (hb hby d48_13) _ ?_
    show Steps _ _ _ (s₁.setTop (mkF m 15 #[iv ka] [(.int 1073741823), (.int ka)])) _
    refine XS.icmpYes X0.here hx rfl (pc0 := 15) (pc' := 55) rfl (hb hby d48_15) rfl (tlt hn.2.1).1 (by decide) (by decide) ?_
    refine XS.iloadN X0.here hx rfl (hb hby d48_55) rfl ?_
    refine XT.iconstV X0.here hx rfl (1 : Int32) (hb hby d48_56) (by decide) ?_
    refine XS.ishl X0.here hx rfl (hb hby d48_57) rfl ?_
    show Steps _ _ _ (s₁.setTop (mkF m 58 #[iv ka] [(.int (ka <<< ((1 : Int32) &&& 31)))])) _
    refine castTop (g' := (mkF m 58 #[iv ka] [(.int kz)])) (by rw [hn.2.2.1]) ?_
    exact k)
  obtain ⟨fs, hr, hrun, hended, hW, hsame⟩ := X0.leave (v := some (.int kz)) (fun h => by rw [Bd.returns] at h; cases h)
  refine ⟨_, _, pre1 _ ?_, hrun, hended, _, _, rfl, ?_, ⟨_, rfl⟩, hW, hsame.mono (by decide) (by decide)⟩
  · show Steps _ _ _ (s₁.setTop (mkF m 58 #[iv ka] [(.int kz)])) _
    exact retOut X0 hx Bd.returns rfl (Or.inl ⟨rfl, by simp, _, rfl⟩) (hb hby d48_58) hr
  · show (Qp (some (.int kz))) h0 n0 _ s₁.heap _
    rw [e0]
    exact ⟨rfl, N0, rfl⟩
theorem rm_nbf (l : Launch) (Z : State) (a0 : Array Value) (hw : ∀ d ∈ tables_1, d.before a0 Z = true) (ws : List Jvm.Cond) (ka : Int32) (h0 : Heap) (n0 : Nat) (Z0 : n0 ≤ h0.size) (Y0 : Old Z n0 h0) (zc : Int32) (fm : Value) (S : Sts Z Z.heap zc fm) (kz : Int32) (kn : Nat) (hn : NB ka kz kn)  :
    MFa l mN17 jdk_52_method_2_code 1 (some (.array .byte)) ws (Room.mk 1 1 32 12) Z h0 n0 #[(.int ka)] (Qn Z kz (List.replicate kn (Value.int 0))) := by
  refine MetFree.of_bodySF (plainFor_of_name pn_55) hisR ?_
  intro p e s m args below meth c s₁ Bd hml0 hP hK
  obtain ⟨rfl, hZ, hh⟩ := hP
  have hx := Bd.exec
  have hby := Bd.bytes
  have hml : c.maxLocals = 1 := hml0
  have hown : s.vm.findClass "java/lang/StringUTF16" = some m.cls := findClass_of_methodNamed Bd.named
  have X0 : Stand p l e (Room.mk 1 1 32 12) s m #[(.int ka)] below meth c s₁ [] 0 0 := Stand.of_body Bd
  have e0 : s₁.heap = h0 := by rw [← hh, Bd.state]; rfl
  have N0 := Fr.nil n0
  have pre0 : Pr p e below (s₁.setTop (mkF m 0 #[iv ka] [])) (s₁.setTop (entryFrame m #[(.int ka)] 1)) := fun t k => castTop (by first | (simp [entryFrame, mkF, argsToLocals, Value.category]; done) | rfl) k
  obtain ⟨_, _, ⟨T1, L1, k1, n1⟩, -, X1, ⟨Lc1, hQ1, l1, y1, z1⟩, st1⟩ := Jvm.LawKit.callS X0 hx (y := mN16) hown (mw hZ hw 265 rfl) (mw hZ hw 266 rfl) (mw hZ hw 18 rfl) (mw hZ hw 267 rfl) (by decide) (backOf (W := 0) (rm_nbl l Z a0 hw [] ka h0 n0 (own_old0 Y0) Y0 zc fm S kz kn hn) hZ (ww hw 267 rfl) (ww hw 18 rfl) (by decide) (by decide)) (g := (mkF m 1 #[iv ka] [(.int ka)])) rfl (by rw [hml]; rfl) (argsL := [(.int ka)]) (rest := []) (lenOf pd_4 rfl) rfl own_z (hb hby d47_1) (fun _ _ => ⟨rfl, e0, (by decide : 0 + 0 ≤ _), (by decide : 0 + 0 ≤ _)⟩)
  dsimp only [Pt.U, Pt.locs, Pt.cells, Pt.slots] at X1 l1 y1 z1 st1 hQ1
  rw [y1, z1] at X1
  obtain ⟨rfl, N1q, e1⟩ := hQ1
  have N1 := own_fr l1 N0 N1q
  obtain ⟨T2, h2, k2, X2, e2, E2, A2, st2⟩ := newP X1 hx hZ (ww hw 20 rfl) e1 (g := (mkF m 4 #[iv ka] [(.int kz)])) rfl (hb hby d47_4) rfl hn.2.2.2.1 (cap := 32) (by rw [hn.2.2.2.2.1]; exact hn.2.2.2.2.2) (by decide) (by decide) (by decide)
  obtain ⟨b2, g2⟩ : ∃ z, z = h0.size := ⟨_, rfl⟩
  rw [← g2] at A2 st2
  have z_b2 : h0.size ≤ b2 := Nat.le_trans (Nat.le_refl h0.size) (Nat.le_of_eq g2.symm)
  have K2 : Keep h0 h2 [] := (Keep.refl h0 []).ext E2
  have V2 : Arv Z h2 b2 k2 .byte kz (List.replicate kn (.int 0)) (.int 0) := (Arv.new A2 hn.2.2.2.1).pad (pad_rep [] (.int 0) kn)
  have pre3 : Pr p e below (T2.setTop (mkF m 6 #[iv ka] [(.ref b2)])) (s₁.setTop (entryFrame m #[(.int ka)] 1)) := fun t k => pre0 t (by
    show Steps _ _ _ (s₁.setTop (mkF m 0 #[iv ka] [])) _
    refine XS.iloadN X0.here hx rfl (hb hby d47_0) rfl ?_
    refine st1 _ ?_
    refine st2 _ ?_
    exact k)
  obtain ⟨fs, hr, hrun, hended, hW, hsame⟩ := X2.leave (v := some (.ref b2)) (fun h => by rw [Bd.returns] at h; cases h)
  refine ⟨_, _, pre3 _ ?_, hrun, hended, _, _, rfl, ?_, ⟨_, rfl⟩, hW, hsame.mono (by decide) (by decide)⟩
  · show Steps _ _ _ (T2.setTop (mkF m 6 #[iv ka] [(.ref b2)])) _
    exact retOut X2 hx Bd.returns rfl (Or.inr (Or.inr (Or.inr (Or.inr ⟨rfl, rfl, rfl⟩)))) (hb hby d47_6) hr
  · show (Qn Z kz (List.replicate kn (Value.int 0))) h0 n0 _ T2.heap _
    rw [e2]
    exact ⟨_, _, rfl, N1, own_ext_of K2, z_b2, V2⟩
theorem pn_44 : plainName "jdk/internal/util/Preconditions" = true := by first | (simp [plainName, overriddenIn]; done) | decide +kernel
theorem rm_pci (l : Launch) (Z : State) (a0 : Array Value) (hw : ∀ d ∈ tables_1, d.before a0 Z = true) (ws : List Jvm.Cond) (ia : Int32) (ln : Int32) (h0 : Heap) (n0 : Nat) (Z0 : n0 ≤ h0.size) (Y0 : Old Z n0 h0) (zc : Int32) (fm : Value) (S : Sts Z Z.heap zc fm) (hi0 : ¬ ia < (0 : Int32)) (hi1 : ia < ln)  :
    MFa l mN18 jdk_41_method_11_code 3 (some .int) ws (Room.mk 0 0 0 0) Z h0 n0 #[(.int ia), (.int ln), fm] (Qp (some (.int ia))) := by
  refine MetFree.of_bodySF (plainFor_of_name pn_44) hisR ?_
  intro p e s m args below meth c s₁ Bd hml0 hP hK
  obtain ⟨rfl, hZ, hh⟩ := hP
  have hx := Bd.exec
  have hby := Bd.bytes
  have X0 : Stand p l e (Room.mk 0 0 0 0) s m #[(.int ia), (.int ln), fm] below meth c s₁ [] 0 0 := Stand.of_body Bd
  have e0 : s₁.heap = h0 := by rw [← hh, Bd.state]; rfl
  have N0 := Fr.nil n0
  have pre0 : Pr p e below (s₁.setTop (mkF m 0 #[iv ia, iv ln, .val fm] [])) (s₁.setTop (entryFrame m #[(.int ia), (.int ln), fm] 3)) := fun t k => castTop (own_ef3 m ia ln S.2.2.2.2.2.2) k
  have pre1 : Pr p e below (s₁.setTop (mkF m 17 #[iv ia, iv ln, .val fm] [(.int ia)])) (s₁.setTop (entryFrame m #[(.int ia), (.int ln), fm] 3)) := fun t k => pre0 t (by
    show Steps _ _ _ (s₁.setTop (mkF m 0 #[iv ia, iv ln, .val fm] [])) _
    refine XS.iloadN X0.here hx rfl (hb hby d44_0) rfl ?_
    show Steps _ _ _ (s₁.setTop (mkF m 1 #[iv ia, iv ln, .val fm] [(.int ia)])) _
    refine XS.ifNo X0.here hx rfl (hb hby d44_1) rfl ((if0 _ _).trans (flt hi0).1) ?_
    refine XS.iloadN X0.here hx rfl (hb hby d44_4) rfl ?_
    refine XS.iloadN X0.here hx rfl (hb hby d44_5) rfl ?_
    show Steps _ _ _ (s₁.setTop (mkF m 6 #[iv ia, iv ln, .val fm] [(.int ln), (.int ia)])) _
    refine XS.icmpYes X0.here hx rfl (pc0 := 6) (pc' := 16) rfl (hb hby d44_6) rfl (tlt hi1).1 (by decide) (by decide) ?_
    refine XS.iloadN X0.here hx rfl (hb hby d44_16) rfl ?_
    exact k)
  obtain ⟨fs, hr, hrun, hended, hW, hsame⟩ := X0.leave (v := some (.int ia)) (fun h => by rw [Bd.returns] at h; cases h)
  refine ⟨_, _, pre1 _ ?_, hrun, hended, _, _, rfl, ?_, ⟨_, rfl⟩, hW, hsame.mono (by decide) (by decide)⟩
  · show Steps _ _ _ (s₁.setTop (mkF m 17 #[iv ia, iv ln, .val fm] [(.int ia)])) _
    exact retOut X0 hx Bd.returns rfl (Or.inl ⟨rfl, by simp, _, rfl⟩) (hb hby d44_17) hr
  · show (Qp (some (.int ia))) h0 n0 _ s₁.heap _
    rw [e0]
    exact ⟨rfl, N0, rfl⟩
theorem rm_sci (l : Launch) (Z : State) (a0 : Array Value) (hw : ∀ d ∈ tables_1, d.before a0 Z = true) (ws : List Jvm.Cond) (ia : Int32) (ln : Int32) (h0 : Heap) (n0 : Nat) (Z0 : n0 ≤ h0.size) (Y0 : Old Z n0 h0) (zc : Int32) (fm : Value) (S : Sts Z Z.heap zc fm) (hi0 : ¬ ia < (0 : Int32)) (hi1 : ia < ln)  :
    MFa l mN19 jdk_42_method_155_code 2 none ws (Room.mk 1 0 0 14) Z h0 n0 #[(.int ia), (.int ln)] (Qp none) := by
  refine MetFree.of_bodySF (plainFor_of_name pn_13) hisR ?_
  intro p e s m args below meth c s₁ Bd hml0 hP hK
  obtain ⟨rfl, hZ, hh⟩ := hP
  have hx := Bd.exec
  have hby := Bd.bytes
  have hml : c.maxLocals = 2 := hml0
  have hown : s.vm.findClass "java/lang/String" = some m.cls := findClass_of_methodNamed Bd.named
  have X0 : Stand p l e (Room.mk 1 0 0 14) s m #[(.int ia), (.int ln)] below meth c s₁ [] 0 0 := Stand.of_body Bd
  have e0 : s₁.heap = h0 := by rw [← hh, Bd.state]; rfl
  have N0 := Fr.nil n0
  have pre0 : Pr p e below (s₁.setTop (mkF m 0 #[iv ia, iv ln] [])) (s₁.setTop (entryFrame m #[(.int ia), (.int ln)] 2)) := fun t k => castTop (by first | (simp [entryFrame, mkF, argsToLocals, Value.category]; done) | rfl) k
  obtain ⟨T1, X1, e1, st1⟩ := getS2 X0 hx hZ hown (host := "") (Or.inl (ww hw 249 rfl)) Via.refl e0 (S.2.1.ext Y0.2) (g := (mkF m 2 #[iv ia, iv ln] [(.int ln), (.int ia)])) rfl (hb hby d43_2)
  obtain ⟨_, _, ⟨T2, L2, k2, n2⟩, -, X2, ⟨Lc2, hQ2, l2, y2, z2⟩, st2⟩ := Jvm.LawKit.callS X1 hx (y := mN18) hown (mw hZ hw 251 rfl) (mw hZ hw 252 rfl) (mw hZ hw 250 rfl) (mw hZ hw 253 rfl) (by decide) (backOf (W := 0) (rm_pci l Z a0 hw [] ia ln h0 n0 (own_old0 Y0) Y0 zc fm S hi0 hi1) hZ (ww hw 253 rfl) (ww hw 250 rfl) (by decide) (by decide)) (g := (mkF m 5 #[iv ia, iv ln] [fm, (.int ln), (.int ia)])) rfl (by rw [hml]; rfl) (argsL := [(.int ia), (.int ln), fm]) (rest := []) (lenOf pd_6 rfl) rfl own_z (hb hby d43_5) (fun _ _ => ⟨rfl, e1, (by decide : 0 + 0 ≤ _), (by decide : 0 + 0 ≤ _)⟩)
  dsimp only [Pt.U, Pt.locs, Pt.cells, Pt.slots] at X2 l2 y2 z2 st2 hQ2
  rw [y2, z2] at X2
  obtain ⟨rfl, N2q, e2⟩ := hQ2
  have N2 := own_fr l2 N0 N2q
  have pre3 : Pr p e below (T2.setTop (mkF m 9 #[iv ia, iv ln] [])) (s₁.setTop (entryFrame m #[(.int ia), (.int ln)] 2)) := fun t k => pre0 t (by
    show Steps _ _ _ (s₁.setTop (mkF m 0 #[iv ia, iv ln] [])) _
    refine XS.iloadN X0.here hx rfl (hb hby d43_0) rfl ?_
    refine XS.iloadN X0.here hx rfl (hb hby d43_1) rfl ?_
    refine st1 _ ?_
    refine st2 _ ?_
    refine XS.pop X2.here hx rfl (hb hby d43_8) rfl rfl ?_
    exact k)
  obtain ⟨fs, hr, hrun, hended, hW, hsame⟩ := X2.leave (v := none) (fun _ => rfl)
  refine ⟨_, _, pre3 _ ?_, hrun, hended, _, _, rfl, ?_, ⟨_, rfl⟩, hW, hsame.mono (by decide) (by decide)⟩
  · show Steps _ _ _ (T2.setTop (mkF m 9 #[iv ia, iv ln] [])) _
    exact X2.returnOut hx Bd.returns (hb hby d43_9) hr
  · show (Qp none) h0 n0 _ T2.heap _
    rw [e2]
    exact ⟨rfl, N2, rfl⟩
theorem rm_cfs (l : Launch) (Z : State) (a0 : Array Value) (hw : ∀ d ∈ tables_1, d.before a0 Z = true) (ws : List Jvm.Cond) (oa : Int32) (sa : Int32) (ln : Int32) (h0 : Heap) (n0 : Nat) (Z0 : n0 ≤ h0.size) (Y0 : Old Z n0 h0) (zc : Int32) (fm : Value) (S : Sts Z Z.heap zc fm) (ho : ¬ ((ln ||| oa) ||| sa) < (0 : Int32)) (hs : ¬ (ln - oa) < sa)  :
    MFa l mN20 jdk_41_method_13_code 4 (some .int) ws (Room.mk 0 0 0 0) Z h0 n0 #[(.int oa), (.int sa), (.int ln), fm] (Qp (some (.int oa))) := by
  refine MetFree.of_bodySF (plainFor_of_name pn_44) hisR ?_
  intro p e s m args below meth c s₁ Bd hml0 hP hK
  obtain ⟨rfl, hZ, hh⟩ := hP
  have hx := Bd.exec
  have hby := Bd.bytes
  have X0 : Stand p l e (Room.mk 0 0 0 0) s m #[(.int oa), (.int sa), (.int ln), fm] below meth c s₁ [] 0 0 := Stand.of_body Bd
  have e0 : s₁.heap = h0 := by rw [← hh, Bd.state]; rfl
  have N0 := Fr.nil n0
  have pre0 : Pr p e below (s₁.setTop (mkF m 0 #[iv oa, iv sa, iv ln, .val fm] [])) (s₁.setTop (entryFrame m #[(.int oa), (.int sa), (.int ln), fm] 4)) := fun t k => castTop (own_ef4 m oa sa ln S.2.2.2.2.2.2) k
  have pre1 : Pr p e below (s₁.setTop (mkF m 24 #[iv oa, iv sa, iv ln, .val fm] [(.int oa)])) (s₁.setTop (entryFrame m #[(.int oa), (.int sa), (.int ln), fm] 4)) := fun t k => pre0 t (by
    show Steps _ _ _ (s₁.setTop (mkF m 0 #[iv oa, iv sa, iv ln, .val fm] [])) _
    refine XS.iloadN X0.here hx rfl (hb hby d57_0) rfl ?_
    refine XS.iloadN X0.here hx rfl (hb hby d57_1) rfl ?_
    refine XS.ior X0.here hx rfl (hb hby d57_2) rfl ?_
    refine XS.iloadN X0.here hx rfl (hb hby d57_3) rfl ?_
    refine XS.ior X0.here hx rfl (hb hby d57_4) rfl ?_
    show Steps _ _ _ (s₁.setTop (mkF m 5 #[iv oa, iv sa, iv ln, .val fm] [(.int ((ln ||| oa) ||| sa))])) _
    refine XS.ifNo X0.here hx rfl (hb hby d57_5) rfl ((if0 _ _).trans (flt ho).1) ?_
    refine XS.iloadN X0.here hx rfl (hb hby d57_8) rfl ?_
    refine XS.iloadN X0.here hx rfl (hb hby d57_9) rfl ?_
    refine XS.iloadN X0.here hx rfl (hb hby d57_10) rfl ?_
    refine XS.isub X0.here hx rfl (hb hby d57_11) rfl ?_
    show Steps _ _ _ (s₁.setTop (mkF m 12 #[iv oa, iv sa, iv ln, .val fm] [(.int (ln - oa)), (.int sa)])) _
    refine XS.icmpYes X0.here hx rfl (pc0 := 12) (pc' := 23) rfl (hb hby d57_12) rfl (flt hs).2.2.2 (by decide) (by decide) ?_
    refine XS.iloadN X0.here hx rfl (hb hby d57_23) rfl ?_
    exact k)
  obtain ⟨fs, hr, hrun, hended, hW, hsame⟩ := X0.leave (v := some (.int oa)) (fun h => by rw [Bd.returns] at h; cases h)
  refine ⟨_, _, pre1 _ ?_, hrun, hended, _, _, rfl, ?_, ⟨_, rfl⟩, hW, hsame.mono (by decide) (by decide)⟩
  · show Steps _ _ _ (s₁.setTop (mkF m 24 #[iv oa, iv sa, iv ln, .val fm] [(.int oa)])) _
    exact retOut X0 hx Bd.returns rfl (Or.inl ⟨rfl, by simp, _, rfl⟩) (hb hby d57_24) hr
  · show (Qp (some (.int oa))) h0 n0 _ s₁.heap _
    rw [e0]
    exact ⟨rfl, N0, rfl⟩
theorem rm_scb (l : Launch) (Z : State) (a0 : Array Value) (hw : ∀ d ∈ tables_1, d.before a0 Z = true) (ws : List Jvm.Cond) (oa : Int32) (sa : Int32) (ln : Int32) (h0 : Heap) (n0 : Nat) (Z0 : n0 ≤ h0.size) (Y0 : Old Z n0 h0) (zc : Int32) (fm : Value) (S : Sts Z Z.heap zc fm) (ho : ¬ ((ln ||| oa) ||| sa) < (0 : Int32)) (hs : ¬ (ln - oa) < sa)  :
    MFa l mN21 jdk_42_method_157_code 3 (some .int) ws (Room.mk 1 0 0 15) Z h0 n0 #[(.int oa), (.int sa), (.int ln)] (Qp (some (.int oa))) := by
  refine MetFree.of_bodySF (plainFor_of_name pn_13) hisR ?_
  intro p e s m args below meth c s₁ Bd hml0 hP hK
  obtain ⟨rfl, hZ, hh⟩ := hP
  have hx := Bd.exec
  have hby := Bd.bytes
  have hml : c.maxLocals = 3 := hml0
  have hown : s.vm.findClass "java/lang/String" = some m.cls := findClass_of_methodNamed Bd.named
  have X0 : Stand p l e (Room.mk 1 0 0 15) s m #[(.int oa), (.int sa), (.int ln)] below meth c s₁ [] 0 0 := Stand.of_body Bd
  have e0 : s₁.heap = h0 := by rw [← hh, Bd.state]; rfl
  have N0 := Fr.nil n0
  have pre0 : Pr p e below (s₁.setTop (mkF m 0 #[iv oa, iv sa, iv ln] [])) (s₁.setTop (entryFrame m #[(.int oa), (.int sa), (.int ln)] 3)) := fun t k => castTop (by first | (simp [entryFrame, mkF, argsToLocals, Value.category]; done) | rfl) k
  obtain ⟨T1, X1, e1, st1⟩ := getS2 X0 hx hZ hown (host := "") (Or.inl (ww hw 249 rfl)) Via.refl e0 (S.2.1.ext Y0.2) (g := (mkF m 3 #[iv oa, iv sa, iv ln] [(.int ln), (.int sa), (.int oa)])) rfl (hb hby d56_3)
  obtain ⟨_, _, ⟨T2, L2, k2, n2⟩, -, X2, ⟨Lc2, hQ2, l2, y2, z2⟩, st2⟩ := Jvm.LawKit.callS X1 hx (y := mN20) hown (mw hZ hw 300 rfl) (mw hZ hw 301 rfl) (mw hZ hw 250 rfl) (mw hZ hw 302 rfl) (by decide) (backOf (W := 0) (rm_cfs l Z a0 hw [] oa sa ln h0 n0 (own_old0 Y0) Y0 zc fm S ho hs) hZ (ww hw 302 rfl) (ww hw 250 rfl) (by decide) (by decide)) (g := (mkF m 6 #[iv oa, iv sa, iv ln] [fm, (.int ln), (.int sa), (.int oa)])) rfl (by rw [hml]; rfl) (argsL := [(.int oa), (.int sa), (.int ln), fm]) (rest := []) (lenOf pd_7 rfl) rfl own_z (hb hby d56_6) (fun _ _ => ⟨rfl, e1, (by decide : 0 + 0 ≤ _), (by decide : 0 + 0 ≤ _)⟩)
  dsimp only [Pt.U, Pt.locs, Pt.cells, Pt.slots] at X2 l2 y2 z2 st2 hQ2
  rw [y2, z2] at X2
  obtain ⟨rfl, N2q, e2⟩ := hQ2
  have N2 := own_fr l2 N0 N2q
  have pre3 : Pr p e below (T2.setTop (mkF m 9 #[iv oa, iv sa, iv ln] [(.int oa)])) (s₁.setTop (entryFrame m #[(.int oa), (.int sa), (.int ln)] 3)) := fun t k => pre0 t (by
    show Steps _ _ _ (s₁.setTop (mkF m 0 #[iv oa, iv sa, iv ln] [])) _
    refine XS.iloadN X0.here hx rfl (hb hby d56_0) rfl ?_
    refine XS.iloadN X0.here hx rfl (hb hby d56_1) rfl ?_
    refine XS.iloadN X0.here hx rfl (hb hby d56_2) rfl ?_
    refine st1 _ ?_
    refine st2 _ ?_
    exact k)
  obtain ⟨fs, hr, hrun, hended, hW, hsame⟩ := X2.leave (v := some (.int oa)) (fun h => by rw [Bd.returns] at h; cases h)
  refine ⟨_, _, pre3 _ ?_, hrun, hended, _, _, rfl, ?_, ⟨_, rfl⟩, hW, hsame.mono (by decide) (by decide)⟩
  · show Steps _ _ _ (T2.setTop (mkF m 9 #[iv oa, iv sa, iv ln] [(.int oa)])) _
    exact retOut X2 hx Bd.returns rfl (Or.inl ⟨rfl, by simp, _, rfl⟩) (hb hby d56_9) hr
  · show (Qp (some (.int oa))) h0 n0 _ T2.heap _
    rw [e2]
    exact ⟨rfl, N2, rfl⟩
theorem rm_cb (l : Launch) (Z : State) (a0 : Array Value) (hw : ∀ d ∈ tables_1, d.before a0 Z = true) (ws : List Jvm.Cond) (oa : Int32) (sa : Int32) (da : Addr) (h0 : Heap) (n0 : Nat) (Z0 : n0 ≤ h0.size) (Y0 : Old Z n0 h0) (zc : Int32) (fm : Value) (S : Sts Z Z.heap zc fm) (kd : ClassId) (Nd : Int32) (vd : List Value) (Ad : Arv Z h0 da kd .byte Nd vd (Value.int 0)) (ln : Int32) (hln : (Nd >>> ((1 : Int32) &&& 31)) = ln) (ho : ¬ ((ln ||| oa) ||| sa) < (0 : Int32)) (hs : ¬ (ln - oa) < sa)  :
    MFa l mN22 jdk_52_method_94_code 3 none ws (Room.mk 2 0 0 29) Z h0 n0 #[(.int oa), (.int sa), (.ref da)] (Qp none) := by
  refine MetFree.of_bodySF (plainFor_of_name pn_55) hisR ?_
  intro p e s m args below meth c s₁ Bd hml0 hP hK
  obtain ⟨rfl, hZ, hh⟩ := hP
  have hx := Bd.exec
  have hby := Bd.bytes
  have hml : c.maxLocals = 3 := hml0
  have hown : s.vm.findClass "java/lang/StringUTF16" = some m.cls := findClass_of_methodNamed Bd.named
  have X0 : Stand p l e (Room.mk 2 0 0 29) s m #[(.int oa), (.int sa), (.ref da)] below meth c s₁ [] 0 0 := Stand.of_body Bd
  have e0 : s₁.heap = h0 := by rw [← hh, Bd.state]; rfl
  have N0 := Fr.nil n0
  have pre0 : Pr p e below (s₁.setTop (mkF m 0 #[iv oa, iv sa, rv da] [])) (s₁.setTop (entryFrame m #[(.int oa), (.int sa), (.ref da)] 3)) := fun t k => castTop (by first | (simp [entryFrame, mkF, argsToLocals, Value.category]; done) | rfl) k
  obtain ⟨_, _, ⟨T1, L1, k1, n1⟩, -, X1, ⟨Lc1, hQ1, l1, y1, z1⟩, st1⟩ := Jvm.LawKit.callS X0 hx (y := mN13) hown (mw hZ hw 294 rfl) (mw hZ hw 295 rfl) (mw hZ hw 18 rfl) (mw hZ hw 296 rfl) (by decide) (backOf (W := 2) (rm_ul l Z a0 hw [] da h0 n0 (own_old0 Y0) Y0 zc fm S kd Nd vd Ad ln hln) hZ (ww hw 296 rfl) (ww hw 18 rfl) (by decide) (by decide)) (g := (mkF m 3 #[iv oa, iv sa, rv da] [(.ref da), (.int sa), (.int oa)])) rfl (by rw [hml]; rfl) (argsL := [(.ref da)]) (rest := [(.int sa), (.int oa)]) (lenOf pd_8 rfl) rfl own_z (hb hby d54_3) (fun _ _ => ⟨rfl, e0, (by decide : 0 + 0 ≤ _), (by decide : 0 + 0 ≤ _)⟩)
  dsimp only [Pt.U, Pt.locs, Pt.cells, Pt.slots] at X1 l1 y1 z1 st1 hQ1
  rw [y1, z1] at X1
  obtain ⟨rfl, N1q, e1⟩ := hQ1
  have N1 := own_fr l1 N0 N1q
  obtain ⟨_, _, ⟨T2, L2, k2, n2⟩, -, X2, ⟨Lc2, hQ2, l2, y2, z2⟩, st2⟩ := Jvm.LawKit.callS X1 hx (y := mN21) hown (mw hZ hw 297 rfl) (mw hZ hw 298 rfl) (mw hZ hw 4 rfl) (mw hZ hw 299 rfl) (by decide) (backOf (W := 0) (rm_scb l Z a0 hw [] oa sa ln h0 n0 (own_old0 Y0) Y0 zc fm S ho hs) hZ (ww hw 299 rfl) (ww hw 4 rfl) (by decide) (by decide)) (g := (mkF m 6 #[iv oa, iv sa, rv da] [(.int ln), (.int sa), (.int oa)])) rfl (by rw [hml]; rfl) (argsL := [(.int oa), (.int sa), (.int ln)]) (rest := []) (lenOf pd_3 rfl) rfl own_z (hb hby d54_6) (fun _ _ => ⟨rfl, e1, (by decide : 0 + 0 ≤ _), (by decide : 0 + 0 ≤ _)⟩)
  dsimp only [Pt.U, Pt.locs, Pt.cells, Pt.slots] at X2 l2 y2 z2 st2 hQ2
  rw [y2, z2] at X2
  obtain ⟨rfl, N2q, e2⟩ := hQ2
  have N2 := own_fr l2 N1 N2q
  have pre3 : Pr p e below (T2.setTop (mkF m 10 #[iv oa, iv sa, rv da] [])) (s₁.setTop (entryFrame m #[(.int oa), (.int sa), (.ref da)] 3)) := fun t k => pre0 t (by
    show Steps _ _ _ (s₁.setTop (mkF m 0 #[iv oa, iv sa, rv da] [])) _
    refine XS.iloadN X0.here hx rfl (hb hby d54_0) rfl ?_
    refine XS.iloadN X0.here hx rfl (hb hby d54_1) rfl ?_
    refine XS.aloadN X0.here hx rfl (hb hby d54_2) rfl rfl ?_
    refine st1 _ ?_
    refine st2 _ ?_
    refine XS.pop X2.here hx rfl (hb hby d54_9) rfl rfl ?_
    exact k)
  obtain ⟨fs, hr, hrun, hended, hW, hsame⟩ := X2.leave (v := none) (fun _ => rfl)
  refine ⟨_, _, pre3 _ ?_, hrun, hended, _, _, rfl, ?_, ⟨_, rfl⟩, hW, hsame.mono (by decide) (by decide)⟩
  · show Steps _ _ _ (T2.setTop (mkF m 10 #[iv oa, iv sa, rv da] [])) _
    exact X2.returnOut hx Bd.returns (hb hby d54_10) hr
  · show (Qp none) h0 n0 _ T2.heap _
    rw [e2]
    exact ⟨rfl, N2, rfl⟩
theorem rm_uci (l : Launch) (Z : State) (a0 : Array Value) (hw : ∀ d ∈ tables_1, d.before a0 Z = true) (ws : List Jvm.Cond) (ia : Int32) (da : Addr) (h0 : Heap) (n0 : Nat) (Z0 : n0 ≤ h0.size) (Y0 : Old Z n0 h0) (zc : Int32) (fm : Value) (S : Sts Z Z.heap zc fm) (kd : ClassId) (Nd : Int32) (vd : List Value) (Ad : Arv Z h0 da kd .byte Nd vd (Value.int 0)) (ln : Int32) (hln : (Nd >>> ((1 : Int32) &&& 31)) = ln) (hi0 : ¬ ia < (0 : Int32)) (hi1 : ia < ln)  :
    MFa l mN23 jdk_52_method_91_code 2 none ws (Room.mk 2 0 0 27) Z h0 n0 #[(.int ia), (.ref da)] (Qp none) := by
  refine MetFree.of_bodySF (plainFor_of_name pn_55) hisR ?_
  intro p e s m args below meth c s₁ Bd hml0 hP hK
  obtain ⟨rfl, hZ, hh⟩ := hP
  have hx := Bd.exec
  have hby := Bd.bytes
  have hml : c.maxLocals = 2 := hml0
  have hown : s.vm.findClass "java/lang/StringUTF16" = some m.cls := findClass_of_methodNamed Bd.named
  have X0 : Stand p l e (Room.mk 2 0 0 27) s m #[(.int ia), (.ref da)] below meth c s₁ [] 0 0 := Stand.of_body Bd
  have e0 : s₁.heap = h0 := by rw [← hh, Bd.state]; rfl
  have N0 := Fr.nil n0
  have pre0 : Pr p e below (s₁.setTop (mkF m 0 #[iv ia, rv da] [])) (s₁.setTop (entryFrame m #[(.int ia), (.ref da)] 2)) := fun t k => castTop (by first | (simp [entryFrame, mkF, argsToLocals, Value.category]; done) | rfl) k
  obtain ⟨_, _, ⟨T1, L1, k1, n1⟩, -, X1, ⟨Lc1, hQ1, l1, y1, z1⟩, st1⟩ := Jvm.LawKit.callS X0 hx (y := mN13) hown (mw hZ hw 294 rfl) (mw hZ hw 295 rfl) (mw hZ hw 18 rfl) (mw hZ hw 296 rfl) (by decide) (backOf (W := 1) (rm_ul l Z a0 hw [] da h0 n0 (own_old0 Y0) Y0 zc fm S kd Nd vd Ad ln hln) hZ (ww hw 296 rfl) (ww hw 18 rfl) (by decide) (by decide)) (g := (mkF m 2 #[iv ia, rv da] [(.ref da), (.int ia)])) rfl (by rw [hml]; rfl) (argsL := [(.ref da)]) (rest := [(.int ia)]) (lenOf pd_8 rfl) rfl own_z (hb hby d59_2) (fun _ _ => ⟨rfl, e0, (by decide : 0 + 0 ≤ _), (by decide : 0 + 0 ≤ _)⟩)
  dsimp only [Pt.U, Pt.locs, Pt.cells, Pt.slots] at X1 l1 y1 z1 st1 hQ1
  rw [y1, z1] at X1
  obtain ⟨rfl, N1q, e1⟩ := hQ1
  have N1 := own_fr l1 N0 N1q
  obtain ⟨_, _, ⟨T2, L2, k2, n2⟩, -, X2, ⟨Lc2, hQ2, l2, y2, z2⟩, st2⟩ := Jvm.LawKit.callS X1 hx (y := mN19) hown (mw hZ hw 312 rfl) (mw hZ hw 247 rfl) (mw hZ hw 4 rfl) (mw hZ hw 248 rfl) (by decide) (backOf (W := 0) (rm_sci l Z a0 hw [] ia ln h0 n0 (own_old0 Y0) Y0 zc fm S hi0 hi1) hZ (ww hw 248 rfl) (ww hw 4 rfl) (by decide) (by decide)) (g := (mkF m 5 #[iv ia, rv da] [(.int ln), (.int ia)])) rfl (by rw [hml]; rfl) (argsL := [(.int ia), (.int ln)]) (rest := []) (lenOf pd_9 rfl) rfl own_z (hb hby d59_5) (fun _ _ => ⟨rfl, e1, (by decide : 0 + 0 ≤ _), (by decide : 0 + 0 ≤ _)⟩)
  dsimp only [Pt.U, Pt.locs, Pt.cells, Pt.slots] at X2 l2 y2 z2 st2 hQ2
  rw [y2, z2] at X2
  obtain ⟨rfl, N2q, e2⟩ := hQ2
  have N2 := own_fr l2 N1 N2q
  have pre3 : Pr p e below (T2.setTop (mkF m 8 #[iv ia, rv da] [])) (s₁.setTop (entryFrame m #[(.int ia), (.ref da)] 2)) := fun t k => pre0 t (by
    show Steps _ _ _ (s₁.setTop (mkF m 0 #[iv ia, rv da] [])) _
    refine XS.iloadN X0.here hx rfl (hb hby d59_0) rfl ?_
    refine XS.aloadN X0.here hx rfl (hb hby d59_1) rfl rfl ?_
    refine st1 _ ?_
    refine st2 _ ?_
    exact k)
  obtain ⟨fs, hr, hrun, hended, hW, hsame⟩ := X2.leave (v := none) (fun _ => rfl)
  refine ⟨_, _, pre3 _ ?_, hrun, hended, _, _, rfl, ?_, ⟨_, rfl⟩, hW, hsame.mono (by decide) (by decide)⟩
  · show Steps _ _ _ (T2.setTop (mkF m 8 #[iv ia, rv da] [])) _
    exact X2.returnOut hx Bd.returns (hb hby d59_8) hr
  · show (Qp none) h0 n0 _ T2.heap _
    rw [e2]
    exact ⟨rfl, N2, rfl⟩
theorem rm_uca (l : Launch) (Z : State) (a0 : Array Value) (hw : ∀ d ∈ tables_1, d.before a0 Z = true) (ws : List Jvm.Cond) (da : Addr) (ia : Int32) (h0 : Heap) (n0 : Nat) (Z0 : n0 ≤ h0.size) (Y0 : Old Z n0 h0) (zc : Int32) (fm : Value) (S : Sts Z Z.heap zc fm) (kd : ClassId) (Nd : Int32) (vd : List Value) (Ad : Arv Z h0 da kd .byte Nd vd (Value.int 0)) (ln : Int32) (hln : (Nd >>> ((1 : Int32) &&& 31)) = ln) (hi0 : ¬ ia < (0 : Int32)) (hi1 : ia < ln) (ib : Int32) (hib : (ia <<< ((1 : Int32) &&& 31)) = ib) (hb1 : ¬ ib < 0 ∧ ib < Nd) (hb2 : ¬ (ib + (1 : Int32)) < 0 ∧ (ib + (1 : Int32)) < Nd) (cc : Int32) (g1 : vd.getD ib.toNatClampNeg (Value.int 0) = .int (StrChars.lo8 cc)) (g2 : vd.getD (ib + (1 : Int32)).toNatClampNeg (Value.int 0) = .int (StrChars.hi8 cc)) (hc : own_c16 cc)  :
    MFa l mN24 jdk_52_method_83_code 2 (some .char) ws (Room.mk 3 0 0 40) Z h0 n0 #[(.ref da), (.int ia)] (Qp (some (.int cc))) := by
  refine MetFree.of_bodySF (plainFor_of_name pn_55) hisR ?_
  intro p e s m args below meth c s₁ Bd hml0 hP hK
  obtain ⟨rfl, hZ, hh⟩ := hP
  have hx := Bd.exec
  have hby := Bd.bytes
  have hml : c.maxLocals = 2 := hml0
  have hown : s.vm.findClass "java/lang/StringUTF16" = some m.cls := findClass_of_methodNamed Bd.named
  have X0 : Stand p l e (Room.mk 3 0 0 40) s m #[(.ref da), (.int ia)] below meth c s₁ [] 0 0 := Stand.of_body Bd
  have e0 : s₁.heap = h0 := by rw [← hh, Bd.state]; rfl
  have N0 := Fr.nil n0
  have pre0 : Pr p e below (s₁.setTop (mkF m 0 #[rv da, iv ia] [])) (s₁.setTop (entryFrame m #[(.ref da), (.int ia)] 2)) := fun t k => castTop (by first | (simp [entryFrame, mkF, argsToLocals, Value.category]; done) | rfl) k
  obtain ⟨_, _, ⟨T1, L1, k1, n1⟩, -, X1, ⟨Lc1, hQ1, l1, y1, z1⟩, st1⟩ := Jvm.LawKit.callS X0 hx (y := mN23) hown (mw hZ hw 309 rfl) (mw hZ hw 310 rfl) (mw hZ hw 18 rfl) (mw hZ hw 311 rfl) (by decide) (backOf (W := 0) (rm_uci l Z a0 hw [] ia da h0 n0 (own_old0 Y0) Y0 zc fm S kd Nd vd Ad ln hln hi0 hi1) hZ (ww hw 311 rfl) (ww hw 18 rfl) (by decide) (by decide)) (g := (mkF m 2 #[rv da, iv ia] [(.ref da), (.int ia)])) rfl (by rw [hml]; rfl) (argsL := [(.int ia), (.ref da)]) (rest := []) (lenOf pd_10 rfl) rfl own_z (hb hby d58_2) (fun _ _ => ⟨rfl, e0, (by decide : 0 + 0 ≤ _), (by decide : 0 + 0 ≤ _)⟩)
  dsimp only [Pt.U, Pt.locs, Pt.cells, Pt.slots] at X1 l1 y1 z1 st1 hQ1
  rw [y1, z1] at X1
  obtain ⟨rfl, N1q, e1⟩ := hQ1
  have N1 := own_fr l1 N0 N1q
  obtain ⟨_, _, ⟨T2, L2, k2, n2⟩, -, X2, ⟨Lc2, hQ2, l2, y2, z2⟩, st2⟩ := Jvm.LawKit.callS X1 hx (y := mN15) hown (mw hZ hw 275 rfl) (mw hZ hw 276 rfl) (mw hZ hw 18 rfl) (mw hZ hw 277 rfl) (by decide) (backOf (W := 0) (rm_gc l Z a0 hw [] da ia h0 n0 (own_old0 Y0) Y0 zc fm S kd Nd vd Ad ib hib hb1 hb2 cc g1 g2 hc) hZ (ww hw 277 rfl) (ww hw 18 rfl) (by decide) (by decide)) (g := (mkF m 7 #[rv da, iv ia] [(.int ia), (.ref da)])) rfl (by rw [hml]; rfl) (argsL := [(.ref da), (.int ia)]) (rest := []) (lenOf pd_11 rfl) rfl own_z (hb hby d58_7) (fun _ _ => ⟨rfl, e1, (by decide : 0 + 0 ≤ _), (by decide : 0 + 0 ≤ _)⟩)
  dsimp only [Pt.U, Pt.locs, Pt.cells, Pt.slots] at X2 l2 y2 z2 st2 hQ2
  rw [y2, z2] at X2
  obtain ⟨rfl, N2q, e2⟩ := hQ2
  have N2 := own_fr l2 N1 N2q
  have pre3 : Pr p e below (T2.setTop (mkF m 10 #[rv da, iv ia] [(.int cc)])) (s₁.setTop (entryFrame m #[(.ref da), (.int ia)] 2)) := fun t k => pre0 t (by
    show Steps _ _ _ (s₁.setTop (mkF m 0 #[rv da, iv ia] [])) _
    refine XS.iloadN X0.here hx rfl (hb hby d58_0) rfl ?_
    refine XS.aloadN X0.here hx rfl (hb hby d58_1) rfl rfl ?_
    refine st1 _ ?_
    refine XS.aloadN X1.here hx rfl (hb hby d58_5) rfl rfl ?_
    refine XS.iloadN X1.here hx rfl (hb hby d58_6) rfl ?_
    refine st2 _ ?_
    exact k)
  obtain ⟨fs, hr, hrun, hended, hW, hsame⟩ := X2.leave (v := some (.int (nar .char cc))) (fun h => by rw [Bd.returns] at h; cases h)
  refine ⟨_, _, pre3 _ ?_, hrun, hended, _, _, rfl, ?_, ⟨_, rfl⟩, hW, hsame.mono (by decide) (by decide)⟩
  · show Steps _ _ _ (T2.setTop (mkF m 10 #[rv da, iv ia] [(.int cc)])) _
    exact retN X2 hx (t := .char) Bd.returns (by simp) (hb hby d58_10) hr
  · show (Qp (some (.int cc))) h0 n0 _ T2.heap _
    rw [e2]
    exact ⟨by rw [own_nar16 hc], N2, rfl⟩
theorem pn_42 : plainName "java/lang/StringLatin1" = true := by first | (simp [plainName, overriddenIn]; done) | decide +kernel
theorem rm_lca (l : Launch) (Z : State) (a0 : Array Value) (hw : ∀ d ∈ tables_1, d.before a0 Z = true) (ws : List Jvm.Cond) (da : Addr) (ia : Int32) (h0 : Heap) (n0 : Nat) (Z0 : n0 ≤ h0.size) (Y0 : Old Z n0 h0) (zc : Int32) (fm : Value) (S : Sts Z Z.heap zc fm) (kd : ClassId) (Nd : Int32) (vd : List Value) (Ad : Arv Z h0 da kd .byte Nd vd (Value.int 0)) (hi0 : ¬ ia < (0 : Int32)) (hi1 : ia < Nd) (cc : Int32) (g1 : vd.getD ia.toNatClampNeg (Value.int 0) = .int (StrChars.lo8 cc)) (hc : own_ch cc)  :
    MFa l mN25 jdk_43_method_2_code 2 (some .char) ws (Room.mk 2 0 0 27) Z h0 n0 #[(.ref da), (.int ia)] (Qp (some (.int cc))) := by
  refine MetFree.of_bodySF (plainFor_of_name pn_42) hisR ?_
  intro p e s m args below meth c s₁ Bd hml0 hP hK
  obtain ⟨rfl, hZ, hh⟩ := hP
  have hx := Bd.exec
  have hby := Bd.bytes
  have hml : c.maxLocals = 2 := hml0
  have hown : s.vm.findClass "java/lang/StringLatin1" = some m.cls := findClass_of_methodNamed Bd.named
  have X0 : Stand p l e (Room.mk 2 0 0 27) s m #[(.ref da), (.int ia)] below meth c s₁ [] 0 0 := Stand.of_body Bd
  have e0 : s₁.heap = h0 := by rw [← hh, Bd.state]; rfl
  have N0 := Fr.nil n0
  have pre0 : Pr p e below (s₁.setTop (mkF m 0 #[rv da, iv ia] [])) (s₁.setTop (entryFrame m #[(.ref da), (.int ia)] 2)) := fun t k => castTop (by first | (simp [entryFrame, mkF, argsToLocals, Value.category]; done) | rfl) k
  obtain ⟨cl1, Ar1, -, Sz1, nz1, -, -⟩ := id Ad
  obtain ⟨_, _, ⟨T2, L2, k2, n2⟩, -, X2, ⟨Lc2, hQ2, l2, y2, z2⟩, st2⟩ := Jvm.LawKit.callS X0 hx (y := mN19) hown (mw hZ hw 246 rfl) (mw hZ hw 247 rfl) (mw hZ hw 4 rfl) (mw hZ hw 248 rfl) (by decide) (backOf (W := 0) (rm_sci l Z a0 hw [] ia Nd h0 n0 (own_old0 Y0) Y0 zc fm S hi0 hi1) hZ (ww hw 248 rfl) (ww hw 4 rfl) (by decide) (by decide)) (g := (mkF m 3 #[rv da, iv ia] [(.int Nd), (.int ia)])) rfl (by rw [hml]; rfl) (argsL := [(.int ia), (.int Nd)]) (rest := []) (lenOf pd_9 rfl) rfl own_z (hb hby d42_3) (fun _ _ => ⟨rfl, e0, (by decide : 0 + 0 ≤ _), (by decide : 0 + 0 ≤ _)⟩)
  dsimp only [Pt.U, Pt.locs, Pt.cells, Pt.slots] at X2 l2 y2 z2 st2 hQ2
  rw [y2, z2] at X2
  obtain ⟨rfl, N2q, e2⟩ := hQ2
  have N2 := own_fr l2 N0 N2q
  obtain ⟨cl3, Ar3, q3, S3, n3', H3, G3⟩ := id Ad
  have hin3 : ¬ (ia < 0 ∨ cl3.slots.size ≤ (ia).toNatClampNeg) := inb_of S3 ⟨hi0, hi1⟩
  have hat3 : cl3.slots[(ia).toNatClampNeg]? = some (.int (StrChars.lo8 cc)) := Has.at H3 hin3 g1
  have pre4 : Pr p e below (T2.setTop (mkF m 14 #[rv da, iv ia] [(.int cc)])) (s₁.setTop (entryFrame m #[(.ref da), (.int ia)] 2)) := fun t k => pre0 t (by
    show Steps _ _ _ (s₁.setTop (mkF m 0 #[rv da, iv ia] [])) _
    refine XS.iloadN X0.here hx rfl (hb hby d42_0) rfl ?_
    refine XS.aloadN X0.here hx rfl (hb hby d42_1) rfl rfl ?_
    refine X0.arraylength hx (by rw [e0]; exact Ar1.1) (State.isArrayOf_alike hZ.alike Ar1.2.1) (g := (mkF m 2 #[rv da, iv ia] [(.ref da), (.int ia)])) rfl rfl (hb hby d42_2) _ ?_
    rw [len_of Sz1 nz1]
    refine st2 _ ?_
    refine XS.aloadN X2.here hx rfl (hb hby d42_6) rfl rfl ?_
    refine XS.iloadN X2.here hx rfl (hb hby d42_7) rfl ?_
    refine X2.baloadBytes hx (j := ia) (v := (.int (StrChars.lo8 cc))) (by rw [e2]; exact Ar3.1) (State.isArrayOf_alike hZ.alike Ar3.2.1) Ar3.2.2 hin3 hat3 (g := (mkF m 8 #[rv da, iv ia] [(.int ia), (.ref da)])) rfl rfl (hb hby d42_8) _ ?_
    refine XT.sipushV X2.here hx rfl (255 : Int32) (hb hby d42_9) (by decide) ?_
    refine XS.iand X2.here hx rfl (hb hby d42_12) rfl ?_
    show Steps _ _ _ (T2.setTop (mkF m 13 #[rv da, iv ia] [(.int ((StrChars.lo8 cc) &&& (255 : Int32)))])) _
    refine castTop (g' := (mkF m 13 #[rv da, iv ia] [(.int cc)])) (by rw [own_b255 hc]) ?_
    refine XS.i2c X2.here hx rfl (hb hby d42_13) rfl ?_
    show Steps _ _ _ (T2.setTop (mkF m 14 #[rv da, iv ia] [(.int (cc.toUInt32.toUInt16.toUInt32.toInt32))])) _
    refine castTop (g' := (mkF m 14 #[rv da, iv ia] [(.int cc)])) (by rw [own_i2c (own_up16 hc)]) ?_
    exact k)
  obtain ⟨fs, hr, hrun, hended, hW, hsame⟩ := X2.leave (v := some (.int (nar .char cc))) (fun h => by rw [Bd.returns] at h; cases h)
  refine ⟨_, _, pre4 _ ?_, hrun, hended, _, _, rfl, ?_, ⟨_, rfl⟩, hW, hsame.mono (by decide) (by decide)⟩
  · show Steps _ _ _ (T2.setTop (mkF m 14 #[rv da, iv ia] [(.int cc)])) _
    exact retN X2 hx (t := .char) Bd.returns (by simp) (hb hby d42_14) hr
  · show (Qp (some (.int cc))) h0 n0 _ T2.heap _
    rw [e2]
    exact ⟨by rw [own_nar16 (own_up16 hc)], N2, rfl⟩
theorem rm_ca0 (l : Launch) (Z : State) (a0 : Array Value) (hw : ∀ d ∈ tables_1, d.before a0 Z = true) (ws : List Jvm.Cond) (sa : Addr) (ia : Int32) (h0 : Heap) (n0 : Nat) (Z0 : n0 ≤ h0.size) (Y0 : Old Z n0 h0) (zc : Int32) (fm : Value) (S : Sts Z Z.heap zc fm) (ta : Addr) (ka : ClassId) (Na : Int32) (va : List Value) (Xa : TX Z h0 sa ta ka Na va (0 : Int32)) (hi0 : ¬ ia < (0 : Int32)) (hi1 : ia < Na) (cc : Int32) (g1 : va.getD ia.toNatClampNeg (Value.int 0) = .int (StrChars.lo8 cc)) (hc : own_ch cc)  :
    MFa l mN26 jdk_42_method_56_code 2 (some .char) ws (Room.mk 5 0 0 90) Z h0 n0 #[(.ref sa), (.int ia)] (Qp (some (.int cc))) := by
  refine MetFree.of_bodySF (plainFor_of_name pn_13) hisR ?_
  intro p e s m args below meth c s₁ Bd hml0 hP hK
  obtain ⟨rfl, hZ, hh⟩ := hP
  have hx := Bd.exec
  have hby := Bd.bytes
  have hml : c.maxLocals = 2 := hml0
  have hown : s.vm.findClass "java/lang/String" = some m.cls := findClass_of_methodNamed Bd.named
  have X0 : Stand p l e (Room.mk 5 0 0 90) s m #[(.ref sa), (.int ia)] below meth c s₁ [] 0 0 := Stand.of_body Bd
  have e0 : s₁.heap = h0 := by rw [← hh, Bd.state]; rfl
  have N0 := Fr.nil n0
  have pre0 : Pr p e below (s₁.setTop (mkF m 0 #[rv sa, iv ia] [])) (s₁.setTop (entryFrame m #[(.ref sa), (.int ia)] 2)) := fun t k => castTop (by first | (simp [entryFrame, mkF, argsToLocals, Value.category]; done) | rfl) k
  obtain ⟨cq1, kq1, q1a, q1b, q1c⟩ := isOf hZ e0 Xa.1
  obtain ⟨_, _, ⟨T1, L1, k1, n1⟩, -, X1, ⟨Lc1, hQ1, l1, y1, z1⟩, st1⟩ := X0.virtualBack hx (y := mN6) (z := mN6) hown (mw hZ hw 237 rfl) (mw hZ hw 238 rfl) (notFace_of_selects (args := #[]) (mw hZ hw 240 rfl)) (mw hZ hw 240 rfl) (mw hZ hw 239 rfl) (by decide) (backOf (W := 0) (rm_isl0 l Z a0 hw [] sa h0 n0 (own_old0 Y0) Y0 zc fm S ta ka Na va Xa ) hZ (ww hw 241 rfl) (ww hw 4 rfl) (by decide) (by decide)) q1a q1c (g := (mkF m 1 #[rv sa, iv ia] [(.ref sa)])) rfl (by rw [hml]; rfl) (Steps.refl _) (argsL := []) (rest := []) (lenOf pd_12 rfl) rfl own_z (hb hby d40_1) (fun _ _ => ⟨rfl, e0, (by decide : 0 + 0 ≤ _), (by decide : 0 + 0 ≤ _)⟩)
  dsimp only [Pt.U, Pt.locs, Pt.cells, Pt.slots] at X1 l1 y1 z1 st1 hQ1
  rw [y1, z1] at X1
  obtain ⟨rfl, N1q, e1⟩ := hQ1
  have N1 := own_fr l1 N0 N1q
  obtain ⟨T2, X2, e2, st2⟩ := getF X1 hx hZ hown (host := "") (Or.inl (ww hw 29 rfl)) Via.refl e1 Xa.2.2.1 (g := (mkF m 8 #[rv sa, iv ia] [(.ref sa)])) rfl rfl (hb hby d40_8)
  obtain ⟨_, _, ⟨T3, L3, k3, n3⟩, -, X3, ⟨Lc3, hQ3, l3, y3, z3⟩, st3⟩ := Jvm.LawKit.callS X2 hx (y := mN25) hown (mw hZ hw 242 rfl) (mw hZ hw 243 rfl) (mw hZ hw 244 rfl) (mw hZ hw 245 rfl) (by decide) (backOf (W := 0) (rm_lca l Z a0 hw [] ta ia h0 n0 (own_old0 Y0) Y0 zc fm S ka Na va Xa.2.2.2 hi0 hi1 cc g1 hc) hZ (ww hw 245 rfl) (ww hw 244 rfl) (by decide) (by decide)) (g := (mkF m 12 #[rv sa, iv ia] [(.int ia), (.ref ta)])) rfl (by rw [hml]; rfl) (argsL := [(.ref ta), (.int ia)]) (rest := []) (lenOf pd_11 rfl) rfl own_z (hb hby d40_12) (fun _ _ => ⟨rfl, e2, (by decide : 0 + 0 ≤ _), (by decide : 0 + 0 ≤ _)⟩)
  dsimp only [Pt.U, Pt.locs, Pt.cells, Pt.slots] at X3 l3 y3 z3 st3 hQ3
  rw [y3, z3] at X3
  obtain ⟨rfl, N3q, e3⟩ := hQ3
  have N3 := own_fr l3 N1 N3q
  have pre4 : Pr p e below (T3.setTop (mkF m 15 #[rv sa, iv ia] [(.int cc)])) (s₁.setTop (entryFrame m #[(.ref sa), (.int ia)] 2)) := fun t k => pre0 t (by
    show Steps _ _ _ (s₁.setTop (mkF m 0 #[rv sa, iv ia] [])) _
    refine XS.aloadN X0.here hx rfl (hb hby d40_0) rfl rfl ?_
    refine st1.trans ?_
    show Steps _ _ _ (T1.setTop (mkF m 4 #[rv sa, iv ia] [(.int 1)])) _
    refine XS.ifNo X1.here hx rfl (hb hby d40_4) rfl ((if0 _ _).trans (feq (by decide : ¬ ((1 : Int32) = (0 : Int32)))).1) ?_
    refine XS.aloadN X1.here hx rfl (hb hby d40_7) rfl rfl ?_
    refine st2 _ ?_
    refine XS.iloadN X2.here hx rfl (hb hby d40_11) rfl ?_
    refine st3 _ ?_
    exact k)
  obtain ⟨fs, hr, hrun, hended, hW, hsame⟩ := X3.leave (v := some (.int (nar .char cc))) (fun h => by rw [Bd.returns] at h; cases h)
  refine ⟨_, _, pre4 _ ?_, hrun, hended, _, _, rfl, ?_, ⟨_, rfl⟩, hW, hsame.mono (by decide) (by decide)⟩
  · show Steps _ _ _ (T3.setTop (mkF m 15 #[rv sa, iv ia] [(.int cc)])) _
    exact retN X3 hx (t := .char) Bd.returns (by simp) (hb hby d40_15) hr
  · show (Qp (some (.int cc))) h0 n0 _ T3.heap _
    rw [e3]
    exact ⟨by rw [own_nar16 (own_up16 hc)], N3, rfl⟩
theorem rm_ca1 (l : Launch) (Z : State) (a0 : Array Value) (hw : ∀ d ∈ tables_1, d.before a0 Z = true) (ws : List Jvm.Cond) (sa : Addr) (ia : Int32) (h0 : Heap) (n0 : Nat) (Z0 : n0 ≤ h0.size) (Y0 : Old Z n0 h0) (zc : Int32) (fm : Value) (S : Sts Z Z.heap zc fm) (ta : Addr) (ka : ClassId) (Na : Int32) (va : List Value) (Xa : TX Z h0 sa ta ka Na va (1 : Int32)) (ln : Int32) (hln : (Na >>> ((1 : Int32) &&& 31)) = ln) (hi0 : ¬ ia < (0 : Int32)) (hi1 : ia < ln) (ib : Int32) (hib : (ia <<< ((1 : Int32) &&& 31)) = ib) (hb1 : ¬ ib < 0 ∧ ib < Na) (hb2 : ¬ (ib + (1 : Int32)) < 0 ∧ (ib + (1 : Int32)) < Na) (cc : Int32) (g1 : va.getD ib.toNatClampNeg (Value.int 0) = .int (StrChars.lo8 cc)) (g2 : va.getD (ib + (1 : Int32)).toNatClampNeg (Value.int 0) = .int (StrChars.hi8 cc)) (hc : own_c16 cc)  :
    MFa l mN26 jdk_42_method_56_code 2 (some .char) ws (Room.mk 5 0 0 90) Z h0 n0 #[(.ref sa), (.int ia)] (Qp (some (.int cc))) := by
  refine MetFree.of_bodySF (plainFor_of_name pn_13) hisR ?_
  intro p e s m args below meth c s₁ Bd hml0 hP hK
  obtain ⟨rfl, hZ, hh⟩ := hP
  have hx := Bd.exec
  have hby := Bd.bytes
  have hml : c.maxLocals = 2 := hml0
  have hown : s.vm.findClass "java/lang/String" = some m.cls := findClass_of_methodNamed Bd.named
  have X0 : Stand p l e (Room.mk 5 0 0 90) s m #[(.ref sa), (.int ia)] below meth c s₁ [] 0 0 := Stand.of_body Bd
  have e0 : s₁.heap = h0 := by rw [← hh, Bd.state]; rfl
  have N0 := Fr.nil n0
  have pre0 : Pr p e below (s₁.setTop (mkF m 0 #[rv sa, iv ia] [])) (s₁.setTop (entryFrame m #[(.ref sa), (.int ia)] 2)) := fun t k => castTop (by first | (simp [entryFrame, mkF, argsToLocals, Value.category]; done) | rfl) k
  obtain ⟨cq1, kq1, q1a, q1b, q1c⟩ := isOf hZ e0 Xa.1
  obtain ⟨_, _, ⟨T1, L1, k1, n1⟩, -, X1, ⟨Lc1, hQ1, l1, y1, z1⟩, st1⟩ := X0.virtualBack hx (y := mN6) (z := mN6) hown (mw hZ hw 237 rfl) (mw hZ hw 238 rfl) (notFace_of_selects (args := #[]) (mw hZ hw 240 rfl)) (mw hZ hw 240 rfl) (mw hZ hw 239 rfl) (by decide) (backOf (W := 0) (rm_isl1 l Z a0 hw [] sa h0 n0 (own_old0 Y0) Y0 zc fm S ta ka Na va Xa ) hZ (ww hw 241 rfl) (ww hw 4 rfl) (by decide) (by decide)) q1a q1c (g := (mkF m 1 #[rv sa, iv ia] [(.ref sa)])) rfl (by rw [hml]; rfl) (Steps.refl _) (argsL := []) (rest := []) (lenOf pd_12 rfl) rfl own_z (hb hby d40_1) (fun _ _ => ⟨rfl, e0, (by decide : 0 + 0 ≤ _), (by decide : 0 + 0 ≤ _)⟩)
  dsimp only [Pt.U, Pt.locs, Pt.cells, Pt.slots] at X1 l1 y1 z1 st1 hQ1
  rw [y1, z1] at X1
  obtain ⟨rfl, N1q, e1⟩ := hQ1
  have N1 := own_fr l1 N0 N1q
  obtain ⟨T2, X2, e2, st2⟩ := getF X1 hx hZ hown (host := "") (Or.inl (ww hw 29 rfl)) Via.refl e1 Xa.2.2.1 (g := (mkF m 17 #[rv sa, iv ia] [(.ref sa)])) rfl rfl (hb hby d40_17)
  obtain ⟨_, _, ⟨T3, L3, k3, n3⟩, -, X3, ⟨Lc3, hQ3, l3, y3, z3⟩, st3⟩ := Jvm.LawKit.callS X2 hx (y := mN24) hown (mw hZ hw 306 rfl) (mw hZ hw 307 rfl) (mw hZ hw 18 rfl) (mw hZ hw 308 rfl) (by decide) (backOf (W := 0) (rm_uca l Z a0 hw [] ta ia h0 n0 (own_old0 Y0) Y0 zc fm S ka Na va Xa.2.2.2 ln hln hi0 hi1 ib hib hb1 hb2 cc g1 g2 hc) hZ (ww hw 308 rfl) (ww hw 18 rfl) (by decide) (by decide)) (g := (mkF m 21 #[rv sa, iv ia] [(.int ia), (.ref ta)])) rfl (by rw [hml]; rfl) (argsL := [(.ref ta), (.int ia)]) (rest := []) (lenOf pd_11 rfl) rfl own_z (hb hby d40_21) (fun _ _ => ⟨rfl, e2, (by decide : 0 + 0 ≤ _), (by decide : 0 + 0 ≤ _)⟩)
  dsimp only [Pt.U, Pt.locs, Pt.cells, Pt.slots] at X3 l3 y3 z3 st3 hQ3
  rw [y3, z3] at X3
  obtain ⟨rfl, N3q, e3⟩ := hQ3
  have N3 := own_fr l3 N1 N3q
  have pre4 : Pr p e below (T3.setTop (mkF m 24 #[rv sa, iv ia] [(.int cc)])) (s₁.setTop (entryFrame m #[(.ref sa), (.int ia)] 2)) := fun t k => pre0 t (by
    show Steps _ _ _ (s₁.setTop (mkF m 0 #[rv sa, iv ia] [])) _
    refine XS.aloadN X0.here hx rfl (hb hby d40_0) rfl rfl ?_
    refine st1.trans ?_
    show Steps _ _ _ (T1.setTop (mkF m 4 #[rv sa, iv ia] [(.int 0)])) _
    refine XS.ifYes X1.here hx rfl (pc0 := 4) (pc' := 16) rfl (hb hby d40_4) rfl ((if0 _ _).trans (teq (by decide : ((0 : Int32) = (0 : Int32)))).1) (by decide) (by decide) ?_
    refine XS.aloadN X1.here hx rfl (hb hby d40_16) rfl rfl ?_
    refine st2 _ ?_
    refine XS.iloadN X2.here hx rfl (hb hby d40_20) rfl ?_
    refine st3 _ ?_
    exact k)
  obtain ⟨fs, hr, hrun, hended, hW, hsame⟩ := X3.leave (v := some (.int (nar .char cc))) (fun h => by rw [Bd.returns] at h; cases h)
  refine ⟨_, _, pre4 _ ?_, hrun, hended, _, _, rfl, ?_, ⟨_, rfl⟩, hW, hsame.mono (by decide) (by decide)⟩
  · show Steps _ _ _ (T3.setTop (mkF m 24 #[rv sa, iv ia] [(.int cc)])) _
    exact retN X3 hx (t := .char) Bd.returns (by simp) (hb hby d40_24) hr
  · show (Qp (some (.int cc))) h0 n0 _ T3.heap _
    rw [e3]
    exact ⟨by rw [own_nar16 hc], N3, rfl⟩
theorem own_ut {p : Program} {l : Launch} {e : Env} {s : State} {m : MethodId} {args : Array Value} {below : List Frame} {meth : Method} {c : Code} {T0 : State} {locs : List Loc} (Z : State) (a0 : Array Value) (hw : ∀ d ∈ tables_1, d.before a0 Z = true) (ta da : Addr) (pa qa la ja pb qb jb Na Nd : Int32) (ka kd : ClassId) (va vd : List Value) (h0 : Heap) (n0 : Nat) (Z0 : n0 ≤ h0.size) (Y0 : Old Z n0 h0) (zc : Int32) (fm : Value) (S : Sts Z Z.heap zc fm) 
    (X0 : Stand p l e (Room.mk 3 0 0 43) s m args below meth c T0 locs 0 0) (hx : p.tables.exec = Jvm.exec) (hby : c.code = jdk_52_method_86_code) (hml : c.maxLocals = 6) (hZ : Z.Warmed39 s.vm) (hown : s.vm.findClass "java/lang/StringUTF16" = some m.cls) (e0 : T0.heap = h0) (N0 : Fr n0 locs) (At : Arv Z h0 ta ka .byte Na va (Value.int 0)) (Ad : Arv Z h0 da kd .byte Nd vd (Value.int 0)) (gd : n0 ≤ da) (hp : (pa + (1 : Int32)) = pb) (hq : (qa + (1 : Int32)) = qb) (hj : (ja + (1 : Int32)) = jb) (hlt : ja < la) (cc : Int32) (hg0 : ¬ pa < 0 ∧ pa < Na) (hg1 : va.getD pa.toNatClampNeg (Value.int 0) = .int (StrChars.lo8 cc)) (hc : own_ch cc) (htd : ta ≠ da) (ib : Int32) (hib : (qa <<< ((1 : Int32) &&& 31)) = ib) (jn : Nat) (ej : ib.toNatClampNeg = jn) (ej2 : (ib + (1 : Int32)).toNatClampNeg = jn + 1) (hb1 : ¬ ib < 0 ∧ ib < Nd) (hb2 : ¬ (ib + (1 : Int32)) < 0 ∧ (ib + (1 : Int32)) < Nd) (hjl : jn + 1 < vd.length)  :
    ∃ (T' : State) (h' : Heap) (L' : List Loc), Stand p l e (Room.mk 3 0 0 43) s m args below meth c T' L' 0 0 ∧ T'.heap = h' ∧ Fr n0 L' ∧ Keep h0 h' [da] ∧ Arv Z h' da kd .byte Nd ((vd.set jn (.int (StrChars.lo8 cc))).set (jn + 1) (.int (StrChars.hi8 cc))) (Value.int 0) ∧ ∀ t, Steps p.tables e below (T'.setTop (mkF m 10 #[rv ta, iv pb, rv da, iv qb, iv la, iv jb] [])) t → Steps p.tables e below (T0.setTop (mkF m 10 #[rv ta, iv pa, rv da, iv qa, iv la, iv ja] [])) t := by
  have pre0 : Pr p e below (T0.setTop (mkF m 10 #[rv ta, iv pa, rv da, iv qa, iv la, iv ja] [])) (T0.setTop (mkF m 10 #[rv ta, iv pa, rv da, iv qa, iv la, iv ja] [])) := fun _ k => k
  obtain ⟨cl1, Ar1, q1, S1, n1', H1, G1⟩ := id At
  have hin1 : ¬ (pa < 0 ∨ cl1.slots.size ≤ (pa).toNatClampNeg) := inb_of S1 hg0
  have hat1 : cl1.slots[(pa).toNatClampNeg]? = some (.int (StrChars.lo8 cc)) := Has.at H1 hin1 hg1
  obtain ⟨_, _, ⟨T2, L2, k2, n2⟩, -, X2, ⟨Lc2, hQ2, l2, y2, z2⟩, st2⟩ := Jvm.LawKit.callS X0 hx (y := mN14) hown (mw hZ hw 269 rfl) (mw hZ hw 270 rfl) (mw hZ hw 18 rfl) (mw hZ hw 271 rfl) (by decide) (backOf (W := 0) (rm_pc l Z a0 hw [] da qa cc h0 n0 (own_old0 Y0) Y0 zc fm S kd Nd vd Ad gd ib hib jn ej ej2 hb1 hb2 hjl) hZ (ww hw 271 rfl) (ww hw 18 rfl) (by decide) (by decide)) (g := (mkF m 32 #[rv ta, iv pb, rv da, iv qb, iv la, iv ja] [(.int cc), (.int qa), (.ref da)])) rfl (by rw [hml]; rfl) (argsL := [(.ref da), (.int qa), (.int cc)]) (rest := []) (lenOf pd_13 rfl) rfl own_z (hb hby d53_32) (fun _ _ => ⟨rfl, e0, (by decide : 0 + 0 ≤ _), (by decide : 0 + 0 ≤ _)⟩)
  dsimp only [Pt.U, Pt.locs, Pt.cells, Pt.slots] at X2 l2 y2 z2 st2 hQ2
  rw [y2, z2] at X2
  obtain ⟨rfl, N2q, Kc2, Vc2⟩ := hQ2
  have N2 := own_fr l2 N0 N2q
  have K2k : Keep h0 T2.heap [da] := Keep.trans (Keep.refl h0 [da]) Kc2 (allS (Or.inl (List.mem_of_getElem? (i := 0) rfl)) all0)
  have pre3 : Pr p e below (T2.setTop (mkF m 10 #[rv ta, iv pb, rv da, iv qb, iv la, iv jb] [])) (T0.setTop (mkF m 10 #[rv ta, iv pa, rv da, iv qa, iv la, iv ja] [])) := fun t k => pre0 t (by
    show Steps _ _ _ (T0.setTop (mkF m 10 #[rv ta, iv pa, rv da, iv qa, iv la, iv ja] [])) _
    refine XS.iload X0.here hx rfl (hb hby d53_10) rfl ?_
    refine XS.iload X0.here hx rfl (hb hby d53_12) rfl ?_
    show Steps _ _ _ (T0.setTop (mkF m 14 #[rv ta, iv pa, rv da, iv qa, iv la, iv ja] [(.int la), (.int ja)])) _
    refine XS.icmpNo X0.here hx rfl (hb hby d53_14) rfl (tlt hlt).2.1 ?_
    refine XS.aloadN X0.here hx rfl (hb hby d53_17) rfl rfl ?_
    refine XS.iloadN X0.here hx rfl (hb hby d53_18) rfl ?_
    refine XS.iinc X0.here hx rfl (hb hby d53_19) rfl (l' := #[rv ta, iv pa, rv da, .val (.int (qa + (1 : Int32))), iv la, iv ja]) rfl ?_
    show Steps _ _ _ (T0.setTop (mkF m 22 #[rv ta, iv pa, rv da, .val (.int (qa + (1 : Int32))), iv la, iv ja] [(.int qa), (.ref da)])) _
    refine castTop (g' := (mkF m 22 #[rv ta, iv pa, rv da, iv qb, iv la, iv ja] [(.int qa), (.ref da)])) (by rw [hq]) ?_
    refine XS.aloadN X0.here hx rfl (hb hby d53_22) rfl rfl ?_
    refine XS.iloadN X0.here hx rfl (hb hby d53_23) rfl ?_
    refine XS.iinc X0.here hx rfl (hb hby d53_24) rfl (l' := #[rv ta, .val (.int (pa + (1 : Int32))), rv da, iv qb, iv la, iv ja]) rfl ?_
    show Steps _ _ _ (T0.setTop (mkF m 27 #[rv ta, .val (.int (pa + (1 : Int32))), rv da, iv qb, iv la, iv ja] [(.int pa), (.ref ta), (.int qa), (.ref da)])) _
    refine castTop (g' := (mkF m 27 #[rv ta, iv pb, rv da, iv qb, iv la, iv ja] [(.int pa), (.ref ta), (.int qa), (.ref da)])) (by rw [hp]) ?_
    refine X0.baloadBytes hx (j := pa) (v := (.int (StrChars.lo8 cc))) (by rw [e0]; exact Ar1.1) (State.isArrayOf_alike hZ.alike Ar1.2.1) Ar1.2.2 hin1 hat1 (g := (mkF m 27 #[rv ta, iv pb, rv da, iv qb, iv la, iv ja] [(.int pa), (.ref ta), (.int qa), (.ref da)])) rfl rfl (hb hby d53_27) _ ?_
    refine XT.sipushV X0.here hx rfl (255 : Int32) (hb hby d53_28) (by decide) ?_
    refine XS.iand X0.here hx rfl (hb hby d53_31) rfl ?_
    show Steps _ _ _ (T0.setTop (mkF m 32 #[rv ta, iv pb, rv da, iv qb, iv la, iv ja] [(.int ((StrChars.lo8 cc) &&& (255 : Int32))), (.int qa), (.ref da)])) _
    refine castTop (g' := (mkF m 32 #[rv ta, iv pb, rv da, iv qb, iv la, iv ja] [(.int cc), (.int qa), (.ref da)])) (by rw [own_b255 hc]) ?_
    refine st2 _ ?_
    refine XS.iinc X2.here hx rfl (hb hby d53_35) rfl (l' := #[rv ta, iv pb, rv da, iv qb, iv la, .val (.int (ja + (1 : Int32)))]) rfl ?_
    show Steps _ _ _ (T2.setTop (mkF m 38 #[rv ta, iv pb, rv da, iv qb, iv la, .val (.int (ja + (1 : Int32)))] [])) _
    refine castTop (g' := (mkF m 38 #[rv ta, iv pb, rv da, iv qb, iv la, iv jb] [])) (by rw [hj]) ?_
    refine XS.goto X2.here hx rfl (pc0 := 38) (pc' := 10) rfl (hb hby d53_38) (by decide) (by decide) ?_
    exact k)
  exact ⟨_, _, _, X2, rfl, N2, K2k, Vc2, pre3⟩
theorem own_ul {p : Program} {l : Launch} {e : Env} {s : State} {m : MethodId} {args : Array Value} {below : List Frame} {meth : Method} {c : Code} (Z : State) (a0 : Array Value) (hw : ∀ d ∈ tables_1, d.before a0 Z = true) (ta da : Addr) (Na Nd : Int32) (ka kd : ClassId) (va : List Value) (cs : List Int32) (n0 nn nd : Nat) (zc : Int32) (fm : Value) (S : Sts Z Z.heap zc fm)
    (hx : p.tables.exec = Jvm.exec) (hby : c.code = jdk_52_method_86_code) (hml : c.maxLocals = 6) (hZ : Z.Warmed39 s.vm) (hown : s.vm.findClass "java/lang/StringUTF16" = some m.cls) (gd : n0 ≤ da) (htd : ta ≠ da) (hN : nn ≤ 15) (hNa : ¬ Na < Int32.ofNat nn) (hNd : Nd = Int32.ofNat nd) (hnd : nd ≤ 68)
    (hsrc : ∀ i, i < nn → va.getD i (.int 0) = .int (StrChars.lo8 (cs.getD i 0)) ∧ own_ch (cs.getD i 0)) :
    ∀ (r k q : Nat) (vd : List Value) (T0 : State) (h0 : Heap) (locs : List Loc), k + r = nn → 2 * (q + r) ≤ nd → vd.length = nd → Old Z n0 h0 → Stand p l e (Room.mk 3 0 0 43) s m args below meth c T0 locs 0 0 → T0.heap = h0 → Fr n0 locs → Arv Z h0 ta ka .byte Na va (.int 0) → Arv Z h0 da kd .byte Nd vd (.int 0) →
      ∃ (T' : State) (h' : Heap) (L' : List Loc), Stand p l e (Room.mk 3 0 0 43) s m args below meth c T' L' 0 0 ∧ T'.heap = h' ∧ Fr n0 L' ∧ Keep h0 h' [da] ∧ Arv Z h' da kd .byte Nd (own_inf cs r k q vd) (.int 0) ∧
        ∀ t, Steps p.tables e below (T'.setTop (mkF m 10 #[rv ta, iv (Int32.ofNat nn), rv da, iv (Int32.ofNat (q + r)), iv (Int32.ofNat nn), iv (Int32.ofNat nn)] [])) t → Steps p.tables e below (T0.setTop (mkF m 10 #[rv ta, iv (Int32.ofNat k), rv da, iv (Int32.ofNat q), iv (Int32.ofNat nn), iv (Int32.ofNat k)] [])) t := by
  intro r
  induction r with
  | zero =>
    intro k q vd T0 h0 locs hk hq hvd Y X e0 N At Ad
    obtain rfl : k = nn := by omega
    exact ⟨T0, h0, locs, X, e0, N, Keep.refl _ _, Ad, fun t k => k⟩
  | succ r ih =>
    intro k q vd T0 h0 locs hk hq hvd Y X e0 N At Ad
    obtain ⟨hs1, hs2⟩ := hsrc k (by omega)
    have b0 : Int32.ofNat k < Na := by
      rw [Int32.lt_iff_toInt_lt] at hNa ⊢
      rw [own_oi (by omega)] at hNa ⊢; omega
    have e2 : Int32.ofNat (2 * q) + (1 : Int32) = Int32.ofNat (2 * q + 1) := own_oa (by omega)
    obtain ⟨T1, h1, L1, X1, e1, N1, K1, A1, st1⟩ := own_ut (l := l) Z a0 hw ta da (Int32.ofNat k) (Int32.ofNat q) (Int32.ofNat nn) (Int32.ofNat k) (Int32.ofNat (k + 1)) (Int32.ofNat (q + 1)) (Int32.ofNat (k + 1)) Na Nd ka kd va vd h0 n0 (own_old0 Y) Y zc fm S X hx hby hml hZ hown e0 N At Ad gd (own_oa (by omega)) (own_oa (by omega)) (own_oa (by omega)) (own_ol (by omega) (by omega)) (cs.getD k 0) ⟨own_o0 (by omega), b0⟩ (by rw [own_on (by omega)]; exact hs1) hs2 htd
      (Int32.ofNat (2 * q)) (own_os (by omega)) (2 * q) (own_on (by omega)) (by rw [e2]; exact own_on (by omega)) ⟨own_o0 (by omega), by rw [hNd]; exact own_ol (by omega) (by omega)⟩ (by rw [e2]; exact ⟨own_o0 (by omega), by rw [hNd]; exact own_ol (by omega) (by omega)⟩) (by omega)
    obtain ⟨T2, h2, L2, X2, e2', N2, K2, A2, st2⟩ := ih (k + 1) (q + 1) _ T1 h1 L1 (by omega) (by omega) (by simp [hvd]) (Old.keep Y K1 (allS gd all0)) X1 e1 N1 (At.keep K1 (ninS htd nin0)) A1
    refine ⟨T2, h2, L2, X2, e2', N2, Keep.trans K1 K2 (allS (Or.inl (List.mem_of_getElem? (i := 0) rfl)) all0), A2, fun t k => st1 t (st2 t ?_)⟩
    have e3 : q + 1 + r = q + (r + 1) := by omega
    rw [e3]; exact k
theorem rm_ui (l : Launch) (Z : State) (a0 : Array Value) (hw : ∀ d ∈ tables_1, d.before a0 Z = true) (ws : List Jvm.Cond) (ta : Addr) (da : Addr) (oa : Int32) (la : Int32) (h0 : Heap) (n0 : Nat) (Z0 : n0 ≤ h0.size) (Y0 : Old Z n0 h0) (zc : Int32) (fm : Value) (S : Sts Z Z.heap zc fm) (ka kd : ClassId) (Na Nd ln : Int32) (va vd : List Value) (cs : List Int32) (qq nn nd : Nat) (At : Arv Z h0 ta ka .byte Na va (Value.int 0)) (Ad : Arv Z h0 da kd .byte Nd vd (Value.int 0)) (gd : n0 ≤ da) (htd : ta ≠ da) (hf : IF oa la Na Nd ln qq nn nd) (hvd : vd.length = nd) (hsrc : ∀ i, i < nn → va.getD i (Value.int 0) = .int (StrChars.lo8 (cs.getD i 0)) ∧ own_ch (cs.getD i 0))  :
    MFa l mN27 jdk_52_method_86_code 6 none ws (Room.mk 3 0 0 43) Z h0 n0 #[(.ref ta), (.int 0), (.ref da), (.int oa), (.int la)] (Qa Z da kd Nd (own_inf cs nn 0 qq vd)) := by
  refine MetFree.of_bodySF (plainFor_of_name pn_55) hisR ?_
  intro p e s m args below meth c s₁ Bd hml0 hP hK
  obtain ⟨rfl, hZ, hh⟩ := hP
  have hx := Bd.exec
  have hby := Bd.bytes
  have hml : c.maxLocals = 6 := hml0
  have hown : s.vm.findClass "java/lang/StringUTF16" = some m.cls := findClass_of_methodNamed Bd.named
  have X0 : Stand p l e (Room.mk 3 0 0 43) s m #[(.ref ta), (.int 0), (.ref da), (.int oa), (.int la)] below meth c s₁ [] 0 0 := Stand.of_body Bd
  have e0 : s₁.heap = h0 := by rw [← hh, Bd.state]; rfl
  have N0 := Fr.nil n0
  have pre0 : Pr p e below (s₁.setTop (mkF m 0 #[rv ta, iv 0, rv da, iv oa, iv la, .unset] [])) (s₁.setTop (entryFrame m #[(.ref ta), (.int 0), (.ref da), (.int oa), (.int la)] 6)) := fun t k => castTop (by first | (simp [entryFrame, mkF, argsToLocals, Value.category]; done) | rfl) k
  obtain ⟨_, _, ⟨T1, L1, k1, n1⟩, -, X1, ⟨Lc1, hQ1, l1, y1, z1⟩, st1⟩ := Jvm.LawKit.callS X0 hx (y := mN22) hown (mw hZ hw 291 rfl) (mw hZ hw 292 rfl) (mw hZ hw 18 rfl) (mw hZ hw 293 rfl) (by decide) (backOf (W := 0) (rm_cb l Z a0 hw [] oa la da h0 n0 (own_old0 Y0) Y0 zc fm S kd Nd vd Ad ln hf.2.2.2.2.2.2.2.1 hf.2.2.2.2.2.2.2.2.1 hf.2.2.2.2.2.2.2.2.2) hZ (ww hw 293 rfl) (ww hw 18 rfl) (by decide) (by decide)) (g := (mkF m 4 #[rv ta, iv 0, rv da, iv oa, iv la, .unset] [(.ref da), (.int la), (.int oa)])) rfl (by rw [hml]; rfl) (argsL := [(.int oa), (.int la), (.ref da)]) (rest := []) (lenOf pd_14 rfl) rfl own_z (hb hby d53_4) (fun _ _ => ⟨rfl, e0, (by decide : 0 + 0 ≤ _), (by decide : 0 + 0 ≤ _)⟩)
  dsimp only [Pt.U, Pt.locs, Pt.cells, Pt.slots] at X1 l1 y1 z1 st1 hQ1
  rw [y1, z1] at X1
  obtain ⟨rfl, N1q, e1⟩ := hQ1
  have N1 := own_fr l1 N0 N1q
  have pre2 : Pr p e below (T1.setTop (mkF m 10 #[rv ta, iv 0, rv da, iv oa, iv la, iv 0] [])) (s₁.setTop (entryFrame m #[(.ref ta), (.int 0), (.ref da), (.int oa), (.int la)] 6)) := fun t k => pre0 t (by
    show Steps _ _ _ (s₁.setTop (mkF m 0 #[rv ta, iv 0, rv da, iv oa, iv la, .unset] [])) _
    refine XS.iloadN X0.here hx rfl (hb hby d53_0) rfl ?_
    refine XS.iload X0.here hx rfl (hb hby d53_1) rfl ?_
    refine XS.aloadN X0.here hx rfl (hb hby d53_3) rfl rfl ?_
    refine st1 _ ?_
    refine XT.iconstV X1.here hx rfl (0 : Int32) (hb hby d53_7) (by decide) ?_
    refine XS.istore X1.here hx rfl (hb hby d53_8) rfl (l' := #[rv ta, iv 0, rv da, iv oa, iv la, iv 0]) rfl ?_
    exact k)
  obtain ⟨T3, h3, L3, X3, e3, N3, Kc3, V3, st3⟩ := own_ul (l := l) Z a0 hw ta da Na Nd ka kd va cs n0 nn nd zc fm S hx hby hml hZ hown gd htd hf.2.2.2.2.2.2.1 (by rw [hf.2.1]; exact hf.2.2.1) hf.2.2.2.1 hf.2.2.2.2.2.1 hsrc nn 0 qq vd T1 h0 _ (Nat.zero_add _) hf.2.2.2.2.1 hvd Y0 X1 e1 N1 At Ad
  have pre3l : Pr p e below (T3.setTop (mkF m 10 #[rv ta, iv (Int32.ofNat nn), rv da, iv (Int32.ofNat (qq + nn)), iv la, iv (Int32.ofNat nn)] [])) (s₁.setTop (entryFrame m #[(.ref ta), (.int 0), (.ref da), (.int oa), (.int la)] 6)) := fun t k => pre2 t (by
    have q := st3 t (by rw [hf.2.1]; rw [hf.2.1] at k; exact k)
    rw [hf.1, hf.2.1] at q
    exact q)
  have K3k : Keep h0 h3 [da] := Keep.trans (Keep.refl h0 [da]) Kc3 (allS (Or.inl (List.mem_of_getElem? (i := 0) rfl)) all0)
  have pre4 : Pr p e below (T3.setTop (mkF m 41 #[rv ta, .val (.int (Int32.ofNat nn)), rv da, .val (.int (Int32.ofNat (qq + nn))), iv la, .val (.int (Int32.ofNat nn))] [])) (s₁.setTop (entryFrame m #[(.ref ta), (.int 0), (.ref da), (.int oa), (.int la)] 6)) := fun t k => pre3l t (by
    show Steps _ _ _ (T3.setTop (mkF m 10 #[rv ta, .val (.int (Int32.ofNat nn)), rv da, .val (.int (Int32.ofNat (qq + nn))), iv la, .val (.int (Int32.ofNat nn))] [])) _
    refine XS.iload X3.here hx rfl (hb hby d53_10) rfl ?_
    refine XS.iload X3.here hx rfl (hb hby d53_12) rfl ?_
    show Steps _ _ _ (T3.setTop (mkF m 14 #[rv ta, .val (.int (Int32.ofNat nn)), rv da, .val (.int (Int32.ofNat (qq + nn))), iv la, .val (.int (Int32.ofNat nn))] [(.int la), (.int (Int32.ofNat nn))])) _
    refine XS.icmpYes X3.here hx rfl (pc0 := 14) (pc' := 41) rfl (hb hby d53_14) rfl (flt (by rw [hf.2.1]; exact Int32.lt_irrefl)).2.1 (by decide) (by decide) ?_
    exact k)
  obtain ⟨fs, hr, hrun, hended, hW, hsame⟩ := X3.leave (v := none) (fun _ => rfl)
  refine ⟨_, _, pre4 _ ?_, hrun, hended, _, _, rfl, ?_, ⟨_, rfl⟩, hW, hsame.mono (by decide) (by decide)⟩
  · show Steps _ _ _ (T3.setTop (mkF m 41 #[rv ta, .val (.int (Int32.ofNat nn)), rv da, .val (.int (Int32.ofNat (qq + nn))), iv la, .val (.int (Int32.ofNat nn))] [])) _
    exact X3.returnOut hx Bd.returns (hb hby d53_41) hr
  · show (Qa Z da kd Nd (own_inf cs nn 0 qq vd)) h0 n0 _ T3.heap _
    rw [e3]
    exact ⟨rfl, N3, K3k, V3⟩
theorem rm_li (l : Launch) (Z : State) (a0 : Array Value) (hw : ∀ d ∈ tables_1, d.before a0 Z = true) (ws : List Jvm.Cond) (ta : Addr) (da : Addr) (oa : Int32) (la : Int32) (h0 : Heap) (n0 : Nat) (Z0 : n0 ≤ h0.size) (Y0 : Old Z n0 h0) (zc : Int32) (fm : Value) (S : Sts Z Z.heap zc fm) (ka kd : ClassId) (Na Nd ln : Int32) (va vd : List Value) (cs : List Int32) (qq nn nd : Nat) (At : Arv Z h0 ta ka .byte Na va (Value.int 0)) (Ad : Arv Z h0 da kd .byte Nd vd (Value.int 0)) (gd : n0 ≤ da) (htd : ta ≠ da) (hf : IF oa la Na Nd ln qq nn nd) (hvd : vd.length = nd) (hsrc : ∀ i, i < nn → va.getD i (Value.int 0) = .int (StrChars.lo8 (cs.getD i 0)) ∧ own_ch (cs.getD i 0))  :
    MFa l mN28 jdk_43_method_50_code 5 none ws (Room.mk 4 0 0 60) Z h0 n0 #[(.ref ta), (.int 0), (.ref da), (.int oa), (.int la)] (Qa Z da kd Nd (own_inf cs nn 0 qq vd)) := by
  refine MetFree.of_bodySF (plainFor_of_name pn_42) hisR ?_
  intro p e s m args below meth c s₁ Bd hml0 hP hK
  obtain ⟨rfl, hZ, hh⟩ := hP
  have hx := Bd.exec
  have hby := Bd.bytes
  have hml : c.maxLocals = 5 := hml0
  have hown : s.vm.findClass "java/lang/StringLatin1" = some m.cls := findClass_of_methodNamed Bd.named
  have X0 : Stand p l e (Room.mk 4 0 0 60) s m #[(.ref ta), (.int 0), (.ref da), (.int oa), (.int la)] below meth c s₁ [] 0 0 := Stand.of_body Bd
  have e0 : s₁.heap = h0 := by rw [← hh, Bd.state]; rfl
  have N0 := Fr.nil n0
  have pre0 : Pr p e below (s₁.setTop (mkF m 0 #[rv ta, iv 0, rv da, iv oa, iv la] [])) (s₁.setTop (entryFrame m #[(.ref ta), (.int 0), (.ref da), (.int oa), (.int la)] 5)) := fun t k => castTop (by first | (simp [entryFrame, mkF, argsToLocals, Value.category]; done) | rfl) k
  obtain ⟨_, _, ⟨T1, L1, k1, n1⟩, -, X1, ⟨Lc1, hQ1, l1, y1, z1⟩, st1⟩ := Jvm.LawKit.callS X0 hx (y := mN27) hown (mw hZ hw 288 rfl) (mw hZ hw 289 rfl) (mw hZ hw 18 rfl) (mw hZ hw 290 rfl) (by decide) (backOf (W := 0) (rm_ui l Z a0 hw [] ta da oa la h0 n0 (own_old0 Y0) Y0 zc fm S ka kd Na Nd ln va vd cs qq nn nd At Ad gd htd hf hvd hsrc) hZ (ww hw 290 rfl) (ww hw 18 rfl) (by decide) (by decide)) (g := (mkF m 6 #[rv ta, iv 0, rv da, iv oa, iv la] [(.int la), (.int oa), (.ref da), (.int 0), (.ref ta)])) rfl (by rw [hml]; rfl) (argsL := [(.ref ta), (.int 0), (.ref da), (.int oa), (.int la)]) (rest := []) (lenOf pd_15 rfl) rfl own_z (hb hby d52_6) (fun _ _ => ⟨rfl, e0, (by decide : 0 + 0 ≤ _), (by decide : 0 + 0 ≤ _)⟩)
  dsimp only [Pt.U, Pt.locs, Pt.cells, Pt.slots] at X1 l1 y1 z1 st1 hQ1
  rw [y1, z1] at X1
  obtain ⟨rfl, N1q, Kc1, Vc1⟩ := hQ1
  have N1 := own_fr l1 N0 N1q
  have K1k : Keep h0 T1.heap [da] := Keep.trans (Keep.refl h0 [da]) Kc1 (allS (Or.inl (List.mem_of_getElem? (i := 0) rfl)) all0)
  have pre2 : Pr p e below (T1.setTop (mkF m 9 #[rv ta, iv 0, rv da, iv oa, iv la] [])) (s₁.setTop (entryFrame m #[(.ref ta), (.int 0), (.ref da), (.int oa), (.int la)] 5)) := fun t k => pre0 t (by
    show Steps _ _ _ (s₁.setTop (mkF m 0 #[rv ta, iv 0, rv da, iv oa, iv la] [])) _
    refine XS.aloadN X0.here hx rfl (hb hby d52_0) rfl rfl ?_
    refine XS.iloadN X0.here hx rfl (hb hby d52_1) rfl ?_
    refine XS.aloadN X0.here hx rfl (hb hby d52_2) rfl rfl ?_
    refine XS.iloadN X0.here hx rfl (hb hby d52_3) rfl ?_
    refine XS.iload X0.here hx rfl (hb hby d52_4) rfl ?_
    refine st1 _ ?_
    exact k)
  obtain ⟨fs, hr, hrun, hended, hW, hsame⟩ := X1.leave (v := none) (fun _ => rfl)
  refine ⟨_, _, pre2 _ ?_, hrun, hended, _, _, rfl, ?_, ⟨_, rfl⟩, hW, hsame.mono (by decide) (by decide)⟩
  · show Steps _ _ _ (T1.setTop (mkF m 9 #[rv ta, iv 0, rv da, iv oa, iv la] [])) _
    exact X1.returnOut hx Bd.returns (hb hby d52_9) hr
  · show (Qa Z da kd Nd (own_inf cs nn 0 qq vd)) h0 n0 _ T1.heap _
    exact ⟨rfl, N1, K1k, Vc1⟩
theorem rm_gb (l : Launch) (Z : State) (a0 : Array Value) (hw : ∀ d ∈ tables_1, d.before a0 Z = true) (ws : List Jvm.Cond) (sa : Addr) (da : Addr) (db : Int32) (cda : Int32) (h0 : Heap) (n0 : Nat) (Z0 : n0 ≤ h0.size) (Y0 : Old Z n0 h0) (zc : Int32) (fm : Value) (S : Sts Z Z.heap zc fm) (hcd : own_bo cda) (ta : Addr) (ka : ClassId) (Na : Int32) (va : List Value) (Xa : TX Z h0 sa ta ka Na va cda) (kd : ClassId) (Nd : Int32) (vd : List Value) (Ad : Arv Z h0 da kd .byte Nd vd (Value.int 0)) (gd : n0 ≤ da) (dp : Int32) (dn kn : Nat) (hgb : GBX db cda dp Na Nd dn kn) (hvl : dn + kn ≤ vd.length) (hva : va.length = kn)  :
    MFa l mN29 jdk_42_method_147_code 4 none ws (Room.mk 1 0 0 18) Z h0 n0 #[(.ref sa), (.ref da), (.int db), (.int cda)] (Qa Z da kd Nd (vd.take dn ++ va ++ vd.drop (dn + kn))) := by
  refine MetFree.of_bodySF (plainFor_of_name pn_13) hisR ?_
  intro p e s m args below meth c s₁ Bd hml0 hP hK
  obtain ⟨rfl, hZ, hh⟩ := hP
  have hx := Bd.exec
  have hby := Bd.bytes
  have hml : c.maxLocals = 4 := hml0
  have hown : s.vm.findClass "java/lang/String" = some m.cls := findClass_of_methodNamed Bd.named
  have X0 : Stand p l e (Room.mk 1 0 0 18) s m #[(.ref sa), (.ref da), (.int db), (.int cda)] below meth c s₁ [] 0 0 := Stand.of_body Bd
  have e0 : s₁.heap = h0 := by rw [← hh, Bd.state]; rfl
  have N0 := Fr.nil n0
  have pre0 : Pr p e below (s₁.setTop (mkF m 0 #[rv sa, rv da, iv db, iv cda] [])) (s₁.setTop (entryFrame m #[(.ref sa), (.ref da), (.int db), (.int cda)] 4)) := fun t k => castTop (by first | (simp [entryFrame, mkF, argsToLocals, Value.category]; done) | rfl) k
  obtain ⟨cq1, kq1, q1a, q1b, q1c⟩ := isOf hZ e0 Xa.1
  obtain ⟨_, _, ⟨T1, L1, k1, n1⟩, -, X1, ⟨Lc1, hQ1, l1, y1, z1⟩, st1⟩ := X0.virtualBack hx (y := mN0) (z := mN0) hown (mw hZ hw 74 rfl) (mw hZ hw 75 rfl) (notFace_of_selects (args := #[]) (mw hZ hw 77 rfl)) (mw hZ hw 77 rfl) (mw hZ hw 76 rfl) (by decide) (backOf (W := 0) (rm_cod l Z a0 hw [] sa h0 n0 (own_old0 Y0) Y0 zc fm S cda hcd ta ka Na va Xa ) hZ (ww hw 78 rfl) (ww hw 4 rfl) (by decide) (by decide)) q1a q1c (g := (mkF m 1 #[rv sa, rv da, iv db, iv cda] [(.ref sa)])) rfl (by rw [hml]; rfl) (Steps.refl _) (argsL := []) (rest := []) (lenOf pd_0 rfl) rfl own_z (hb hby d17_1) (fun _ _ => ⟨rfl, e0, (by decide : 0 + 0 ≤ _), (by decide : 0 + 0 ≤ _)⟩)
  dsimp only [Pt.U, Pt.locs, Pt.cells, Pt.slots] at X1 l1 y1 z1 st1 hQ1
  rw [y1, z1] at X1
  obtain ⟨rfl, N1q, e1⟩ := hQ1
  have N1 := own_fr l1 N0 N1q
  obtain ⟨T2, X2, e2, st2⟩ := getF X1 hx hZ hown (host := "") (Or.inl (ww hw 29 rfl)) Via.refl e1 Xa.2.2.1 (g := (mkF m 9 #[rv sa, rv da, iv db, iv cda] [(.ref sa)])) rfl rfl (hb hby d17_9)
  have pre3 : Pr p e below (T2.setTop (mkF m 18 #[rv sa, rv da, iv db, iv cda] [(.ref sa), (.int dp), (.ref da), (.int 0), (.ref ta)])) (s₁.setTop (entryFrame m #[(.ref sa), (.ref da), (.int db), (.int cda)] 4)) := fun t k => pre0 t (by
    show Steps _ _ _ (s₁.setTop (mkF m 0 #[rv sa, rv da, iv db, iv cda] [])) _
    refine XS.aloadN X0.here hx rfl (hb hby d17_0) rfl rfl ?_
    refine st1.trans ?_
    refine XS.iloadN X1.here hx rfl (hb hby d17_4) rfl ?_
    show Steps _ _ _ (T1.setTop (mkF m 5 #[rv sa, rv da, iv db, iv cda] [(.int cda), (.int cda)])) _
    refine XS.icmpNo X1.here hx rfl (hb hby d17_5) rfl (teq (rfl : cda = cda)).2 ?_
    refine XS.aloadN X1.here hx rfl (hb hby d17_8) rfl rfl ?_
    refine st2 _ ?_
    refine XT.iconstV X2.here hx rfl (0 : Int32) (hb hby d17_12) (by decide) ?_
    refine XS.aloadN X2.here hx rfl (hb hby d17_13) rfl rfl ?_
    refine XS.iloadN X2.here hx rfl (hb hby d17_14) rfl ?_
    refine XS.iloadN X2.here hx rfl (hb hby d17_15) rfl ?_
    refine XS.ishl X2.here hx rfl (hb hby d17_16) rfl ?_
    show Steps _ _ _ (T2.setTop (mkF m 17 #[rv sa, rv da, iv db, iv cda] [(.int (db <<< (cda &&& 31))), (.ref da), (.int 0), (.ref ta)])) _
    refine castTop (g' := (mkF m 17 #[rv sa, rv da, iv db, iv cda] [(.int dp), (.ref da), (.int 0), (.ref ta)])) (by rw [hgb.1]) ?_
    refine XS.aloadN X2.here hx rfl (hb hby d17_17) rfl rfl ?_
    exact k)
  obtain ⟨T4, X4, e4, st4⟩ := getF X2 hx hZ hown (host := "") (Or.inl (ww hw 29 rfl)) Via.refl e2 Xa.2.2.1 (g := (mkF m 18 #[rv sa, rv da, iv db, iv cda] [(.ref sa), (.int dp), (.ref da), (.int 0), (.ref ta)])) rfl rfl (hb hby d17_18)
  obtain ⟨cl5, Ar5, -, Sz5, nz5, -, -⟩ := id Xa.2.2.2
  obtain ⟨T6, h6, L6, X6, e6, N6, Kc6, V6, st6⟩ := cpA X4 hx hZ hown (ww hw 102 rfl) (ww hw 105 rfl) (ww hw 103 rfl) (ww hw 104 rfl) e4 (sp := (0 : Int32)) (dp := dp) (nn := Na) (us := va) Xa.2.2.2 Ad (Or.inl ⟨rfl, rfl⟩) (by decide) hgb.2.1 (own_len0 Xa.2.2.2) (own_h4 Na) (by rw [hgb.2.2.1, hgb.2.2.2.1]; exact hgb.2.2.2.2) (own_us hgb.2.2.2.1 hva) (by rw [hgb.2.2.1, hgb.2.2.2.1]; exact hvl) N1 gd (g := (mkF m 22 #[rv sa, rv da, iv db, iv cda] [(.int Na), (.int dp), (.ref da), (.int 0), (.ref ta)])) rfl (by rw [hml]; rfl) (rest := []) rfl (hb hby d17_22) (by decide) (W := 0) own_z (by decide)
  rw [hgb.2.2.1, hgb.2.2.2.1] at V6
  have K6k : Keep h0 h6 [da] := Keep.trans (Keep.refl h0 [da]) Kc6 (allS (Or.inl (List.mem_of_getElem? (i := 0) rfl)) all0)
  have pre7 : Pr p e below (T6.setTop (mkF m 43 #[rv sa, rv da, iv db, iv cda] [])) (s₁.setTop (entryFrame m #[(.ref sa), (.ref da), (.int db), (.int cda)] 4)) := fun t k => pre3 t (by
    show Steps _ _ _ (T2.setTop (mkF m 18 #[rv sa, rv da, iv db, iv cda] [(.ref sa), (.int dp), (.ref da), (.int 0), (.ref ta)])) _
    refine st4 _ ?_
    refine X4.arraylength hx (by rw [e4]; exact Ar5.1) (State.isArrayOf_alike hZ.alike Ar5.2.1) (g := (mkF m 21 #[rv sa, rv da, iv db, iv cda] [(.ref ta), (.int dp), (.ref da), (.int 0), (.ref ta)])) rfl rfl (hb hby d17_21) _ ?_
    rw [len_of Sz5 nz5]
    refine st6 _ ?_
    refine XS.goto X6.here hx rfl (pc0 := 25) (pc' := 43) rfl (hb hby d17_25) (by decide) (by decide) ?_
    exact k)
  obtain ⟨fs, hr, hrun, hended, hW, hsame⟩ := X6.leave (v := none) (fun _ => rfl)
  refine ⟨_, _, pre7 _ ?_, hrun, hended, _, _, rfl, ?_, ⟨_, rfl⟩, hW, hsame.mono (by decide) (by decide)⟩
  · show Steps _ _ _ (T6.setTop (mkF m 43 #[rv sa, rv da, iv db, iv cda] [])) _
    exact X6.returnOut hx Bd.returns (hb hby d17_43) hr
  · show (Qa Z da kd Nd (vd.take dn ++ va ++ vd.drop (dn + kn))) h0 n0 _ T6.heap _
    rw [e6]
    exact ⟨rfl, N6, K6k, V6⟩
theorem rm_gbW (l : Launch) (Z : State) (a0 : Array Value) (hw : ∀ d ∈ tables_1, d.before a0 Z = true) (ws : List Jvm.Cond) (sa : Addr) (da : Addr) (db : Int32) (h0 : Heap) (n0 : Nat) (Z0 : n0 ≤ h0.size) (Y0 : Old Z n0 h0) (zc : Int32) (fm : Value) (S : Sts Z Z.heap zc fm) (ta : Addr) (ka : ClassId) (Na : Int32) (va : List Value) (Xa : TX Z h0 sa ta ka Na va (0 : Int32)) (kd : ClassId) (Nd : Int32) (vd : List Value) (Ad : Arv Z h0 da kd .byte Nd vd (Value.int 0)) (gd : n0 ≤ da) (htd : ta ≠ da) (cs : List Int32) (ln : Int32) (qq nn nd : Nat) (hf : IF db Na Na Nd ln qq nn nd) (hvd : vd.length = nd) (hsrc : ∀ i, i < nn → va.getD i (Value.int 0) = .int (StrChars.lo8 (cs.getD i 0)) ∧ own_ch (cs.getD i 0))  :
    MFa l mN29 jdk_42_method_147_code 4 none ws (Room.mk 5 0 0 76) Z h0 n0 #[(.ref sa), (.ref da), (.int db), (.int 1)] (Qa Z da kd Nd (own_inf cs nn 0 qq vd)) := by
  refine MetFree.of_bodySF (plainFor_of_name pn_13) hisR ?_
  intro p e s m args below meth c s₁ Bd hml0 hP hK
  obtain ⟨rfl, hZ, hh⟩ := hP
  have hx := Bd.exec
  have hby := Bd.bytes
  have hml : c.maxLocals = 4 := hml0
  have hown : s.vm.findClass "java/lang/String" = some m.cls := findClass_of_methodNamed Bd.named
  have X0 : Stand p l e (Room.mk 5 0 0 76) s m #[(.ref sa), (.ref da), (.int db), (.int 1)] below meth c s₁ [] 0 0 := Stand.of_body Bd
  have e0 : s₁.heap = h0 := by rw [← hh, Bd.state]; rfl
  have N0 := Fr.nil n0
  have pre0 : Pr p e below (s₁.setTop (mkF m 0 #[rv sa, rv da, iv db, iv 1] [])) (s₁.setTop (entryFrame m #[(.ref sa), (.ref da), (.int db), (.int 1)] 4)) := fun t k => castTop (by first | (simp [entryFrame, mkF, argsToLocals, Value.category]; done) | rfl) k
  obtain ⟨cq1, kq1, q1a, q1b, q1c⟩ := isOf hZ e0 Xa.1
  obtain ⟨_, _, ⟨T1, L1, k1, n1⟩, -, X1, ⟨Lc1, hQ1, l1, y1, z1⟩, st1⟩ := X0.virtualBack hx (y := mN0) (z := mN0) hown (mw hZ hw 74 rfl) (mw hZ hw 75 rfl) (notFace_of_selects (args := #[]) (mw hZ hw 77 rfl)) (mw hZ hw 77 rfl) (mw hZ hw 76 rfl) (by decide) (backOf (W := 0) (rm_cod l Z a0 hw [] sa h0 n0 (own_old0 Y0) Y0 zc fm S (0 : Int32) (Or.inl rfl) ta ka Na va Xa ) hZ (ww hw 78 rfl) (ww hw 4 rfl) (by decide) (by decide)) q1a q1c (g := (mkF m 1 #[rv sa, rv da, iv db, iv 1] [(.ref sa)])) rfl (by rw [hml]; rfl) (Steps.refl _) (argsL := []) (rest := []) (lenOf pd_0 rfl) rfl own_z (hb hby d17_1) (fun _ _ => ⟨rfl, e0, (by decide : 0 + 0 ≤ _), (by decide : 0 + 0 ≤ _)⟩)
  dsimp only [Pt.U, Pt.locs, Pt.cells, Pt.slots] at X1 l1 y1 z1 st1 hQ1
  rw [y1, z1] at X1
  obtain ⟨rfl, N1q, e1⟩ := hQ1
  have N1 := own_fr l1 N0 N1q
  obtain ⟨T2, X2, e2, st2⟩ := getF X1 hx hZ hown (host := "") (Or.inl (ww hw 29 rfl)) Via.refl e1 Xa.2.2.1 (g := (mkF m 29 #[rv sa, rv da, iv db, iv 1] [(.ref sa)])) rfl rfl (hb hby d17_29)
  obtain ⟨T3, X3, e3, st3⟩ := getF X2 hx hZ hown (host := "") (Or.inl (ww hw 29 rfl)) Via.refl e2 Xa.2.2.1 (g := (mkF m 36 #[rv sa, rv da, iv db, iv 1] [(.ref sa), (.int db), (.ref da), (.int 0), (.ref ta)])) rfl rfl (hb hby d17_36)
  obtain ⟨cl4, Ar4, -, Sz4, nz4, -, -⟩ := id Xa.2.2.2
  have pre5 : Pr p e below (T3.setTop (mkF m 40 #[rv sa, rv da, iv db, iv 1] [(.int Na), (.int db), (.ref da), (.int 0), (.ref ta)])) (s₁.setTop (entryFrame m #[(.ref sa), (.ref da), (.int db), (.int 1)] 4)) := fun t k => pre0 t (by
    show Steps _ _ _ (s₁.setTop (mkF m 0 #[rv sa, rv da, iv db, iv 1] [])) _
    refine XS.aloadN X0.here hx rfl (hb hby d17_0) rfl rfl ?_
    refine st1.trans ?_
    refine XS.iloadN X1.here hx rfl (hb hby d17_4) rfl ?_
    show Steps _ _ _ (T1.setTop (mkF m 5 #[rv sa, rv da, iv db, iv 1] [(.int 1), (.int 0)])) _
    refine XS.icmpYes X1.here hx rfl (pc0 := 5) (pc' := 28) rfl (hb hby d17_5) rfl (feq (by decide : ¬ ((0 : Int32) = (1 : Int32)))).2 (by decide) (by decide) ?_
    refine XS.aloadN X1.here hx rfl (hb hby d17_28) rfl rfl ?_
    refine st2 _ ?_
    refine XT.iconstV X2.here hx rfl (0 : Int32) (hb hby d17_32) (by decide) ?_
    refine XS.aloadN X2.here hx rfl (hb hby d17_33) rfl rfl ?_
    refine XS.iloadN X2.here hx rfl (hb hby d17_34) rfl ?_
    refine XS.aloadN X2.here hx rfl (hb hby d17_35) rfl rfl ?_
    refine st3 _ ?_
    refine X3.arraylength hx (by rw [e3]; exact Ar4.1) (State.isArrayOf_alike hZ.alike Ar4.2.1) (g := (mkF m 39 #[rv sa, rv da, iv db, iv 1] [(.ref ta), (.int db), (.ref da), (.int 0), (.ref ta)])) rfl rfl (hb hby d17_39) _ ?_
    rw [len_of Sz4 nz4]
    exact k)
  obtain ⟨_, _, ⟨T6, L6, k6, n6⟩, -, X6, ⟨Lc6, hQ6, l6, y6, z6⟩, st6⟩ := Jvm.LawKit.callS X3 hx (y := mN28) hown (mw hZ hw 303 rfl) (mw hZ hw 286 rfl) (mw hZ hw 244 rfl) (mw hZ hw 287 rfl) (by decide) (backOf (W := 0) (rm_li l Z a0 hw [] ta da db Na h0 n0 (own_old0 Y0) Y0 zc fm S ka kd Na Nd ln va vd cs qq nn nd Xa.2.2.2 Ad gd htd hf hvd hsrc) hZ (ww hw 287 rfl) (ww hw 244 rfl) (by decide) (by decide)) (g := (mkF m 40 #[rv sa, rv da, iv db, iv 1] [(.int Na), (.int db), (.ref da), (.int 0), (.ref ta)])) rfl (by rw [hml]; rfl) (argsL := [(.ref ta), (.int 0), (.ref da), (.int db), (.int Na)]) (rest := []) (lenOf pd_15 rfl) rfl own_z (hb hby d17_40) (fun _ _ => ⟨rfl, e3, (by decide : 0 + 0 ≤ _), (by decide : 0 + 0 ≤ _)⟩)
  dsimp only [Pt.U, Pt.locs, Pt.cells, Pt.slots] at X6 l6 y6 z6 st6 hQ6
  rw [y6, z6] at X6
  obtain ⟨rfl, N6q, Kc6, Vc6⟩ := hQ6
  have N6 := own_fr l6 N1 N6q
  have K6k : Keep h0 T6.heap [da] := Keep.trans (Keep.refl h0 [da]) Kc6 (allS (Or.inl (List.mem_of_getElem? (i := 0) rfl)) all0)
  have pre7 : Pr p e below (T6.setTop (mkF m 43 #[rv sa, rv da, iv db, iv 1] [])) (s₁.setTop (entryFrame m #[(.ref sa), (.ref da), (.int db), (.int 1)] 4)) := fun t k => pre5 t (by
    show Steps _ _ _ (T3.setTop (mkF m 40 #[rv sa, rv da, iv db, iv 1] [(.int Na), (.int db), (.ref da), (.int 0), (.ref ta)])) _
    refine st6 _ ?_
    exact k)
  obtain ⟨fs, hr, hrun, hended, hW, hsame⟩ := X6.leave (v := none) (fun _ => rfl)
  refine ⟨_, _, pre7 _ ?_, hrun, hended, _, _, rfl, ?_, ⟨_, rfl⟩, hW, hsame.mono (by decide) (by decide)⟩
  · show Steps _ _ _ (T6.setTop (mkF m 43 #[rv sa, rv da, iv db, iv 1] [])) _
    exact X6.returnOut hx Bd.returns (hb hby d17_43) hr
  · show (Qa Z da kd Nd (own_inf cs nn 0 qq vd)) h0 n0 _ T6.heap _
    exact ⟨rfl, N6, K6k, Vc6⟩
theorem rm_iiE (l : Launch) (Z : State) (a0 : Array Value) (hw : ∀ d ∈ tables_1, d.before a0 Z = true) (ws : List Jvm.Cond) (rb : Addr) (sa : Addr) (h0 : Heap) (n0 : Nat) (Z0 : n0 ≤ h0.size) (Y0 : Old Z n0 h0) (zc : Int32) (fm : Value) (S : Sts Z Z.heap zc fm) (Nb cb : Int32) (tb : Addr) (kb : ClassId) (vb : List Value) (Bb : SB Z h0 rb tb kb Nb vb (0 : Int32) cb) (gr : n0 ≤ rb) (gt : n0 ≤ tb) (ta : Addr) (ka : ClassId) (Na : Int32) (va : List Value) (Xa : TX Z h0 sa ta ka Na va (0 : Int32))  :
    MFa l mN30 jdk_68_method_71_code 2 none ws (Room.mk 1 0 0 13) Z h0 n0 #[(.ref rb), (.ref sa)] (Qp none) := by
  refine MetFree.of_bodySF (plainFor_of_name pn_26) hisR ?_
  intro p e s m args below meth c s₁ Bd hml0 hP hK
  obtain ⟨rfl, hZ, hh⟩ := hP
  have hx := Bd.exec
  have hby := Bd.bytes
  have hml : c.maxLocals = 2 := hml0
  have hown : s.vm.findClass "java/lang/AbstractStringBuilder" = some m.cls := findClass_of_methodNamed Bd.named
  have X0 : Stand p l e (Room.mk 1 0 0 13) s m #[(.ref rb), (.ref sa)] below meth c s₁ [] 0 0 := Stand.of_body Bd
  have e0 : s₁.heap = h0 := by rw [← hh, Bd.state]; rfl
  have N0 := Fr.nil n0
  have pre0 : Pr p e below (s₁.setTop (mkF m 0 #[rv rb, rv sa] [])) (s₁.setTop (entryFrame m #[(.ref rb), (.ref sa)] 2)) := fun t k => castTop (by first | (simp [entryFrame, mkF, argsToLocals, Value.category]; done) | rfl) k
  obtain ⟨T1, X1, e1, st1⟩ := getS2 X0 hx hZ hown (host := "") (Or.inl (ww hw 51 rfl)) Via.refl e0 (S.1.ext Y0.2) (g := (mkF m 0 #[rv rb, rv sa] [])) rfl (hb hby d16_0)
  obtain ⟨T2, X2, e2, st2⟩ := getF X1 hx hZ hown (host := "") (Or.inl (ww hw 54 rfl)) Via.refl e1 Bb.2.2.1 (g := (mkF m 7 #[rv rb, rv sa] [(.ref rb)])) rfl rfl (hb hby d16_7)
  obtain ⟨cq3, kq3, q3a, q3b, q3c⟩ := isOf hZ e2 Xa.1
  obtain ⟨_, _, ⟨T3, L3, k3, n3⟩, -, X3, ⟨Lc3, hQ3, l3, y3, z3⟩, st3⟩ := X2.virtualBack hx (y := mN0) (z := mN0) hown (mw hZ hw 96 rfl) (mw hZ hw 75 rfl) (notFace_of_selects (args := #[]) (mw hZ hw 77 rfl)) (mw hZ hw 77 rfl) (mw hZ hw 76 rfl) (by decide) (backOf (W := 1) (rm_cod l Z a0 hw [] sa h0 n0 (own_old0 Y0) Y0 zc fm S (0 : Int32) (Or.inl rfl) ta ka Na va Xa ) hZ (ww hw 78 rfl) (ww hw 4 rfl) (by decide) (by decide)) q3a q3c (g := (mkF m 11 #[rv rb, rv sa] [(.ref sa), (.int 0)])) rfl (by rw [hml]; rfl) (Steps.refl _) (argsL := []) (rest := [(.int 0)]) (lenOf pd_0 rfl) rfl own_z (hb hby d16_11) (fun _ _ => ⟨rfl, e2, (by decide : 0 + 0 ≤ _), (by decide : 0 + 0 ≤ _)⟩)
  dsimp only [Pt.U, Pt.locs, Pt.cells, Pt.slots] at X3 l3 y3 z3 st3 hQ3
  rw [y3, z3] at X3
  obtain ⟨rfl, N3q, e3⟩ := hQ3
  have N3 := own_fr l3 N0 N3q
  have pre4 : Pr p e below (T3.setTop (mkF m 21 #[rv rb, rv sa] [])) (s₁.setTop (entryFrame m #[(.ref rb), (.ref sa)] 2)) := fun t k => pre0 t (by
    show Steps _ _ _ (s₁.setTop (mkF m 0 #[rv rb, rv sa] [])) _
    refine st1 _ ?_
    show Steps _ _ _ (T1.setTop (mkF m 3 #[rv rb, rv sa] [(.int zc)])) _
    refine XS.ifNo X1.here hx rfl (hb hby d16_3) rfl ((if0 _ _).trans (feq S.2.2.2.2.2.1).1) ?_
    refine XS.aloadN X1.here hx rfl (hb hby d16_6) rfl rfl ?_
    refine st2 _ ?_
    refine XS.aloadN X2.here hx rfl (hb hby d16_10) rfl rfl ?_
    refine st3.trans ?_
    show Steps _ _ _ (T3.setTop (mkF m 14 #[rv rb, rv sa] [(.int 0), (.int 0)])) _
    refine XS.icmpYes X3.here hx rfl (pc0 := 14) (pc' := 21) rfl (hb hby d16_14) rfl (teq (by decide : ((0 : Int32) = (0 : Int32)))).1 (by decide) (by decide) ?_
    exact k)
  obtain ⟨fs, hr, hrun, hended, hW, hsame⟩ := X3.leave (v := none) (fun _ => rfl)
  refine ⟨_, _, pre4 _ ?_, hrun, hended, _, _, rfl, ?_, ⟨_, rfl⟩, hW, hsame.mono (by decide) (by decide)⟩
  · show Steps _ _ _ (T3.setTop (mkF m 21 #[rv rb, rv sa] [])) _
    exact X3.returnOut hx Bd.returns (hb hby d16_21) hr
  · show (Qp none) h0 n0 _ T3.heap _
    rw [e3]
    exact ⟨rfl, N3, rfl⟩
theorem rm_ifW (l : Launch) (Z : State) (a0 : Array Value) (hw : ∀ d ∈ tables_1, d.before a0 Z = true) (ws : List Jvm.Cond) (rb : Addr) (h0 : Heap) (n0 : Nat) (Z0 : n0 ≤ h0.size) (Y0 : Old Z n0 h0) (zc : Int32) (fm : Value) (S : Sts Z Z.heap zc fm) (Nb cb : Int32) (tb : Addr) (kb : ClassId) (vb : List Value) (Bb : SB Z h0 rb tb kb Nb vb (1 : Int32) cb) (gr : n0 ≤ rb) (gt : n0 ≤ tb)  :
    MFa l mN31 jdk_68_method_11_code 2 none ws (Room.mk 1 0 0 12) Z h0 n0 #[(.ref rb)] (Qp none) := by
  refine MetFree.of_bodySF (plainFor_of_name pn_26) hisR ?_
  intro p e s m args below meth c s₁ Bd hml0 hP hK
  obtain ⟨rfl, hZ, hh⟩ := hP
  have hx := Bd.exec
  have hby := Bd.bytes
  have hml : c.maxLocals = 2 := hml0
  have hown : s.vm.findClass "java/lang/AbstractStringBuilder" = some m.cls := findClass_of_methodNamed Bd.named
  have X0 : Stand p l e (Room.mk 1 0 0 12) s m #[(.ref rb)] below meth c s₁ [] 0 0 := Stand.of_body Bd
  have e0 : s₁.heap = h0 := by rw [← hh, Bd.state]; rfl
  have N0 := Fr.nil n0
  have pre0 : Pr p e below (s₁.setTop (mkF m 0 #[rv rb, .unset] [])) (s₁.setTop (entryFrame m #[(.ref rb)] 2)) := fun t k => castTop (by first | (simp [entryFrame, mkF, argsToLocals, Value.category]; done) | rfl) k
  obtain ⟨cq1, kq1, q1a, q1b, q1c⟩ := isOf hZ e0 Bb.1
  obtain ⟨_, _, ⟨T1, L1, k1, n1⟩, -, X1, ⟨Lc1, hQ1, l1, y1, z1⟩, st1⟩ := X0.virtualBack hx (y := mN7) (z := mN7) hown (mw hZ hw 283 rfl) (mw hZ hw 156 rfl) (notFace_of_selects (args := #[]) (mw hZ hw 158 rfl)) (mw hZ hw 158 rfl) (mw hZ hw 157 rfl) (by decide) (backOf (W := 0) (rm_bisl1 l Z a0 hw [] rb h0 n0 (own_old0 Y0) Y0 zc fm S Nb cb tb kb vb ⟨Bb.1, Bb.2.1, Bb.2.2.1, Bb.2.2.2.1, Bb.2.2.2.2.1, Bb.2.2.2.2.2.1, Bb.2.2.2.2.2.2⟩ gr gt ) hZ (ww hw 159 rfl) (ww hw 48 rfl) (by decide) (by decide)) q1a q1c (g := (mkF m 1 #[rv rb, .unset] [(.ref rb)])) rfl (by rw [hml]; rfl) (Steps.refl _) (argsL := []) (rest := []) (lenOf pd_12 rfl) rfl own_z (hb hby d51_1) (fun _ _ => ⟨rfl, e0, (by decide : 0 + 0 ≤ _), (by decide : 0 + 0 ≤ _)⟩)
  dsimp only [Pt.U, Pt.locs, Pt.cells, Pt.slots] at X1 l1 y1 z1 st1 hQ1
  rw [y1, z1] at X1
  obtain ⟨rfl, N1q, e1⟩ := hQ1
  have N1 := own_fr l1 N0 N1q
  have pre2 : Pr p e below (T1.setTop (mkF m 7 #[rv rb, .unset] [])) (s₁.setTop (entryFrame m #[(.ref rb)] 2)) := fun t k => pre0 t (by
    show Steps _ _ _ (s₁.setTop (mkF m 0 #[rv rb, .unset] [])) _
    refine XS.aloadN X0.here hx rfl (hb hby d51_0) rfl rfl ?_
    refine st1.trans ?_
    show Steps _ _ _ (T1.setTop (mkF m 4 #[rv rb, .unset] [(.int 0)])) _
    refine XS.ifNo X1.here hx rfl (hb hby d51_4) rfl ((if0 _ _).trans (teq (by decide : ((0 : Int32) = (0 : Int32)))).2) ?_
    exact k)
  obtain ⟨fs, hr, hrun, hended, hW, hsame⟩ := X1.leave (v := none) (fun _ => rfl)
  refine ⟨_, _, pre2 _ ?_, hrun, hended, _, _, rfl, ?_, ⟨_, rfl⟩, hW, hsame.mono (by decide) (by decide)⟩
  · show Steps _ _ _ (T1.setTop (mkF m 7 #[rv rb, .unset] [])) _
    exact X1.returnOut hx Bd.returns (hb hby d51_7) hr
  · show (Qp none) h0 n0 _ T1.heap _
    rw [e1]
    exact ⟨rfl, N1, rfl⟩
theorem rm_iiW (l : Launch) (Z : State) (a0 : Array Value) (hw : ∀ d ∈ tables_1, d.before a0 Z = true) (ws : List Jvm.Cond) (rb : Addr) (sa : Addr) (h0 : Heap) (n0 : Nat) (Z0 : n0 ≤ h0.size) (Y0 : Old Z n0 h0) (zc : Int32) (fm : Value) (S : Sts Z Z.heap zc fm) (Nb cb : Int32) (tb : Addr) (kb : ClassId) (vb : List Value) (Bb : SB Z h0 rb tb kb Nb vb (1 : Int32) cb) (gr : n0 ≤ rb) (gt : n0 ≤ tb) (ta : Addr) (ka : ClassId) (Na : Int32) (va : List Value) (Xa : TX Z h0 sa ta ka Na va (0 : Int32))  :
    MFa l mN30 jdk_68_method_71_code 2 none ws (Room.mk 2 0 0 25) Z h0 n0 #[(.ref rb), (.ref sa)] (Qp none) := by
  refine MetFree.of_bodySF (plainFor_of_name pn_26) hisR ?_
  intro p e s m args below meth c s₁ Bd hml0 hP hK
  obtain ⟨rfl, hZ, hh⟩ := hP
  have hx := Bd.exec
  have hby := Bd.bytes
  have hml : c.maxLocals = 2 := hml0
  have hown : s.vm.findClass "java/lang/AbstractStringBuilder" = some m.cls := findClass_of_methodNamed Bd.named
  have X0 : Stand p l e (Room.mk 2 0 0 25) s m #[(.ref rb), (.ref sa)] below meth c s₁ [] 0 0 := Stand.of_body Bd
  have e0 : s₁.heap = h0 := by rw [← hh, Bd.state]; rfl
  have N0 := Fr.nil n0
  have pre0 : Pr p e below (s₁.setTop (mkF m 0 #[rv rb, rv sa] [])) (s₁.setTop (entryFrame m #[(.ref rb), (.ref sa)] 2)) := fun t k => castTop (by first | (simp [entryFrame, mkF, argsToLocals, Value.category]; done) | rfl) k
  obtain ⟨T1, X1, e1, st1⟩ := getS2 X0 hx hZ hown (host := "") (Or.inl (ww hw 51 rfl)) Via.refl e0 (S.1.ext Y0.2) (g := (mkF m 0 #[rv rb, rv sa] [])) rfl (hb hby d16_0)
  obtain ⟨T2, X2, e2, st2⟩ := getF X1 hx hZ hown (host := "") (Or.inl (ww hw 54 rfl)) Via.refl e1 Bb.2.2.1 (g := (mkF m 7 #[rv rb, rv sa] [(.ref rb)])) rfl rfl (hb hby d16_7)
  obtain ⟨cq3, kq3, q3a, q3b, q3c⟩ := isOf hZ e2 Xa.1
  obtain ⟨_, _, ⟨T3, L3, k3, n3⟩, -, X3, ⟨Lc3, hQ3, l3, y3, z3⟩, st3⟩ := X2.virtualBack hx (y := mN0) (z := mN0) hown (mw hZ hw 96 rfl) (mw hZ hw 75 rfl) (notFace_of_selects (args := #[]) (mw hZ hw 77 rfl)) (mw hZ hw 77 rfl) (mw hZ hw 76 rfl) (by decide) (backOf (W := 1) (rm_cod l Z a0 hw [] sa h0 n0 (own_old0 Y0) Y0 zc fm S (0 : Int32) (Or.inl rfl) ta ka Na va Xa ) hZ (ww hw 78 rfl) (ww hw 4 rfl) (by decide) (by decide)) q3a q3c (g := (mkF m 11 #[rv rb, rv sa] [(.ref sa), (.int 1)])) rfl (by rw [hml]; rfl) (Steps.refl _) (argsL := []) (rest := [(.int 1)]) (lenOf pd_0 rfl) rfl own_z (hb hby d16_11) (fun _ _ => ⟨rfl, e2, (by decide : 0 + 0 ≤ _), (by decide : 0 + 0 ≤ _)⟩)
  dsimp only [Pt.U, Pt.locs, Pt.cells, Pt.slots] at X3 l3 y3 z3 st3 hQ3
  rw [y3, z3] at X3
  obtain ⟨rfl, N3q, e3⟩ := hQ3
  have N3 := own_fr l3 N0 N3q
  obtain ⟨cq4, kq4, q4a, q4b, q4c⟩ := isOf hZ e3 Bb.1
  obtain ⟨_, _, ⟨T4, L4, k4, n4⟩, -, X4, ⟨Lc4, hQ4, l4, y4, z4⟩, st4⟩ := X3.virtualBack hx (y := mN31) (z := mN31) hown (mw hZ hw 278 rfl) (mvT hZ (own_decl (ww hw 279 rfl) (ww hw 282 rfl))) (notFace_of_selects (args := #[]) (mw hZ hw 281 rfl)) (mw hZ hw 281 rfl) (mw hZ hw 279 rfl) (by decide) (backOf (W := 0) (rm_ifW l Z a0 hw [] rb h0 n0 (own_old0 Y0) Y0 zc fm S Nb cb tb kb vb ⟨Bb.1, Bb.2.1, Bb.2.2.1, Bb.2.2.2.1, Bb.2.2.2.2.1, Bb.2.2.2.2.2.1, Bb.2.2.2.2.2.2⟩ gr gt ) hZ (ww hw 282 rfl) (ww hw 48 rfl) (by decide) (by decide)) q4a q4c (g := (mkF m 18 #[rv rb, rv sa] [(.ref rb)])) rfl (by rw [hml]; rfl) (Steps.refl _) (argsL := []) (rest := []) (lenOf pd_16 rfl) rfl own_z (hb hby d16_18) (fun _ _ => ⟨rfl, e3, (by decide : 0 + 0 ≤ _), (by decide : 0 + 0 ≤ _)⟩)
  dsimp only [Pt.U, Pt.locs, Pt.cells, Pt.slots] at X4 l4 y4 z4 st4 hQ4
  rw [y4, z4] at X4
  obtain ⟨rfl, N4q, e4⟩ := hQ4
  have N4 := own_fr l4 N3 N4q
  have pre5 : Pr p e below (T4.setTop (mkF m 21 #[rv rb, rv sa] [])) (s₁.setTop (entryFrame m #[(.ref rb), (.ref sa)] 2)) := fun t k => pre0 t (by
    show Steps _ _ _ (s₁.setTop (mkF m 0 #[rv rb, rv sa] [])) _
    refine st1 _ ?_
    show Steps _ _ _ (T1.setTop (mkF m 3 #[rv rb, rv sa] [(.int zc)])) _
    refine XS.ifNo X1.here hx rfl (hb hby d16_3) rfl ((if0 _ _).trans (feq S.2.2.2.2.2.1).1) ?_
    refine XS.aloadN X1.here hx rfl (hb hby d16_6) rfl rfl ?_
    refine st2 _ ?_
    refine XS.aloadN X2.here hx rfl (hb hby d16_10) rfl rfl ?_
    refine st3.trans ?_
    show Steps _ _ _ (T3.setTop (mkF m 14 #[rv rb, rv sa] [(.int 0), (.int 1)])) _
    refine XS.icmpNo X3.here hx rfl (hb hby d16_14) rfl (feq (by decide : ¬ ((1 : Int32) = (0 : Int32)))).1 ?_
    refine XS.aloadN X3.here hx rfl (hb hby d16_17) rfl rfl ?_
    refine st4.trans ?_
    exact k)
  obtain ⟨fs, hr, hrun, hended, hW, hsame⟩ := X4.leave (v := none) (fun _ => rfl)
  refine ⟨_, _, pre5 _ ?_, hrun, hended, _, _, rfl, ?_, ⟨_, rfl⟩, hW, hsame.mono (by decide) (by decide)⟩
  · show Steps _ _ _ (T4.setTop (mkF m 21 #[rv rb, rv sa] [])) _
    exact X4.returnOut hx Bd.returns (hb hby d16_21) hr
  · show (Qp none) h0 n0 _ T4.heap _
    rw [e4]
    exact ⟨rfl, N4, rfl⟩
theorem rm_ifM (l : Launch) (Z : State) (a0 : Array Value) (hw : ∀ d ∈ tables_1, d.before a0 Z = true) (ws : List Jvm.Cond) (rb : Addr) (h0 : Heap) (n0 : Nat) (Z0 : n0 ≤ h0.size) (Y0 : Old Z n0 h0) (zc : Int32) (fm : Value) (S : Sts Z Z.heap zc fm) (cb : Int32) (tb : Addr) (kb : ClassId) (vb : List Value) (Bb : SB Z h0 rb tb kb (16 : Int32) vb (0 : Int32) cb) (gr : n0 ≤ rb) (gt : n0 ≤ tb) (cs : List Int32) (nn : Nat) (hf : IF (0 : Int32) cb (16 : Int32) (32 : Int32) (16 : Int32) 0 nn 32) (hsrc : ∀ i, i < nn → vb.getD i (Value.int 0) = .int (StrChars.lo8 (cs.getD i 0)) ∧ own_ch (cs.getD i 0))  :
    MFa l mN31 jdk_68_method_11_code 2 none ws (Room.mk 5 1 32 76) Z h0 n0 #[(.ref rb)] (Qg Z rb (32 : Int32) (own_inf cs nn 0 0 (List.replicate 32 (Value.int 0))) (1 : Int32) cb none) := by
  refine MetFree.of_bodySF (plainFor_of_name pn_26) hisR ?_
  intro p e s m args below meth c s₁ Bd hml0 hP hK
  obtain ⟨rfl, hZ, hh⟩ := hP
  have hx := Bd.exec
  have hby := Bd.bytes
  have hml : c.maxLocals = 2 := hml0
  have hown : s.vm.findClass "java/lang/AbstractStringBuilder" = some m.cls := findClass_of_methodNamed Bd.named
  have X0 : Stand p l e (Room.mk 5 1 32 76) s m #[(.ref rb)] below meth c s₁ [] 0 0 := Stand.of_body Bd
  have e0 : s₁.heap = h0 := by rw [← hh, Bd.state]; rfl
  have N0 := Fr.nil n0
  have pre0 : Pr p e below (s₁.setTop (mkF m 0 #[rv rb, .unset] [])) (s₁.setTop (entryFrame m #[(.ref rb)] 2)) := fun t k => castTop (by first | (simp [entryFrame, mkF, argsToLocals, Value.category]; done) | rfl) k
  obtain ⟨cq1, kq1, q1a, q1b, q1c⟩ := isOf hZ e0 Bb.1
  obtain ⟨_, _, ⟨T1, L1, k1, n1⟩, -, X1, ⟨Lc1, hQ1, l1, y1, z1⟩, st1⟩ := X0.virtualBack hx (y := mN7) (z := mN7) hown (mw hZ hw 283 rfl) (mw hZ hw 156 rfl) (notFace_of_selects (args := #[]) (mw hZ hw 158 rfl)) (mw hZ hw 158 rfl) (mw hZ hw 157 rfl) (by decide) (backOf (W := 0) (rm_bisl0 l Z a0 hw [] rb h0 n0 (own_old0 Y0) Y0 zc fm S (16 : Int32) cb tb kb vb ⟨Bb.1, Bb.2.1, Bb.2.2.1, Bb.2.2.2.1, Bb.2.2.2.2.1, Bb.2.2.2.2.2.1, Bb.2.2.2.2.2.2⟩ gr gt ) hZ (ww hw 159 rfl) (ww hw 48 rfl) (by decide) (by decide)) q1a q1c (g := (mkF m 1 #[rv rb, .unset] [(.ref rb)])) rfl (by rw [hml]; rfl) (Steps.refl _) (argsL := []) (rest := []) (lenOf pd_12 rfl) rfl own_z (hb hby d51_1) (fun _ _ => ⟨rfl, e0, (by decide : 0 + 0 ≤ _), (by decide : 0 + 0 ≤ _)⟩)
  dsimp only [Pt.U, Pt.locs, Pt.cells, Pt.slots] at X1 l1 y1 z1 st1 hQ1
  rw [y1, z1] at X1
  obtain ⟨rfl, N1q, e1⟩ := hQ1
  have N1 := own_fr l1 N0 N1q
  obtain ⟨T2, X2, e2, st2⟩ := getF X1 hx hZ hown (host := "") (Or.inl (ww hw 52 rfl)) Via.refl e1 Bb.2.1 (g := (mkF m 9 #[rv rb, .unset] [(.ref rb)])) rfl rfl (hb hby d51_9)
  obtain ⟨cl3, Ar3, -, Sz3, nz3, -, -⟩ := id Bb.2.2.2.2.2.1
  obtain ⟨_, _, ⟨T4, L4, k4, n4⟩, -, X4, ⟨Lc4, hQ4, l4, y4, z4⟩, st4⟩ := Jvm.LawKit.callS X2 hx (y := mN17) hown (mw hZ hw 284 rfl) (mw hZ hw 263 rfl) (mw hZ hw 18 rfl) (mw hZ hw 264 rfl) (by decide) (backOf (W := 0) (rm_nbf l Z a0 hw [] (16 : Int32) h0 n0 (own_old0 Y0) Y0 zc fm S (32 : Int32) 32 (by decide)) hZ (ww hw 264 rfl) (ww hw 18 rfl) (by decide) (by decide)) (g := (mkF m 13 #[rv rb, .unset] [(.int 16)])) rfl (by rw [hml]; rfl) (argsL := [(.int 16)]) (rest := []) (lenOf pd_17 rfl) rfl own_z (hb hby d51_13) (fun _ _ => ⟨rfl, e2, (by decide : 0 + 1 ≤ _), (by decide : 0 + 32 ≤ _)⟩)
  dsimp only [Pt.U, Pt.locs, Pt.cells, Pt.slots] at X4 l4 y4 z4 st4 hQ4
  rw [y4, z4] at X4
  obtain ⟨u4, ku4, rfl, N4q, E4, zz4, V4⟩ := hQ4
  have N4 := own_fr l4 N1 N4q
  have ne_rb_u4 : rb ≠ u4 := Nat.ne_of_lt (Nat.lt_of_lt_of_le Bb.1.lt zz4)
  have ne_tb_u4 : tb ≠ u4 := Nat.ne_of_lt (Nat.lt_of_lt_of_le Bb.2.2.2.2.2.1.lt zz4)
  have z_u4 : h0.size ≤ u4 := Nat.le_trans (Nat.le_refl h0.size) zz4
  have g_u4 : n0 ≤ u4 := Nat.le_trans Z0 z_u4
  have E4_rb := Bb.1.ext E4
  have V4_tb := Bb.2.2.2.2.2.1.ext E4
  have F4_rb_value := Bb.2.1.ext E4
  have F4_rb_coder := Bb.2.2.1.ext E4
  have F4_rb_count := Bb.2.2.2.1.ext E4
  have F4_rb_maybeLatin1 := Bb.2.2.2.2.1.ext E4
  have Y4 := Old.ext Y0 E4
  have K4 : Keep h0 T4.heap [rb] := (Keep.refl h0 [rb]).ext E4
  obtain ⟨T5, X5, e5, st5⟩ := getF X4 hx hZ hown (host := "") (Or.inl (ww hw 52 rfl)) Via.refl rfl F4_rb_value (g := (mkF m 18 #[rv rb, rv u4] [(.ref rb)])) rfl rfl (hb hby d51_18)
  have pre6 : Pr p e below (T5.setTop (mkF m 23 #[rv rb, rv u4] [(.ref u4), (.int 0), (.ref tb)])) (s₁.setTop (entryFrame m #[(.ref rb)] 2)) := fun t k => pre0 t (by
    show Steps _ _ _ (s₁.setTop (mkF m 0 #[rv rb, .unset] [])) _
    refine XS.aloadN X0.here hx rfl (hb hby d51_0) rfl rfl ?_
    refine st1.trans ?_
    show Steps _ _ _ (T1.setTop (mkF m 4 #[rv rb, .unset] [(.int 1)])) _
    refine XS.ifYes X1.here hx rfl (pc0 := 4) (pc' := 8) rfl (hb hby d51_4) rfl ((if0 _ _).trans (feq (by decide : ¬ ((1 : Int32) = (0 : Int32)))).2) (by decide) (by decide) ?_
    refine XS.aloadN X1.here hx rfl (hb hby d51_8) rfl rfl ?_
    refine st2 _ ?_
    refine X2.arraylength hx (by rw [e2]; exact Ar3.1) (State.isArrayOf_alike hZ.alike Ar3.2.1) (g := (mkF m 12 #[rv rb, .unset] [(.ref tb)])) rfl rfl (hb hby d51_12) _ ?_
    rw [len_of Sz3 nz3]
    refine st4 _ ?_
    refine XS.astoreN X4.here hx rfl (hb hby d51_16) rfl rfl (l' := #[rv rb, rv u4]) rfl ?_
    refine XS.aloadN X4.here hx rfl (hb hby d51_17) rfl rfl ?_
    refine st5 _ ?_
    refine XT.iconstV X5.here hx rfl (0 : Int32) (hb hby d51_21) (by decide) ?_
    refine XS.aloadN X5.here hx rfl (hb hby d51_22) rfl rfl ?_
    exact k)
  obtain ⟨T7, X7, e7, st7⟩ := getF X5 hx hZ hown (host := "") (Or.inl (ww hw 79 rfl)) Via.refl e5 F4_rb_count (g := (mkF m 25 #[rv rb, rv u4] [(.ref rb), (.int 0), (.ref u4), (.int 0), (.ref tb)])) rfl rfl (hb hby d51_25)
  obtain ⟨_, _, ⟨T8, L8, k8, n8⟩, -, X8, ⟨Lc8, hQ8, l8, y8, z8⟩, st8⟩ := Jvm.LawKit.callS X7 hx (y := mN28) hown (mw hZ hw 285 rfl) (mw hZ hw 286 rfl) (mw hZ hw 244 rfl) (mw hZ hw 287 rfl) (by decide) (backOf (W := 0) (rm_li l Z a0 hw [] tb u4 (0 : Int32) cb T4.heap n0 (own_old0 Y4) Y4 zc fm S kb ku4 (16 : Int32) (32 : Int32) (16 : Int32) vb (List.replicate 32 (Value.int 0)) cs 0 nn 32 V4_tb V4 g_u4 ne_tb_u4 hf (by rfl) hsrc) hZ (ww hw 287 rfl) (ww hw 244 rfl) (by decide) (by decide)) (g := (mkF m 28 #[rv rb, rv u4] [(.int cb), (.int 0), (.ref u4), (.int 0), (.ref tb)])) rfl (by rw [hml]; rfl) (argsL := [(.ref tb), (.int 0), (.ref u4), (.int 0), (.int cb)]) (rest := []) (lenOf pd_15 rfl) rfl own_z (hb hby d51_28) (fun _ _ => ⟨rfl, e7, (by decide : 1 + 0 ≤ _), (by decide : 32 + 0 ≤ _)⟩)
  dsimp only [Pt.U, Pt.locs, Pt.cells, Pt.slots] at X8 l8 y8 z8 st8 hQ8
  rw [y8, z8] at X8
  obtain ⟨rfl, N8q, Kc8, Vc8⟩ := hQ8
  have N8 := own_fr l8 N4 N8q
  have E8_rb := E4_rb.keep Kc8
  have F8_rb_value := F4_rb_value.keep Kc8 (ninS ne_rb_u4 nin0)
  have F8_rb_coder := F4_rb_coder.keep Kc8 (ninS ne_rb_u4 nin0)
  have F8_rb_count := F4_rb_count.keep Kc8 (ninS ne_rb_u4 nin0)
  have F8_rb_maybeLatin1 := F4_rb_maybeLatin1.keep Kc8 (ninS ne_rb_u4 nin0)
  have K8k : Keep h0 T8.heap [rb] := Keep.trans K4 Kc8 (allS (Or.inr z_u4) all0)
  obtain ⟨T9, h9, X9, e9, W9, st9⟩ := putF X8 hx hZ hown (host := "") (Or.inl (ww hw 52 rfl)) Via.refl rfl F8_rb_value E8_rb (Or.inl (ww hw 53 rfl)) (ww hw 39 rfl) (ty := (.array .byte)) (by decide) rfl rfl (g := (mkF m 33 #[rv rb, rv u4] [(.ref u4), (.ref rb)])) rfl rfl (hb hby d51_33)
  have E9_rb := E8_rb.wr W9
  have V9_u4 := Vc8.other W9 (Ne.symm ne_rb_u4)
  have F9_rb_value := F8_rb_value.same W9
  have F9_rb_coder := F8_rb_coder.other W9 (Or.inr (slot_ne (Or.inl (ww hw 55 rfl)) (Or.inl (ww hw 53 rfl)) (by decide) (t := .byte) (t' := (.array .byte)) (by decide) (by decide)))
  have F9_rb_count := F8_rb_count.other W9 (Or.inr (slot_ne (Or.inl (ww hw 80 rfl)) (Or.inl (ww hw 53 rfl)) (by decide) (t := .int) (t' := (.array .byte)) (by decide) (by decide)))
  have F9_rb_maybeLatin1 := F8_rb_maybeLatin1.other W9 (Or.inr (slot_ne (Or.inl (ww hw 305 rfl)) (Or.inl (ww hw 53 rfl)) (by decide) (t := .boolean) (t' := (.array .byte)) (by decide) (by decide)))
  have K9 : Keep h0 h9 [rb] := K8k.wr W9 (Or.inl (List.mem_of_getElem? (i := 0) rfl))
  have N9 := Fr.snoc X9 N8 gr
  obtain ⟨T10, h10, X10, e10, W10, st10⟩ := putFN X9 hx hZ hown (ww hw 54 rfl) Via.refl e9 F9_rb_coder E9_rb (Or.inl (ww hw 55 rfl)) (ww hw 39 rfl) (ty := .byte) (v' := (.int 1)) (by decide) rfl rfl (g := (mkF m 38 #[rv rb, rv u4] [(.int 1), (.ref rb)])) rfl rfl (hb hby d51_38)
  have E10_rb := E9_rb.wr W10
  have V10_u4 := V9_u4.other W10 (Ne.symm ne_rb_u4)
  have F10_rb_value := F9_rb_value.other W10 (Or.inr (slot_ne (Or.inl (ww hw 53 rfl)) (Or.inl (ww hw 55 rfl)) (by decide) (t := (.array .byte)) (t' := .byte) (by decide) (by decide)))
  have F10_rb_coder := F9_rb_coder.same W10
  have F10_rb_count := F9_rb_count.other W10 (Or.inr (slot_ne (Or.inl (ww hw 80 rfl)) (Or.inl (ww hw 55 rfl)) (by decide) (t := .int) (t' := .byte) (by decide) (by decide)))
  have F10_rb_maybeLatin1 := F9_rb_maybeLatin1.other W10 (Or.inr (slot_ne (Or.inl (ww hw 305 rfl)) (Or.inl (ww hw 55 rfl)) (by decide) (t := .boolean) (t' := .byte) (by decide) (by decide)))
  have K10 : Keep h0 h10 [rb] := K9.wr W10 (Or.inl (List.mem_of_getElem? (i := 0) rfl))
  have N10 := Fr.snoc X10 N9 gr
  have pre11 : Pr p e below (T10.setTop (mkF m 41 #[rv rb, rv u4] [])) (s₁.setTop (entryFrame m #[(.ref rb)] 2)) := fun t k => pre6 t (by
    show Steps _ _ _ (T5.setTop (mkF m 23 #[rv rb, rv u4] [(.ref u4), (.int 0), (.ref tb)])) _
    refine XT.iconstV X5.here hx rfl (0 : Int32) (hb hby d51_23) (by decide) ?_
    refine XS.aloadN X5.here hx rfl (hb hby d51_24) rfl rfl ?_
    refine st7 _ ?_
    refine st8 _ ?_
    refine XS.aloadN X8.here hx rfl (hb hby d51_31) rfl rfl ?_
    refine XS.aloadN X8.here hx rfl (hb hby d51_32) rfl rfl ?_
    refine st9 _ ?_
    refine XS.aloadN X9.here hx rfl (hb hby d51_36) rfl rfl ?_
    refine XT.iconstV X9.here hx rfl (1 : Int32) (hb hby d51_37) (by decide) ?_
    refine st10 _ ?_
    exact k)
  obtain ⟨fs, hr, hrun, hended, hW, hsame⟩ := X10.leave (v := none) (fun _ => rfl)
  refine ⟨_, _, pre11 _ ?_, hrun, hended, _, _, rfl, ?_, ⟨_, rfl⟩, hW, hsame.mono (by decide) (by decide)⟩
  · show Steps _ _ _ (T10.setTop (mkF m 41 #[rv rb, rv u4] [])) _
    exact X10.returnOut hx Bd.returns (hb hby d51_41) hr
  · show (Qg Z rb (32 : Int32) (own_inf cs nn 0 0 (List.replicate 32 (Value.int 0))) (1 : Int32) cb none) h0 n0 _ T10.heap _
    rw [e10]
    exact ⟨_, _, rfl, N10, K10, z_u4, ⟨E10_rb, F10_rb_value, F10_rb_coder, F10_rb_count, F10_rb_maybeLatin1, V10_u4, (Ne.symm ne_rb_u4)⟩⟩
theorem rm_iiM (l : Launch) (Z : State) (a0 : Array Value) (hw : ∀ d ∈ tables_1, d.before a0 Z = true) (ws : List Jvm.Cond) (rb : Addr) (sa : Addr) (h0 : Heap) (n0 : Nat) (Z0 : n0 ≤ h0.size) (Y0 : Old Z n0 h0) (zc : Int32) (fm : Value) (S : Sts Z Z.heap zc fm) (cb : Int32) (tb : Addr) (kb : ClassId) (vb : List Value) (Bb : SB Z h0 rb tb kb (16 : Int32) vb (0 : Int32) cb) (gr : n0 ≤ rb) (gt : n0 ≤ tb) (ta : Addr) (ka : ClassId) (Na : Int32) (va : List Value) (Xa : TX Z h0 sa ta ka Na va (1 : Int32)) (cs : List Int32) (nn : Nat) (hf : IF (0 : Int32) cb (16 : Int32) (32 : Int32) (16 : Int32) 0 nn 32) (hsrc : ∀ i, i < nn → vb.getD i (Value.int 0) = .int (StrChars.lo8 (cs.getD i 0)) ∧ own_ch (cs.getD i 0))  :
    MFa l mN30 jdk_68_method_71_code 2 none ws (Room.mk 6 1 32 89) Z h0 n0 #[(.ref rb), (.ref sa)] (Qg Z rb (32 : Int32) (own_inf cs nn 0 0 (List.replicate 32 (Value.int 0))) (1 : Int32) cb none) := by
  refine MetFree.of_bodySF (plainFor_of_name pn_26) hisR ?_
  intro p e s m args below meth c s₁ Bd hml0 hP hK
  obtain ⟨rfl, hZ, hh⟩ := hP
  have hx := Bd.exec
  have hby := Bd.bytes
  have hml : c.maxLocals = 2 := hml0
  have hown : s.vm.findClass "java/lang/AbstractStringBuilder" = some m.cls := findClass_of_methodNamed Bd.named
  have X0 : Stand p l e (Room.mk 6 1 32 89) s m #[(.ref rb), (.ref sa)] below meth c s₁ [] 0 0 := Stand.of_body Bd
  have e0 : s₁.heap = h0 := by rw [← hh, Bd.state]; rfl
  have N0 := Fr.nil n0
  have pre0 : Pr p e below (s₁.setTop (mkF m 0 #[rv rb, rv sa] [])) (s₁.setTop (entryFrame m #[(.ref rb), (.ref sa)] 2)) := fun t k => castTop (by first | (simp [entryFrame, mkF, argsToLocals, Value.category]; done) | rfl) k
  obtain ⟨T1, X1, e1, st1⟩ := getS2 X0 hx hZ hown (host := "") (Or.inl (ww hw 51 rfl)) Via.refl e0 (S.1.ext Y0.2) (g := (mkF m 0 #[rv rb, rv sa] [])) rfl (hb hby d16_0)
  obtain ⟨T2, X2, e2, st2⟩ := getF X1 hx hZ hown (host := "") (Or.inl (ww hw 54 rfl)) Via.refl e1 Bb.2.2.1 (g := (mkF m 7 #[rv rb, rv sa] [(.ref rb)])) rfl rfl (hb hby d16_7)
  obtain ⟨cq3, kq3, q3a, q3b, q3c⟩ := isOf hZ e2 Xa.1
  obtain ⟨_, _, ⟨T3, L3, k3, n3⟩, -, X3, ⟨Lc3, hQ3, l3, y3, z3⟩, st3⟩ := X2.virtualBack hx (y := mN0) (z := mN0) hown (mw hZ hw 96 rfl) (mw hZ hw 75 rfl) (notFace_of_selects (args := #[]) (mw hZ hw 77 rfl)) (mw hZ hw 77 rfl) (mw hZ hw 76 rfl) (by decide) (backOf (W := 1) (rm_cod l Z a0 hw [] sa h0 n0 (own_old0 Y0) Y0 zc fm S (1 : Int32) (Or.inr rfl) ta ka Na va Xa ) hZ (ww hw 78 rfl) (ww hw 4 rfl) (by decide) (by decide)) q3a q3c (g := (mkF m 11 #[rv rb, rv sa] [(.ref sa), (.int 0)])) rfl (by rw [hml]; rfl) (Steps.refl _) (argsL := []) (rest := [(.int 0)]) (lenOf pd_0 rfl) rfl own_z (hb hby d16_11) (fun _ _ => ⟨rfl, e2, (by decide : 0 + 0 ≤ _), (by decide : 0 + 0 ≤ _)⟩)
  dsimp only [Pt.U, Pt.locs, Pt.cells, Pt.slots] at X3 l3 y3 z3 st3 hQ3
  rw [y3, z3] at X3
  obtain ⟨rfl, N3q, e3⟩ := hQ3
  have N3 := own_fr l3 N0 N3q
  obtain ⟨cq4, kq4, q4a, q4b, q4c⟩ := isOf hZ e3 Bb.1
  obtain ⟨_, _, ⟨T4, L4, k4, n4⟩, -, X4, ⟨Lc4, hQ4, l4, y4, z4⟩, st4⟩ := X3.virtualBack hx (y := mN31) (z := mN31) hown (mw hZ hw 278 rfl) (mvT hZ (own_decl (ww hw 279 rfl) (ww hw 282 rfl))) (notFace_of_selects (args := #[]) (mw hZ hw 281 rfl)) (mw hZ hw 281 rfl) (mw hZ hw 279 rfl) (by decide) (backOf (W := 0) (rm_ifM l Z a0 hw [] rb h0 n0 (own_old0 Y0) Y0 zc fm S cb tb kb vb ⟨Bb.1, Bb.2.1, Bb.2.2.1, Bb.2.2.2.1, Bb.2.2.2.2.1, Bb.2.2.2.2.2.1, Bb.2.2.2.2.2.2⟩ gr gt cs nn hf hsrc) hZ (ww hw 282 rfl) (ww hw 48 rfl) (by decide) (by decide)) q4a q4c (g := (mkF m 18 #[rv rb, rv sa] [(.ref rb)])) rfl (by rw [hml]; rfl) (Steps.refl _) (argsL := []) (rest := []) (lenOf pd_16 rfl) rfl own_z (hb hby d16_18) (fun _ _ => ⟨rfl, e3, (by decide : 0 + 1 ≤ _), (by decide : 0 + 32 ≤ _)⟩)
  dsimp only [Pt.U, Pt.locs, Pt.cells, Pt.slots] at X4 l4 y4 z4 st4 hQ4
  rw [y4, z4] at X4
  obtain ⟨u4, ku4, rfl, N4q, Kc4, zz4, Bc4⟩ := hQ4
  have N4 := own_fr l4 N3 N4q
  have z_u4 : h0.size ≤ u4 := Nat.le_trans (Nat.le_refl h0.size) zz4
  have K4k : Keep h0 T4.heap [rb] := Keep.trans (Keep.refl h0 [rb]) Kc4 (allS (Or.inl (List.mem_of_getElem? (i := 0) rfl)) all0)
  have pre5 : Pr p e below (T4.setTop (mkF m 21 #[rv rb, rv sa] [])) (s₁.setTop (entryFrame m #[(.ref rb), (.ref sa)] 2)) := fun t k => pre0 t (by
    show Steps _ _ _ (s₁.setTop (mkF m 0 #[rv rb, rv sa] [])) _
    refine st1 _ ?_
    show Steps _ _ _ (T1.setTop (mkF m 3 #[rv rb, rv sa] [(.int zc)])) _
    refine XS.ifNo X1.here hx rfl (hb hby d16_3) rfl ((if0 _ _).trans (feq S.2.2.2.2.2.1).1) ?_
    refine XS.aloadN X1.here hx rfl (hb hby d16_6) rfl rfl ?_
    refine st2 _ ?_
    refine XS.aloadN X2.here hx rfl (hb hby d16_10) rfl rfl ?_
    refine st3.trans ?_
    show Steps _ _ _ (T3.setTop (mkF m 14 #[rv rb, rv sa] [(.int 1), (.int 0)])) _
    refine XS.icmpNo X3.here hx rfl (hb hby d16_14) rfl (feq (by decide : ¬ ((0 : Int32) = (1 : Int32)))).1 ?_
    refine XS.aloadN X3.here hx rfl (hb hby d16_17) rfl rfl ?_
    refine st4.trans ?_
    exact k)
  obtain ⟨fs, hr, hrun, hended, hW, hsame⟩ := X4.leave (v := none) (fun _ => rfl)
  refine ⟨_, _, pre5 _ ?_, hrun, hended, _, _, rfl, ?_, ⟨_, rfl⟩, hW, hsame.mono (by decide) (by decide)⟩
  · show Steps _ _ _ (T4.setTop (mkF m 21 #[rv rb, rv sa] [])) _
    exact X4.returnOut hx Bd.returns (hb hby d16_21) hr
  · show (Qg Z rb (32 : Int32) (own_inf cs nn 0 0 (List.replicate 32 (Value.int 0))) (1 : Int32) cb none) h0 n0 _ T4.heap _
    exact ⟨_, _, rfl, N4, K4k, z_u4, ⟨Bc4.1, Bc4.2.1, Bc4.2.2.1, Bc4.2.2.2.1, Bc4.2.2.2.2.1, Bc4.2.2.2.2.2.1, Bc4.2.2.2.2.2.2⟩⟩
theorem rm_psL (l : Launch) (Z : State) (a0 : Array Value) (hw : ∀ d ∈ tables_1, d.before a0 Z = true) (ws : List Jvm.Cond) (rb : Addr) (ix : Int32) (sa : Addr) (h0 : Heap) (n0 : Nat) (Z0 : n0 ≤ h0.size) (Y0 : Old Z n0 h0) (zc : Int32) (fm : Value) (S : Sts Z Z.heap zc fm) (Nb cb : Int32) (tb : Addr) (kb : ClassId) (vb : List Value) (Bb : SB Z h0 rb tb kb Nb vb (0 : Int32) cb) (gr : n0 ≤ rb) (gt : n0 ≤ tb) (ta : Addr) (ka : ClassId) (Na : Int32) (va : List Value) (Xa : TX Z h0 sa ta ka Na va (0 : Int32)) (dp : Int32) (dn kn : Nat) (hgb : GBX ix (0 : Int32) dp Na Nb dn kn) (hvl : dn + kn ≤ vb.length) (hva : va.length = kn)  :
    MFa l mN32 jdk_68_method_73_code 3 none ws (Room.mk 2 0 0 33) Z h0 n0 #[(.ref rb), (.int ix), (.ref sa)] (Qa Z tb kb Nb (vb.take dn ++ va ++ vb.drop (dn + kn))) := by
  refine MetFree.of_bodySF (plainFor_of_name pn_26) hisR ?_
  intro p e s m args below meth c s₁ Bd hml0 hP hK
  obtain ⟨rfl, hZ, hh⟩ := hP
  have hx := Bd.exec
  have hby := Bd.bytes
  have hml : c.maxLocals = 3 := hml0
  have hown : s.vm.findClass "java/lang/AbstractStringBuilder" = some m.cls := findClass_of_methodNamed Bd.named
  have X0 : Stand p l e (Room.mk 2 0 0 33) s m #[(.ref rb), (.int ix), (.ref sa)] below meth c s₁ [] 0 0 := Stand.of_body Bd
  have e0 : s₁.heap = h0 := by rw [← hh, Bd.state]; rfl
  have N0 := Fr.nil n0
  have pre0 : Pr p e below (s₁.setTop (mkF m 0 #[rv rb, iv ix, rv sa] [])) (s₁.setTop (entryFrame m #[(.ref rb), (.int ix), (.ref sa)] 3)) := fun t k => castTop (by first | (simp [entryFrame, mkF, argsToLocals, Value.category]; done) | rfl) k
  obtain ⟨cq1, kq1, q1a, q1b, q1c⟩ := isOf hZ e0 Bb.1
  obtain ⟨_, _, ⟨T1, L1, k1, n1⟩, -, X1, ⟨Lc1, hQ1, l1, y1, z1⟩, st1⟩ := X0.virtualBack hx (y := mN30) (z := mN30) hown (mw hZ hw 91 rfl) (mvT hZ (own_decl (ww hw 92 rfl) (ww hw 95 rfl))) (notFace_of_selects (args := #[]) (mw hZ hw 94 rfl)) (mw hZ hw 94 rfl) (mw hZ hw 92 rfl) (by decide) (backOf (W := 0) (rm_iiE l Z a0 hw [] rb sa h0 n0 (own_old0 Y0) Y0 zc fm S Nb cb tb kb vb ⟨Bb.1, Bb.2.1, Bb.2.2.1, Bb.2.2.2.1, Bb.2.2.2.2.1, Bb.2.2.2.2.2.1, Bb.2.2.2.2.2.2⟩ gr gt ta ka Na va Xa ) hZ (ww hw 95 rfl) (ww hw 48 rfl) (by decide) (by decide)) q1a q1c (g := (mkF m 2 #[rv rb, iv ix, rv sa] [(.ref sa), (.ref rb)])) rfl (by rw [hml]; rfl) (Steps.refl _) (argsL := [(.ref sa)]) (rest := []) (lenOf pd_18 rfl) rfl own_z (hb hby d15_2) (fun _ _ => ⟨rfl, e0, (by decide : 0 + 0 ≤ _), (by decide : 0 + 0 ≤ _)⟩)
  dsimp only [Pt.U, Pt.locs, Pt.cells, Pt.slots] at X1 l1 y1 z1 st1 hQ1
  rw [y1, z1] at X1
  obtain ⟨rfl, N1q, e1⟩ := hQ1
  have N1 := own_fr l1 N0 N1q
  obtain ⟨T2, X2, e2, st2⟩ := getF X1 hx hZ hown (host := "") (Or.inl (ww hw 52 rfl)) Via.refl e1 Bb.2.1 (g := (mkF m 7 #[rv rb, iv ix, rv sa] [(.ref rb), (.ref sa)])) rfl rfl (hb hby d15_7)
  obtain ⟨T3, X3, e3, st3⟩ := getF X2 hx hZ hown (host := "") (Or.inl (ww hw 54 rfl)) Via.refl e2 Bb.2.2.1 (g := (mkF m 12 #[rv rb, iv ix, rv sa] [(.ref rb), (.int ix), (.ref tb), (.ref sa)])) rfl rfl (hb hby d15_12)
  obtain ⟨cq4, kq4, q4a, q4b, q4c⟩ := isOf hZ e3 Xa.1
  obtain ⟨_, _, ⟨T4, L4, k4, n4⟩, -, X4, ⟨Lc4, hQ4, l4, y4, z4⟩, st4⟩ := X3.virtualBack hx (y := mN29) (z := mN29) hown (mw hZ hw 97 rfl) (mw hZ hw 98 rfl) (notFace_of_selects (args := #[]) (mw hZ hw 100 rfl)) (mw hZ hw 100 rfl) (mw hZ hw 99 rfl) (by decide) (backOf (W := 0) (rm_gb l Z a0 hw [] sa tb ix (0 : Int32) h0 n0 (own_old0 Y0) Y0 zc fm S (Or.inl rfl) ta ka Na va Xa kb Nb vb Bb.2.2.2.2.2.1 gt dp dn kn hgb hvl hva) hZ (ww hw 101 rfl) (ww hw 4 rfl) (by decide) (by decide)) q4a q4c (g := (mkF m 15 #[rv rb, iv ix, rv sa] [(.int 0), (.int ix), (.ref tb), (.ref sa)])) rfl (by rw [hml]; rfl) (Steps.refl _) (argsL := [(.ref tb), (.int ix), (.int 0)]) (rest := []) (lenOf pd_19 rfl) rfl own_z (hb hby d15_15) (fun _ _ => ⟨rfl, e3, (by decide : 0 + 0 ≤ _), (by decide : 0 + 0 ≤ _)⟩)
  dsimp only [Pt.U, Pt.locs, Pt.cells, Pt.slots] at X4 l4 y4 z4 st4 hQ4
  rw [y4, z4] at X4
  obtain ⟨rfl, N4q, Kc4, Vc4⟩ := hQ4
  have N4 := own_fr l4 N1 N4q
  have K4k : Keep h0 T4.heap [tb] := Keep.trans (Keep.refl h0 [tb]) Kc4 (allS (Or.inl (List.mem_of_getElem? (i := 0) rfl)) all0)
  have pre5 : Pr p e below (T4.setTop (mkF m 18 #[rv rb, iv ix, rv sa] [])) (s₁.setTop (entryFrame m #[(.ref rb), (.int ix), (.ref sa)] 3)) := fun t k => pre0 t (by
    show Steps _ _ _ (s₁.setTop (mkF m 0 #[rv rb, iv ix, rv sa] [])) _
    refine XS.aloadN X0.here hx rfl (hb hby d15_0) rfl rfl ?_
    refine XS.aloadN X0.here hx rfl (hb hby d15_1) rfl rfl ?_
    refine st1.trans ?_
    refine XS.aloadN X1.here hx rfl (hb hby d15_5) rfl rfl ?_
    refine XS.aloadN X1.here hx rfl (hb hby d15_6) rfl rfl ?_
    refine st2 _ ?_
    refine XS.iloadN X2.here hx rfl (hb hby d15_10) rfl ?_
    refine XS.aloadN X2.here hx rfl (hb hby d15_11) rfl rfl ?_
    refine st3 _ ?_
    refine st4.trans ?_
    exact k)
  obtain ⟨fs, hr, hrun, hended, hW, hsame⟩ := X4.leave (v := none) (fun _ => rfl)
  refine ⟨_, _, pre5 _ ?_, hrun, hended, _, _, rfl, ?_, ⟨_, rfl⟩, hW, hsame.mono (by decide) (by decide)⟩
  · show Steps _ _ _ (T4.setTop (mkF m 18 #[rv rb, iv ix, rv sa] [])) _
    exact X4.returnOut hx Bd.returns (hb hby d15_18) hr
  · show (Qa Z tb kb Nb (vb.take dn ++ va ++ vb.drop (dn + kn))) h0 n0 _ T4.heap _
    exact ⟨rfl, N4, K4k, Vc4⟩
theorem rm_psM (l : Launch) (Z : State) (a0 : Array Value) (hw : ∀ d ∈ tables_1, d.before a0 Z = true) (ws : List Jvm.Cond) (rb : Addr) (ix : Int32) (sa : Addr) (h0 : Heap) (n0 : Nat) (Z0 : n0 ≤ h0.size) (Y0 : Old Z n0 h0) (zc : Int32) (fm : Value) (S : Sts Z Z.heap zc fm) (cb : Int32) (tb : Addr) (kb : ClassId) (vb : List Value) (Bb : SB Z h0 rb tb kb (16 : Int32) vb (0 : Int32) cb) (gr : n0 ≤ rb) (gt : n0 ≤ tb) (ta : Addr) (ka : ClassId) (Na : Int32) (va : List Value) (Xa : TX Z h0 sa ta ka Na va (1 : Int32)) (cs : List Int32) (nn : Nat) (hf : IF (0 : Int32) cb (16 : Int32) (32 : Int32) (16 : Int32) 0 nn 32) (hsrc : ∀ i, i < nn → vb.getD i (Value.int 0) = .int (StrChars.lo8 (cs.getD i 0)) ∧ own_ch (cs.getD i 0)) (dp : Int32) (dn kn : Nat) (hgb : GBX ix (1 : Int32) dp Na (32 : Int32) dn kn) (hvl : dn + kn ≤ (own_inf cs nn 0 0 (List.replicate 32 (Value.int 0))).length) (hva : va.length = kn)  :
    MFa l mN32 jdk_68_method_73_code 3 none ws (Room.mk 7 1 32 102) Z h0 n0 #[(.ref rb), (.int ix), (.ref sa)] (Qg Z rb (32 : Int32) ((own_inf cs nn 0 0 (List.replicate 32 (Value.int 0))).take dn ++ va ++ (own_inf cs nn 0 0 (List.replicate 32 (Value.int 0))).drop (dn + kn)) (1 : Int32) cb none) := by
  refine MetFree.of_bodySF (plainFor_of_name pn_26) hisR ?_
  intro p e s m args below meth c s₁ Bd hml0 hP hK
  obtain ⟨rfl, hZ, hh⟩ := hP
  have hx := Bd.exec
  have hby := Bd.bytes
  have hml : c.maxLocals = 3 := hml0
  have hown : s.vm.findClass "java/lang/AbstractStringBuilder" = some m.cls := findClass_of_methodNamed Bd.named
  have X0 : Stand p l e (Room.mk 7 1 32 102) s m #[(.ref rb), (.int ix), (.ref sa)] below meth c s₁ [] 0 0 := Stand.of_body Bd
  have e0 : s₁.heap = h0 := by rw [← hh, Bd.state]; rfl
  have N0 := Fr.nil n0
  have pre0 : Pr p e below (s₁.setTop (mkF m 0 #[rv rb, iv ix, rv sa] [])) (s₁.setTop (entryFrame m #[(.ref rb), (.int ix), (.ref sa)] 3)) := fun t k => castTop (by first | (simp [entryFrame, mkF, argsToLocals, Value.category]; done) | rfl) k
  have sep := own_sep Xa Bb (ww hw 3 rfl) (ww hw 39 rfl)
  obtain ⟨cq1, kq1, q1a, q1b, q1c⟩ := isOf hZ e0 Bb.1
  obtain ⟨_, _, ⟨T1, L1, k1, n1⟩, -, X1, ⟨Lc1, hQ1, l1, y1, z1⟩, st1⟩ := X0.virtualBack hx (y := mN30) (z := mN30) hown (mw hZ hw 91 rfl) (mvT hZ (own_decl (ww hw 92 rfl) (ww hw 95 rfl))) (notFace_of_selects (args := #[]) (mw hZ hw 94 rfl)) (mw hZ hw 94 rfl) (mw hZ hw 92 rfl) (by decide) (backOf (W := 0) (rm_iiM l Z a0 hw [] rb sa h0 n0 (own_old0 Y0) Y0 zc fm S cb tb kb vb ⟨Bb.1, Bb.2.1, Bb.2.2.1, Bb.2.2.2.1, Bb.2.2.2.2.1, Bb.2.2.2.2.2.1, Bb.2.2.2.2.2.2⟩ gr gt ta ka Na va Xa cs nn hf hsrc) hZ (ww hw 95 rfl) (ww hw 48 rfl) (by decide) (by decide)) q1a q1c (g := (mkF m 2 #[rv rb, iv ix, rv sa] [(.ref sa), (.ref rb)])) rfl (by rw [hml]; rfl) (Steps.refl _) (argsL := [(.ref sa)]) (rest := []) (lenOf pd_18 rfl) rfl own_z (hb hby d15_2) (fun _ _ => ⟨rfl, e0, (by decide : 0 + 1 ≤ _), (by decide : 0 + 32 ≤ _)⟩)
  dsimp only [Pt.U, Pt.locs, Pt.cells, Pt.slots] at X1 l1 y1 z1 st1 hQ1
  rw [y1, z1] at X1
  obtain ⟨u1, ku1, rfl, N1q, Kc1, zz1, Bc1⟩ := hQ1
  have N1 := own_fr l1 N0 N1q
  have ne_rb_u1 : rb ≠ u1 := Nat.ne_of_lt (Nat.lt_of_lt_of_le Bb.1.lt zz1)
  have z_u1 : h0.size ≤ u1 := Nat.le_trans (Nat.le_refl h0.size) zz1
  have g_u1 : n0 ≤ u1 := Nat.le_trans Z0 z_u1
  have Xa_1 := Xa.keep Kc1 (ninS sep.1 nin0) (ninS sep.2.1 nin0)
  have Y1 := Old.keep Y0 Kc1 (allS gr all0)
  have K1k : Keep h0 T1.heap [rb] := Keep.trans (Keep.refl h0 [rb]) Kc1 (allS (Or.inl (List.mem_of_getElem? (i := 0) rfl)) all0)
  obtain ⟨T2, X2, e2, st2⟩ := getF X1 hx hZ hown (host := "") (Or.inl (ww hw 52 rfl)) Via.refl rfl Bc1.2.1 (g := (mkF m 7 #[rv rb, iv ix, rv sa] [(.ref rb), (.ref sa)])) rfl rfl (hb hby d15_7)
  obtain ⟨T3, X3, e3, st3⟩ := getF X2 hx hZ hown (host := "") (Or.inl (ww hw 54 rfl)) Via.refl e2 Bc1.2.2.1 (g := (mkF m 12 #[rv rb, iv ix, rv sa] [(.ref rb), (.int ix), (.ref u1), (.ref sa)])) rfl rfl (hb hby d15_12)
  obtain ⟨cq4, kq4, q4a, q4b, q4c⟩ := isOf hZ e3 Xa_1.1
  obtain ⟨_, _, ⟨T4, L4, k4, n4⟩, -, X4, ⟨Lc4, hQ4, l4, y4, z4⟩, st4⟩ := X3.virtualBack hx (y := mN29) (z := mN29) hown (mw hZ hw 97 rfl) (mw hZ hw 98 rfl) (notFace_of_selects (args := #[]) (mw hZ hw 100 rfl)) (mw hZ hw 100 rfl) (mw hZ hw 99 rfl) (by decide) (backOf (W := 0) (rm_gb l Z a0 hw [] sa u1 ix (1 : Int32) T1.heap n0 (own_old0 Y1) Y1 zc fm S (Or.inr rfl) ta ka Na va Xa_1 ku1 (32 : Int32) (own_inf cs nn 0 0 (List.replicate 32 (Value.int 0))) Bc1.2.2.2.2.2.1 g_u1 dp dn kn hgb hvl hva) hZ (ww hw 101 rfl) (ww hw 4 rfl) (by decide) (by decide)) q4a q4c (g := (mkF m 15 #[rv rb, iv ix, rv sa] [(.int 1), (.int ix), (.ref u1), (.ref sa)])) rfl (by rw [hml]; rfl) (Steps.refl _) (argsL := [(.ref u1), (.int ix), (.int 1)]) (rest := []) (lenOf pd_19 rfl) rfl own_z (hb hby d15_15) (fun _ _ => ⟨rfl, e3, (by decide : 1 + 0 ≤ _), (by decide : 32 + 0 ≤ _)⟩)
  dsimp only [Pt.U, Pt.locs, Pt.cells, Pt.slots] at X4 l4 y4 z4 st4 hQ4
  rw [y4, z4] at X4
  obtain ⟨rfl, N4q, Kc4, Vc4⟩ := hQ4
  have N4 := own_fr l4 N1 N4q
  have E4_rb := Bc1.1.keep Kc4
  have F4_rb_value := Bc1.2.1.keep Kc4 (ninS ne_rb_u1 nin0)
  have F4_rb_coder := Bc1.2.2.1.keep Kc4 (ninS ne_rb_u1 nin0)
  have F4_rb_count := Bc1.2.2.2.1.keep Kc4 (ninS ne_rb_u1 nin0)
  have F4_rb_maybeLatin1 := Bc1.2.2.2.2.1.keep Kc4 (ninS ne_rb_u1 nin0)
  have K4k : Keep h0 T4.heap [rb] := Keep.trans K1k Kc4 (allS (Or.inr z_u1) all0)
  have pre5 : Pr p e below (T4.setTop (mkF m 18 #[rv rb, iv ix, rv sa] [])) (s₁.setTop (entryFrame m #[(.ref rb), (.int ix), (.ref sa)] 3)) := fun t k => pre0 t (by
    show Steps _ _ _ (s₁.setTop (mkF m 0 #[rv rb, iv ix, rv sa] [])) _
    refine XS.aloadN X0.here hx rfl (hb hby d15_0) rfl rfl ?_
    refine XS.aloadN X0.here hx rfl (hb hby d15_1) rfl rfl ?_
    refine st1.trans ?_
    refine XS.aloadN X1.here hx rfl (hb hby d15_5) rfl rfl ?_
    refine XS.aloadN X1.here hx rfl (hb hby d15_6) rfl rfl ?_
    refine st2 _ ?_
    refine XS.iloadN X2.here hx rfl (hb hby d15_10) rfl ?_
    refine XS.aloadN X2.here hx rfl (hb hby d15_11) rfl rfl ?_
    refine st3 _ ?_
    refine st4.trans ?_
    exact k)
  obtain ⟨fs, hr, hrun, hended, hW, hsame⟩ := X4.leave (v := none) (fun _ => rfl)
  refine ⟨_, _, pre5 _ ?_, hrun, hended, _, _, rfl, ?_, ⟨_, rfl⟩, hW, hsame.mono (by decide) (by decide)⟩
  · show Steps _ _ _ (T4.setTop (mkF m 18 #[rv rb, iv ix, rv sa] [])) _
    exact X4.returnOut hx Bd.returns (hb hby d15_18) hr
  · show (Qg Z rb (32 : Int32) ((own_inf cs nn 0 0 (List.replicate 32 (Value.int 0))).take dn ++ va ++ (own_inf cs nn 0 0 (List.replicate 32 (Value.int 0))).drop (dn + kn)) (1 : Int32) cb none) h0 n0 _ T4.heap _
    exact ⟨_, _, rfl, N4, K4k, z_u1, ⟨E4_rb, F4_rb_value, F4_rb_coder, F4_rb_count, F4_rb_maybeLatin1, Vc4, Bc1.2.2.2.2.2.2⟩⟩
theorem rm_psW (l : Launch) (Z : State) (a0 : Array Value) (hw : ∀ d ∈ tables_1, d.before a0 Z = true) (ws : List Jvm.Cond) (rb : Addr) (ix : Int32) (sa : Addr) (h0 : Heap) (n0 : Nat) (Z0 : n0 ≤ h0.size) (Y0 : Old Z n0 h0) (zc : Int32) (fm : Value) (S : Sts Z Z.heap zc fm) (Nb cb : Int32) (tb : Addr) (kb : ClassId) (vb : List Value) (Bb : SB Z h0 rb tb kb Nb vb (1 : Int32) cb) (gr : n0 ≤ rb) (gt : n0 ≤ tb) (ta : Addr) (ka : ClassId) (Na : Int32) (va : List Value) (Xa : TX Z h0 sa ta ka Na va (0 : Int32)) (nta : ta ≠ tb) (cs : List Int32) (ln : Int32) (qq nn nd : Nat) (hf : IF ix Na Na Nb ln qq nn nd) (hvd : vb.length = nd) (hsrc : ∀ i, i < nn → va.getD i (Value.int 0) = .int (StrChars.lo8 (cs.getD i 0)) ∧ own_ch (cs.getD i 0))  :
    MFa l mN32 jdk_68_method_73_code 3 none ws (Room.mk 6 0 0 91) Z h0 n0 #[(.ref rb), (.int ix), (.ref sa)] (Qa Z tb kb Nb (own_inf cs nn 0 qq vb)) := by
  refine MetFree.of_bodySF (plainFor_of_name pn_26) hisR ?_
  intro p e s m args below meth c s₁ Bd hml0 hP hK
  obtain ⟨rfl, hZ, hh⟩ := hP
  have hx := Bd.exec
  have hby := Bd.bytes
  have hml : c.maxLocals = 3 := hml0
  have hown : s.vm.findClass "java/lang/AbstractStringBuilder" = some m.cls := findClass_of_methodNamed Bd.named
  have X0 : Stand p l e (Room.mk 6 0 0 91) s m #[(.ref rb), (.int ix), (.ref sa)] below meth c s₁ [] 0 0 := Stand.of_body Bd
  have e0 : s₁.heap = h0 := by rw [← hh, Bd.state]; rfl
  have N0 := Fr.nil n0
  have pre0 : Pr p e below (s₁.setTop (mkF m 0 #[rv rb, iv ix, rv sa] [])) (s₁.setTop (entryFrame m #[(.ref rb), (.int ix), (.ref sa)] 3)) := fun t k => castTop (by first | (simp [entryFrame, mkF, argsToLocals, Value.category]; done) | rfl) k
  obtain ⟨cq1, kq1, q1a, q1b, q1c⟩ := isOf hZ e0 Bb.1
  obtain ⟨_, _, ⟨T1, L1, k1, n1⟩, -, X1, ⟨Lc1, hQ1, l1, y1, z1⟩, st1⟩ := X0.virtualBack hx (y := mN30) (z := mN30) hown (mw hZ hw 91 rfl) (mvT hZ (own_decl (ww hw 92 rfl) (ww hw 95 rfl))) (notFace_of_selects (args := #[]) (mw hZ hw 94 rfl)) (mw hZ hw 94 rfl) (mw hZ hw 92 rfl) (by decide) (backOf (W := 0) (rm_iiW l Z a0 hw [] rb sa h0 n0 (own_old0 Y0) Y0 zc fm S Nb cb tb kb vb ⟨Bb.1, Bb.2.1, Bb.2.2.1, Bb.2.2.2.1, Bb.2.2.2.2.1, Bb.2.2.2.2.2.1, Bb.2.2.2.2.2.2⟩ gr gt ta ka Na va Xa ) hZ (ww hw 95 rfl) (ww hw 48 rfl) (by decide) (by decide)) q1a q1c (g := (mkF m 2 #[rv rb, iv ix, rv sa] [(.ref sa), (.ref rb)])) rfl (by rw [hml]; rfl) (Steps.refl _) (argsL := [(.ref sa)]) (rest := []) (lenOf pd_18 rfl) rfl own_z (hb hby d15_2) (fun _ _ => ⟨rfl, e0, (by decide : 0 + 0 ≤ _), (by decide : 0 + 0 ≤ _)⟩)
  dsimp only [Pt.U, Pt.locs, Pt.cells, Pt.slots] at X1 l1 y1 z1 st1 hQ1
  rw [y1, z1] at X1
  obtain ⟨rfl, N1q, e1⟩ := hQ1
  have N1 := own_fr l1 N0 N1q
  obtain ⟨T2, X2, e2, st2⟩ := getF X1 hx hZ hown (host := "") (Or.inl (ww hw 52 rfl)) Via.refl e1 Bb.2.1 (g := (mkF m 7 #[rv rb, iv ix, rv sa] [(.ref rb), (.ref sa)])) rfl rfl (hb hby d15_7)
  obtain ⟨T3, X3, e3, st3⟩ := getF X2 hx hZ hown (host := "") (Or.inl (ww hw 54 rfl)) Via.refl e2 Bb.2.2.1 (g := (mkF m 12 #[rv rb, iv ix, rv sa] [(.ref rb), (.int ix), (.ref tb), (.ref sa)])) rfl rfl (hb hby d15_12)
  obtain ⟨cq4, kq4, q4a, q4b, q4c⟩ := isOf hZ e3 Xa.1
  obtain ⟨_, _, ⟨T4, L4, k4, n4⟩, -, X4, ⟨Lc4, hQ4, l4, y4, z4⟩, st4⟩ := X3.virtualBack hx (y := mN29) (z := mN29) hown (mw hZ hw 97 rfl) (mw hZ hw 98 rfl) (notFace_of_selects (args := #[]) (mw hZ hw 100 rfl)) (mw hZ hw 100 rfl) (mw hZ hw 99 rfl) (by decide) (backOf (W := 0) (rm_gbW l Z a0 hw [] sa tb ix h0 n0 (own_old0 Y0) Y0 zc fm S ta ka Na va Xa kb Nb vb Bb.2.2.2.2.2.1 gt nta cs ln qq nn nd hf hvd hsrc) hZ (ww hw 101 rfl) (ww hw 4 rfl) (by decide) (by decide)) q4a q4c (g := (mkF m 15 #[rv rb, iv ix, rv sa] [(.int 1), (.int ix), (.ref tb), (.ref sa)])) rfl (by rw [hml]; rfl) (Steps.refl _) (argsL := [(.ref tb), (.int ix), (.int 1)]) (rest := []) (lenOf pd_19 rfl) rfl own_z (hb hby d15_15) (fun _ _ => ⟨rfl, e3, (by decide : 0 + 0 ≤ _), (by decide : 0 + 0 ≤ _)⟩)
  dsimp only [Pt.U, Pt.locs, Pt.cells, Pt.slots] at X4 l4 y4 z4 st4 hQ4
  rw [y4, z4] at X4
  obtain ⟨rfl, N4q, Kc4, Vc4⟩ := hQ4
  have N4 := own_fr l4 N1 N4q
  have K4k : Keep h0 T4.heap [tb] := Keep.trans (Keep.refl h0 [tb]) Kc4 (allS (Or.inl (List.mem_of_getElem? (i := 0) rfl)) all0)
  have pre5 : Pr p e below (T4.setTop (mkF m 18 #[rv rb, iv ix, rv sa] [])) (s₁.setTop (entryFrame m #[(.ref rb), (.int ix), (.ref sa)] 3)) := fun t k => pre0 t (by
    show Steps _ _ _ (s₁.setTop (mkF m 0 #[rv rb, iv ix, rv sa] [])) _
    refine XS.aloadN X0.here hx rfl (hb hby d15_0) rfl rfl ?_
    refine XS.aloadN X0.here hx rfl (hb hby d15_1) rfl rfl ?_
    refine st1.trans ?_
    refine XS.aloadN X1.here hx rfl (hb hby d15_5) rfl rfl ?_
    refine XS.aloadN X1.here hx rfl (hb hby d15_6) rfl rfl ?_
    refine st2 _ ?_
    refine XS.iloadN X2.here hx rfl (hb hby d15_10) rfl ?_
    refine XS.aloadN X2.here hx rfl (hb hby d15_11) rfl rfl ?_
    refine st3 _ ?_
    refine st4.trans ?_
    exact k)
  obtain ⟨fs, hr, hrun, hended, hW, hsame⟩ := X4.leave (v := none) (fun _ => rfl)
  refine ⟨_, _, pre5 _ ?_, hrun, hended, _, _, rfl, ?_, ⟨_, rfl⟩, hW, hsame.mono (by decide) (by decide)⟩
  · show Steps _ _ _ (T4.setTop (mkF m 18 #[rv rb, iv ix, rv sa] [])) _
    exact X4.returnOut hx Bd.returns (hb hby d15_18) hr
  · show (Qa Z tb kb Nb (own_inf cs nn 0 qq vb)) h0 n0 _ T4.heap _
    exact ⟨rfl, N4, K4k, Vc4⟩
theorem rm_apN (l : Launch) (Z : State) (a0 : Array Value) (hw : ∀ d ∈ tables_1, d.before a0 Z = true) (ws : List Jvm.Cond) (rb : Addr) (sa : Addr) (h0 : Heap) (n0 : Nat) (Z0 : n0 ≤ h0.size) (Y0 : Old Z n0 h0) (zc : Int32) (fm : Value) (S : Sts Z Z.heap zc fm) (cb : Int32) (tb : Addr) (kb : ClassId) (vb : List Value) (Bb : SB Z h0 rb tb kb (16 : Int32) vb (0 : Int32) cb) (gr : n0 ≤ rb) (gt : n0 ≤ tb) (ta : Addr) (ka : ClassId) (Na : Int32) (va : List Value) (Xa : TX Z h0 sa ta ka Na va (0 : Int32)) (nta : ta ≠ tb) (ln mc : Int32) (hln : (Na >>> ((0 : Int32) &&& 31)) = ln) (hmc : (cb + ln) = mc) (hng : ¬ (0 : Int32) < (mc - (16 : Int32))) (dp : Int32) (dn kn : Nat) (hgb : GBX cb (0 : Int32) dp Na (16 : Int32) dn kn) (hvl : dn + kn ≤ vb.length) (hva : va.length = kn)  :
    MFa l mN33 jdk_68_method_22_code 3 (some (.object "java/lang/AbstractStringBuilder")) ws (Room.mk 3 0 0 47) Z h0 n0 #[(.ref rb), (.ref sa)] (Qb Z rb tb kb (16 : Int32) (vb.take dn ++ va ++ vb.drop (dn + kn)) (0 : Int32) mc (some (.ref rb))) := by
  refine MetFree.of_bodySF (plainFor_of_name pn_26) hisR ?_
  intro p e s m args below meth c s₁ Bd hml0 hP hK
  obtain ⟨rfl, hZ, hh⟩ := hP
  have hx := Bd.exec
  have hby := Bd.bytes
  have hml : c.maxLocals = 3 := hml0
  have hown : s.vm.findClass "java/lang/AbstractStringBuilder" = some m.cls := findClass_of_methodNamed Bd.named
  have X0 : Stand p l e (Room.mk 3 0 0 47) s m #[(.ref rb), (.ref sa)] below meth c s₁ [] 0 0 := Stand.of_body Bd
  have e0 : s₁.heap = h0 := by rw [← hh, Bd.state]; rfl
  have N0 := Fr.nil n0
  have pre0 : Pr p e below (s₁.setTop (mkF m 0 #[rv rb, rv sa, .unset] [])) (s₁.setTop (entryFrame m #[(.ref rb), (.ref sa)] 3)) := fun t k => castTop (by first | (simp [entryFrame, mkF, argsToLocals, Value.category]; done) | rfl) k
  obtain ⟨cq1, kq1, q1a, q1b, q1c⟩ := isOf hZ e0 Xa.1
  obtain ⟨_, _, ⟨T1, L1, k1, n1⟩, -, X1, ⟨Lc1, hQ1, l1, y1, z1⟩, st1⟩ := X0.virtualBack hx (y := mN1) (z := mN1) hown (mw hZ hw 69 rfl) (mw hZ hw 70 rfl) (notFace_of_selects (args := #[]) (mw hZ hw 72 rfl)) (mw hZ hw 72 rfl) (mw hZ hw 71 rfl) (by decide) (backOf (W := 0) (rm_len l Z a0 hw [] sa h0 n0 (own_old0 Y0) Y0 zc fm S (0 : Int32) (Or.inl rfl) ta ka Na va Xa ln hln) hZ (ww hw 73 rfl) (ww hw 4 rfl) (by decide) (by decide)) q1a q1c (g := (mkF m 10 #[rv rb, rv sa, .unset] [(.ref sa)])) rfl (by rw [hml]; rfl) (Steps.refl _) (argsL := []) (rest := []) (lenOf pd_1 rfl) rfl own_z (hb hby d11_10) (fun _ _ => ⟨rfl, e0, (by decide : 0 + 0 ≤ _), (by decide : 0 + 0 ≤ _)⟩)
  dsimp only [Pt.U, Pt.locs, Pt.cells, Pt.slots] at X1 l1 y1 z1 st1 hQ1
  rw [y1, z1] at X1
  obtain ⟨rfl, N1q, e1⟩ := hQ1
  have N1 := own_fr l1 N0 N1q
  obtain ⟨T2, X2, e2, st2⟩ := getF X1 hx hZ hown (host := "") (Or.inl (ww hw 79 rfl)) Via.refl e1 Bb.2.2.2.1 (g := (mkF m 16 #[rv rb, rv sa, iv ln] [(.ref rb), (.ref rb)])) rfl rfl (hb hby d11_16)
  obtain ⟨cq3, kq3, q3a, q3b, q3c⟩ := isOf hZ e2 Bb.1
  obtain ⟨_, _, ⟨T3, L3, k3, n3⟩, -, X3, ⟨Lc3, hQ3, l3, y3, z3⟩, st3⟩ := X2.virtualBack hx (y := mN5) (z := mN5) hown (mw hZ hw 81 rfl) (mvT hZ (own_decl (ww hw 82 rfl) (ww hw 85 rfl))) (notFace_of_selects (args := #[]) (mw hZ hw 84 rfl)) (mw hZ hw 84 rfl) (mw hZ hw 82 rfl) (by decide) (backOf (W := 0) (rm_en l Z a0 hw [] rb mc h0 n0 (own_old0 Y0) Y0 zc fm S cb tb kb vb ⟨Bb.1, Bb.2.1, Bb.2.2.1, Bb.2.2.2.1, Bb.2.2.2.2.1, Bb.2.2.2.2.2.1, Bb.2.2.2.2.2.2⟩ gr gt hng) hZ (ww hw 85 rfl) (ww hw 48 rfl) (by decide) (by decide)) q3a q3c (g := (mkF m 21 #[rv rb, rv sa, iv ln] [(.int mc), (.ref rb)])) rfl (by rw [hml]; rfl) (Steps.refl _) (argsL := [(.int mc)]) (rest := []) (lenOf pd_20 rfl) rfl own_z (hb hby d11_21) (fun _ _ => ⟨rfl, e2, (by decide : 0 + 0 ≤ _), (by decide : 0 + 0 ≤ _)⟩)
  dsimp only [Pt.U, Pt.locs, Pt.cells, Pt.slots] at X3 l3 y3 z3 st3 hQ3
  rw [y3, z3] at X3
  obtain ⟨rfl, N3q, e3⟩ := hQ3
  have N3 := own_fr l3 N1 N3q
  have pre4 : Pr p e below (T3.setTop (mkF m 25 #[rv rb, rv sa, iv ln] [(.ref rb)])) (s₁.setTop (entryFrame m #[(.ref rb), (.ref sa)] 3)) := fun t k => pre0 t (by
    show Steps _ _ _ (s₁.setTop (mkF m 0 #[rv rb, rv sa, .unset] [])) _
    refine XS.aloadN X0.here hx rfl (hb hby d11_0) rfl rfl ?_
    refine XS.ifnonnullYes X0.here hx rfl (pc0 := 1) (pc' := 9) rfl (hb hby d11_1) rfl (by decide) (by decide) ?_
    refine XS.aloadN X0.here hx rfl (hb hby d11_9) rfl rfl ?_
    refine st1.trans ?_
    refine XS.istoreN X1.here hx rfl (hb hby d11_13) rfl (l' := #[rv rb, rv sa, iv ln]) rfl ?_
    refine XS.aloadN X1.here hx rfl (hb hby d11_14) rfl rfl ?_
    refine XS.aloadN X1.here hx rfl (hb hby d11_15) rfl rfl ?_
    refine st2 _ ?_
    refine XS.iloadN X2.here hx rfl (hb hby d11_19) rfl ?_
    refine XS.iadd X2.here hx rfl (hb hby d11_20) rfl ?_
    show Steps _ _ _ (T2.setTop (mkF m 21 #[rv rb, rv sa, iv ln] [(.int (cb + ln)), (.ref rb)])) _
    refine castTop (g' := (mkF m 21 #[rv rb, rv sa, iv ln] [(.int mc), (.ref rb)])) (by rw [hmc]) ?_
    refine st3.trans ?_
    refine XS.aloadN X3.here hx rfl (hb hby d11_24) rfl rfl ?_
    exact k)
  obtain ⟨T5, X5, e5, st5⟩ := getF X3 hx hZ hown (host := "") (Or.inl (ww hw 79 rfl)) Via.refl e3 Bb.2.2.2.1 (g := (mkF m 26 #[rv rb, rv sa, iv ln] [(.ref rb), (.ref rb)])) rfl rfl (hb hby d11_26)
  obtain ⟨cq6, kq6, q6a, q6b, q6c⟩ := isOf hZ e5 Bb.1
  obtain ⟨_, _, ⟨T6, L6, k6, n6⟩, -, X6, ⟨Lc6, hQ6, l6, y6, z6⟩, st6⟩ := X5.virtualBack hx (y := mN32) (z := mN32) hown (mw hZ hw 86 rfl) (mvT hZ (own_decl (ww hw 87 rfl) (ww hw 90 rfl))) (notFace_of_selects (args := #[]) (mw hZ hw 89 rfl)) (mw hZ hw 89 rfl) (mw hZ hw 87 rfl) (by decide) (backOf (W := 0) (rm_psL l Z a0 hw [] rb cb sa h0 n0 (own_old0 Y0) Y0 zc fm S (16 : Int32) cb tb kb vb ⟨Bb.1, Bb.2.1, Bb.2.2.1, Bb.2.2.2.1, Bb.2.2.2.2.1, Bb.2.2.2.2.2.1, Bb.2.2.2.2.2.2⟩ gr gt ta ka Na va Xa dp dn kn hgb hvl hva) hZ (ww hw 90 rfl) (ww hw 48 rfl) (by decide) (by decide)) q6a q6c (g := (mkF m 30 #[rv rb, rv sa, iv ln] [(.ref sa), (.int cb), (.ref rb)])) rfl (by rw [hml]; rfl) (Steps.refl _) (argsL := [(.int cb), (.ref sa)]) (rest := []) (lenOf pd_21 rfl) rfl own_z (hb hby d11_30) (fun _ _ => ⟨rfl, e5, (by decide : 0 + 0 ≤ _), (by decide : 0 + 0 ≤ _)⟩)
  dsimp only [Pt.U, Pt.locs, Pt.cells, Pt.slots] at X6 l6 y6 z6 st6 hQ6
  rw [y6, z6] at X6
  obtain ⟨rfl, N6q, Kc6, Vc6⟩ := hQ6
  have N6 := own_fr l6 N3 N6q
  have E6_rb := Bb.1.keep Kc6
  have F6_rb_value := Bb.2.1.keep Kc6 (ninS (Ne.symm Bb.2.2.2.2.2.2) nin0)
  have F6_rb_coder := Bb.2.2.1.keep Kc6 (ninS (Ne.symm Bb.2.2.2.2.2.2) nin0)
  have F6_rb_count := Bb.2.2.2.1.keep Kc6 (ninS (Ne.symm Bb.2.2.2.2.2.2) nin0)
  have F6_rb_maybeLatin1 := Bb.2.2.2.2.1.keep Kc6 (ninS (Ne.symm Bb.2.2.2.2.2.2) nin0)
  have K6k : Keep h0 T6.heap [rb, tb] := Keep.trans (Keep.refl h0 [rb, tb]) Kc6 (allS (Or.inl (List.mem_of_getElem? (i := 1) rfl)) all0)
  obtain ⟨T7, X7, e7, st7⟩ := getF X6 hx hZ hown (host := "") (Or.inl (ww hw 79 rfl)) Via.refl rfl F6_rb_count (g := (mkF m 35 #[rv rb, rv sa, iv ln] [(.ref rb), (.ref rb)])) rfl rfl (hb hby d11_35)
  obtain ⟨T8, h8, X8, e8, W8, st8⟩ := putF X7 hx hZ hown (host := "") (Or.inl (ww hw 79 rfl)) Via.refl e7 F6_rb_count E6_rb (Or.inl (ww hw 80 rfl)) (ww hw 39 rfl) (ty := .int) (by decide) rfl rfl (g := (mkF m 40 #[rv rb, rv sa, iv ln] [(.int mc), (.ref rb)])) rfl rfl (hb hby d11_40)
  have E8_rb := E6_rb.wr W8
  have V8_tb := Vc6.other W8 Bb.2.2.2.2.2.2
  have F8_rb_value := F6_rb_value.other W8 (Or.inr (slot_ne (Or.inl (ww hw 53 rfl)) (Or.inl (ww hw 80 rfl)) (by decide) (t := (.array .byte)) (t' := .int) (by decide) (by decide)))
  have F8_rb_coder := F6_rb_coder.other W8 (Or.inr (slot_ne (Or.inl (ww hw 55 rfl)) (Or.inl (ww hw 80 rfl)) (by decide) (t := .byte) (t' := .int) (by decide) (by decide)))
  have F8_rb_count := F6_rb_count.same W8
  have F8_rb_maybeLatin1 := F6_rb_maybeLatin1.other W8 (Or.inr (slot_ne (Or.inl (ww hw 305 rfl)) (Or.inl (ww hw 80 rfl)) (by decide) (t := .boolean) (t' := .int) (by decide) (by decide)))
  have K8 : Keep h0 h8 [rb, tb] := K6k.wr W8 (Or.inl (List.mem_of_getElem? (i := 0) rfl))
  have N8 := Fr.snoc X8 N6 gr
  have pre9 : Pr p e below (T8.setTop (mkF m 44 #[rv rb, rv sa, iv ln] [(.ref rb)])) (s₁.setTop (entryFrame m #[(.ref rb), (.ref sa)] 3)) := fun t k => pre4 t (by
    show Steps _ _ _ (T3.setTop (mkF m 25 #[rv rb, rv sa, iv ln] [(.ref rb)])) _
    refine XS.aloadN X3.here hx rfl (hb hby d11_25) rfl rfl ?_
    refine st5 _ ?_
    refine XS.aloadN X5.here hx rfl (hb hby d11_29) rfl rfl ?_
    refine st6.trans ?_
    refine XS.aloadN X6.here hx rfl (hb hby d11_33) rfl rfl ?_
    refine XS.dup X6.here hx rfl (hb hby d11_34) rfl rfl ?_
    refine st7 _ ?_
    refine XS.iloadN X7.here hx rfl (hb hby d11_38) rfl ?_
    refine XS.iadd X7.here hx rfl (hb hby d11_39) rfl ?_
    show Steps _ _ _ (T7.setTop (mkF m 40 #[rv rb, rv sa, iv ln] [(.int (cb + ln)), (.ref rb)])) _
    refine castTop (g' := (mkF m 40 #[rv rb, rv sa, iv ln] [(.int mc), (.ref rb)])) (by rw [hmc]) ?_
    refine st8 _ ?_
    refine XS.aloadN X8.here hx rfl (hb hby d11_43) rfl rfl ?_
    exact k)
  obtain ⟨fs, hr, hrun, hended, hW, hsame⟩ := X8.leave (v := some (.ref rb)) (fun h => by rw [Bd.returns] at h; cases h)
  refine ⟨_, _, pre9 _ ?_, hrun, hended, _, _, rfl, ?_, ⟨_, rfl⟩, hW, hsame.mono (by decide) (by decide)⟩
  · show Steps _ _ _ (T8.setTop (mkF m 44 #[rv rb, rv sa, iv ln] [(.ref rb)])) _
    exact retOut X8 hx Bd.returns rfl (Or.inr (Or.inr (Or.inr (Or.inr ⟨rfl, rfl, rfl⟩)))) (hb hby d11_44) hr
  · show (Qb Z rb tb kb (16 : Int32) (vb.take dn ++ va ++ vb.drop (dn + kn)) (0 : Int32) mc (some (.ref rb))) h0 n0 _ T8.heap _
    rw [e8]
    exact ⟨rfl, N8, K8, ⟨E8_rb, F8_rb_value, F8_rb_coder, F8_rb_count, F8_rb_maybeLatin1, V8_tb, Bb.2.2.2.2.2.2⟩⟩
theorem rm_sbN (l : Launch) (Z : State) (a0 : Array Value) (hw : ∀ d ∈ tables_1, d.before a0 Z = true) (ws : List Jvm.Cond) (rb : Addr) (sa : Addr) (h0 : Heap) (n0 : Nat) (Z0 : n0 ≤ h0.size) (Y0 : Old Z n0 h0) (zc : Int32) (fm : Value) (S : Sts Z Z.heap zc fm) (cb : Int32) (tb : Addr) (kb : ClassId) (vb : List Value) (Bb : SB Z h0 rb tb kb (16 : Int32) vb (0 : Int32) cb) (gr : n0 ≤ rb) (gt : n0 ≤ tb) (ta : Addr) (ka : ClassId) (Na : Int32) (va : List Value) (Xa : TX Z h0 sa ta ka Na va (0 : Int32)) (nta : ta ≠ tb) (ln mc : Int32) (hln : (Na >>> ((0 : Int32) &&& 31)) = ln) (hmc : (cb + ln) = mc) (hng : ¬ (0 : Int32) < (mc - (16 : Int32))) (dp : Int32) (dn kn : Nat) (hgb : GBX cb (0 : Int32) dp Na (16 : Int32) dn kn) (hvl : dn + kn ≤ vb.length) (hva : va.length = kn)  :
    MFa l mN34 jdk_67_method_7_code 2 (some (.object "java/lang/StringBuilder")) ws (Room.mk 4 0 0 61) Z h0 n0 #[(.ref rb), (.ref sa)] (Qb Z rb tb kb (16 : Int32) (vb.take dn ++ va ++ vb.drop (dn + kn)) (0 : Int32) mc (some (.ref rb))) := by
  refine MetFree.of_bodySF (plainFor_of_name pn_27) hisR ?_
  intro p e s m args below meth c s₁ Bd hml0 hP hK
  obtain ⟨rfl, hZ, hh⟩ := hP
  have hx := Bd.exec
  have hby := Bd.bytes
  have hml : c.maxLocals = 2 := hml0
  have hown : s.vm.findClass "java/lang/StringBuilder" = some m.cls := findClass_of_methodNamed Bd.named
  have X0 : Stand p l e (Room.mk 4 0 0 61) s m #[(.ref rb), (.ref sa)] below meth c s₁ [] 0 0 := Stand.of_body Bd
  have e0 : s₁.heap = h0 := by rw [← hh, Bd.state]; rfl
  have N0 := Fr.nil n0
  have pre0 : Pr p e below (s₁.setTop (mkF m 0 #[rv rb, rv sa] [])) (s₁.setTop (entryFrame m #[(.ref rb), (.ref sa)] 2)) := fun t k => castTop (by first | (simp [entryFrame, mkF, argsToLocals, Value.category]; done) | rfl) k
  obtain ⟨_, _, ⟨T1, L1, k1, n1⟩, -, X1, ⟨Lc1, hQ1, l1, y1, z1⟩, st1⟩ := superBack X0 hx hZ (y := mN33) hown (ww hw 64 rfl) (own_same (ww hw 65 rfl) (own_nf (args := a0) (y' := mN5) rfl (ww hw 84 rfl) (ww hw 82 rfl)) (by decide)) (ww hw 65 rfl) (ww hw 66 rfl) (by decide) (backOf (W := 0) (rm_apN l Z a0 hw [] rb sa h0 n0 (own_old0 Y0) Y0 zc fm S cb tb kb vb Bb gr gt ta ka Na va Xa nta ln mc hln hmc hng dp dn kn hgb hvl hva) hZ (ww hw 68 rfl) (ww hw 48 rfl) (by decide) (by decide)) e0 (Ins.self Bb.1) (g := (mkF m 2 #[rv rb, rv sa] [(.ref sa), (.ref rb)])) rfl (by rw [hml]; rfl) (ww hw 68 rfl) (argsL := [(.ref sa)]) (rest := []) (lenOf pd_22 rfl) rfl own_z (hb hby d10_2) (fun _ _ => ⟨rfl, e0, (by decide : 0 + 0 ≤ _), (by decide : 0 + 0 ≤ _)⟩)
  dsimp only [Pt.U, Pt.locs, Pt.cells, Pt.slots] at X1 l1 y1 z1 st1 hQ1
  rw [y1, z1] at X1
  obtain ⟨rfl, N1q, Kc1, Bc1⟩ := hQ1
  have N1 := own_fr l1 N0 N1q
  have K1k : Keep h0 T1.heap [rb, tb] := Keep.trans (Keep.refl h0 [rb, tb]) Kc1 (allS (Or.inl (List.mem_of_getElem? (i := 0) rfl)) (allS (Or.inl (List.mem_of_getElem? (i := 1) rfl)) all0))
  have pre2 : Pr p e below (T1.setTop (mkF m 7 #[rv rb, rv sa] [(.ref rb)])) (s₁.setTop (entryFrame m #[(.ref rb), (.ref sa)] 2)) := fun t k => pre0 t (by
    show Steps _ _ _ (s₁.setTop (mkF m 0 #[rv rb, rv sa] [])) _
    refine XS.aloadN X0.here hx rfl (hb hby d10_0) rfl rfl ?_
    refine XS.aloadN X0.here hx rfl (hb hby d10_1) rfl rfl ?_
    refine st1.trans ?_
    refine XS.pop X1.here hx rfl (hb hby d10_5) rfl rfl ?_
    refine XS.aloadN X1.here hx rfl (hb hby d10_6) rfl rfl ?_
    exact k)
  obtain ⟨fs, hr, hrun, hended, hW, hsame⟩ := X1.leave (v := some (.ref rb)) (fun h => by rw [Bd.returns] at h; cases h)
  refine ⟨_, _, pre2 _ ?_, hrun, hended, _, _, rfl, ?_, ⟨_, rfl⟩, hW, hsame.mono (by decide) (by decide)⟩
  · show Steps _ _ _ (T1.setTop (mkF m 7 #[rv rb, rv sa] [(.ref rb)])) _
    exact retOut X1 hx Bd.returns rfl (Or.inr (Or.inr (Or.inr (Or.inr ⟨rfl, rfl, rfl⟩)))) (hb hby d10_7) hr
  · show (Qb Z rb tb kb (16 : Int32) (vb.take dn ++ va ++ vb.drop (dn + kn)) (0 : Int32) mc (some (.ref rb))) h0 n0 _ T1.heap _
    exact ⟨rfl, N1, K1k, ⟨Bc1.1, Bc1.2.1, Bc1.2.2.1, Bc1.2.2.2.1, Bc1.2.2.2.2.1, Bc1.2.2.2.2.2.1, Bc1.2.2.2.2.2.2⟩⟩
theorem rm_apG (l : Launch) (Z : State) (a0 : Array Value) (hw : ∀ d ∈ tables_1, d.before a0 Z = true) (ws : List Jvm.Cond) (rb : Addr) (sa : Addr) (h0 : Heap) (n0 : Nat) (Z0 : n0 ≤ h0.size) (Y0 : Old Z n0 h0) (zc : Int32) (fm : Value) (S : Sts Z Z.heap zc fm) (cb : Int32) (nb gw pg nn rr cap : Int32) (kx ky : Nat) (tb : Addr) (kb : ClassId) (vb : List Value) (Bb : SB Z h0 rb tb kb nb vb (0 : Int32) cb) (gr : n0 ≤ rb) (gt : n0 ≤ tb) (ta : Addr) (ka : ClassId) (Na : Int32) (va : List Value) (Xa : TX Z h0 sa ta ka Na va (0 : Int32)) (nta : ta ≠ tb) (ln mc : Int32) (hln : (Na >>> ((0 : Int32) &&& 31)) = ln) (hmc : (cb + ln) = mc) (hg : GR mc nb (0 : Int32) gw pg nn rr cap kx ky) (hvb : vb.length = kx) (dp : Int32) (dn kn : Nat) (hgb : GBX cb (0 : Int32) dp Na nn dn kn) (hvl : dn + kn ≤ (vb ++ List.replicate (ky - kx) (Value.int 0)).length) (hva : va.length = kn)  :
    MFa l mN33 jdk_68_method_22_code 3 (some (.object "java/lang/AbstractStringBuilder")) ws (Room.mk 4 1 68 62) Z h0 n0 #[(.ref rb), (.ref sa)] (Qg Z rb nn ((vb ++ List.replicate (ky - kx) (Value.int 0)).take dn ++ va ++ (vb ++ List.replicate (ky - kx) (Value.int 0)).drop (dn + kn)) (0 : Int32) mc (some (.ref rb))) := by
  refine MetFree.of_bodySF (plainFor_of_name pn_26) hisR ?_
  intro p e s m args below meth c s₁ Bd hml0 hP hK
  obtain ⟨rfl, hZ, hh⟩ := hP
  have hx := Bd.exec
  have hby := Bd.bytes
  have hml : c.maxLocals = 3 := hml0
  have hown : s.vm.findClass "java/lang/AbstractStringBuilder" = some m.cls := findClass_of_methodNamed Bd.named
  have X0 : Stand p l e (Room.mk 4 1 68 62) s m #[(.ref rb), (.ref sa)] below meth c s₁ [] 0 0 := Stand.of_body Bd
  have e0 : s₁.heap = h0 := by rw [← hh, Bd.state]; rfl
  have N0 := Fr.nil n0
  have pre0 : Pr p e below (s₁.setTop (mkF m 0 #[rv rb, rv sa, .unset] [])) (s₁.setTop (entryFrame m #[(.ref rb), (.ref sa)] 3)) := fun t k => castTop (by first | (simp [entryFrame, mkF, argsToLocals, Value.category]; done) | rfl) k
  have sep := own_sep Xa Bb (ww hw 3 rfl) (ww hw 39 rfl)
  obtain ⟨cq1, kq1, q1a, q1b, q1c⟩ := isOf hZ e0 Xa.1
  obtain ⟨_, _, ⟨T1, L1, k1, n1⟩, -, X1, ⟨Lc1, hQ1, l1, y1, z1⟩, st1⟩ := X0.virtualBack hx (y := mN1) (z := mN1) hown (mw hZ hw 69 rfl) (mw hZ hw 70 rfl) (notFace_of_selects (args := #[]) (mw hZ hw 72 rfl)) (mw hZ hw 72 rfl) (mw hZ hw 71 rfl) (by decide) (backOf (W := 0) (rm_len l Z a0 hw [] sa h0 n0 (own_old0 Y0) Y0 zc fm S (0 : Int32) (Or.inl rfl) ta ka Na va Xa ln hln) hZ (ww hw 73 rfl) (ww hw 4 rfl) (by decide) (by decide)) q1a q1c (g := (mkF m 10 #[rv rb, rv sa, .unset] [(.ref sa)])) rfl (by rw [hml]; rfl) (Steps.refl _) (argsL := []) (rest := []) (lenOf pd_1 rfl) rfl own_z (hb hby d11_10) (fun _ _ => ⟨rfl, e0, (by decide : 0 + 0 ≤ _), (by decide : 0 + 0 ≤ _)⟩)
  dsimp only [Pt.U, Pt.locs, Pt.cells, Pt.slots] at X1 l1 y1 z1 st1 hQ1
  rw [y1, z1] at X1
  obtain ⟨rfl, N1q, e1⟩ := hQ1
  have N1 := own_fr l1 N0 N1q
  obtain ⟨T2, X2, e2, st2⟩ := getF X1 hx hZ hown (host := "") (Or.inl (ww hw 79 rfl)) Via.refl e1 Bb.2.2.2.1 (g := (mkF m 16 #[rv rb, rv sa, iv ln] [(.ref rb), (.ref rb)])) rfl rfl (hb hby d11_16)
  obtain ⟨cq3, kq3, q3a, q3b, q3c⟩ := isOf hZ e2 Bb.1
  obtain ⟨_, _, ⟨T3, L3, k3, n3⟩, -, X3, ⟨Lc3, hQ3, l3, y3, z3⟩, st3⟩ := X2.virtualBack hx (y := mN5) (z := mN5) hown (mw hZ hw 81 rfl) (mvT hZ (own_decl (ww hw 82 rfl) (ww hw 85 rfl))) (notFace_of_selects (args := #[]) (mw hZ hw 84 rfl)) (mw hZ hw 84 rfl) (mw hZ hw 82 rfl) (by decide) (backOf (W := 0) (rm_eg l Z a0 hw [] rb mc h0 n0 (own_old0 Y0) Y0 zc fm S cb (0 : Int32) nb gw pg nn rr cap kx ky hg tb kb vb ⟨Bb.1, Bb.2.1, Bb.2.2.1, Bb.2.2.2.1, Bb.2.2.2.2.1, Bb.2.2.2.2.2.1, Bb.2.2.2.2.2.2⟩ gr gt hvb) hZ (ww hw 85 rfl) (ww hw 48 rfl) (by decide) (by decide)) q3a q3c (g := (mkF m 21 #[rv rb, rv sa, iv ln] [(.int mc), (.ref rb)])) rfl (by rw [hml]; rfl) (Steps.refl _) (argsL := [(.int mc)]) (rest := []) (lenOf pd_20 rfl) rfl own_z (hb hby d11_21) (fun _ _ => ⟨rfl, e2, (by decide : 0 + 1 ≤ _), (by decide : 0 + 68 ≤ _)⟩)
  dsimp only [Pt.U, Pt.locs, Pt.cells, Pt.slots] at X3 l3 y3 z3 st3 hQ3
  rw [y3, z3] at X3
  obtain ⟨u3, ku3, rfl, N3q, Kc3, zz3, Bc3⟩ := hQ3
  have N3 := own_fr l3 N1 N3q
  have ne_rb_u3 : rb ≠ u3 := Nat.ne_of_lt (Nat.lt_of_lt_of_le Bb.1.lt zz3)
  have z_u3 : h0.size ≤ u3 := Nat.le_trans (Nat.le_refl h0.size) zz3
  have g_u3 : n0 ≤ u3 := Nat.le_trans Z0 z_u3
  have Xa_3 := Xa.keep Kc3 (ninS sep.1 nin0) (ninS sep.2.1 nin0)
  have Y3 := Old.keep Y0 Kc3 (allS gr all0)
  have K3k : Keep h0 T3.heap [rb] := Keep.trans (Keep.refl h0 [rb]) Kc3 (allS (Or.inl (List.mem_of_getElem? (i := 0) rfl)) all0)
  have pre4 : Pr p e below (T3.setTop (mkF m 25 #[rv rb, rv sa, iv ln] [(.ref rb)])) (s₁.setTop (entryFrame m #[(.ref rb), (.ref sa)] 3)) := fun t k => pre0 t (by
    show Steps _ _ _ (s₁.setTop (mkF m 0 #[rv rb, rv sa, .unset] [])) _
    refine XS.aloadN X0.here hx rfl (hb hby d11_0) rfl rfl ?_
    refine XS.ifnonnullYes X0.here hx rfl (pc0 := 1) (pc' := 9) rfl (hb hby d11_1) rfl (by decide) (by decide) ?_
    refine XS.aloadN X0.here hx rfl (hb hby d11_9) rfl rfl ?_
    refine st1.trans ?_
    refine XS.istoreN X1.here hx rfl (hb hby d11_13) rfl (l' := #[rv rb, rv sa, iv ln]) rfl ?_
    refine XS.aloadN X1.here hx rfl (hb hby d11_14) rfl rfl ?_
    refine XS.aloadN X1.here hx rfl (hb hby d11_15) rfl rfl ?_
    refine st2 _ ?_
    refine XS.iloadN X2.here hx rfl (hb hby d11_19) rfl ?_
    refine XS.iadd X2.here hx rfl (hb hby d11_20) rfl ?_
    show Steps _ _ _ (T2.setTop (mkF m 21 #[rv rb, rv sa, iv ln] [(.int (cb + ln)), (.ref rb)])) _
    refine castTop (g' := (mkF m 21 #[rv rb, rv sa, iv ln] [(.int mc), (.ref rb)])) (by rw [hmc]) ?_
    refine st3.trans ?_
    refine XS.aloadN X3.here hx rfl (hb hby d11_24) rfl rfl ?_
    exact k)
  obtain ⟨T5, X5, e5, st5⟩ := getF X3 hx hZ hown (host := "") (Or.inl (ww hw 79 rfl)) Via.refl rfl Bc3.2.2.2.1 (g := (mkF m 26 #[rv rb, rv sa, iv ln] [(.ref rb), (.ref rb)])) rfl rfl (hb hby d11_26)
  obtain ⟨cq6, kq6, q6a, q6b, q6c⟩ := isOf hZ e5 Bc3.1
  obtain ⟨_, _, ⟨T6, L6, k6, n6⟩, -, X6, ⟨Lc6, hQ6, l6, y6, z6⟩, st6⟩ := X5.virtualBack hx (y := mN32) (z := mN32) hown (mw hZ hw 86 rfl) (mvT hZ (own_decl (ww hw 87 rfl) (ww hw 90 rfl))) (notFace_of_selects (args := #[]) (mw hZ hw 89 rfl)) (mw hZ hw 89 rfl) (mw hZ hw 87 rfl) (by decide) (backOf (W := 0) (rm_psL l Z a0 hw [] rb cb sa T3.heap n0 (own_old0 Y3) Y3 zc fm S nn cb u3 ku3 (vb ++ List.replicate (ky - kx) (Value.int 0)) ⟨Bc3.1, Bc3.2.1, Bc3.2.2.1, Bc3.2.2.2.1, Bc3.2.2.2.2.1, Bc3.2.2.2.2.2.1, Bc3.2.2.2.2.2.2⟩ gr g_u3 ta ka Na va Xa_3 dp dn kn hgb hvl hva) hZ (ww hw 90 rfl) (ww hw 48 rfl) (by decide) (by decide)) q6a q6c (g := (mkF m 30 #[rv rb, rv sa, iv ln] [(.ref sa), (.int cb), (.ref rb)])) rfl (by rw [hml]; rfl) (Steps.refl _) (argsL := [(.int cb), (.ref sa)]) (rest := []) (lenOf pd_21 rfl) rfl own_z (hb hby d11_30) (fun _ _ => ⟨rfl, e5, (by decide : 1 + 0 ≤ _), (by decide : 68 + 0 ≤ _)⟩)
  dsimp only [Pt.U, Pt.locs, Pt.cells, Pt.slots] at X6 l6 y6 z6 st6 hQ6
  rw [y6, z6] at X6
  obtain ⟨rfl, N6q, Kc6, Vc6⟩ := hQ6
  have N6 := own_fr l6 N3 N6q
  have E6_rb := Bc3.1.keep Kc6
  have F6_rb_value := Bc3.2.1.keep Kc6 (ninS ne_rb_u3 nin0)
  have F6_rb_coder := Bc3.2.2.1.keep Kc6 (ninS ne_rb_u3 nin0)
  have F6_rb_count := Bc3.2.2.2.1.keep Kc6 (ninS ne_rb_u3 nin0)
  have F6_rb_maybeLatin1 := Bc3.2.2.2.2.1.keep Kc6 (ninS ne_rb_u3 nin0)
  have K6k : Keep h0 T6.heap [rb] := Keep.trans K3k Kc6 (allS (Or.inr z_u3) all0)
  obtain ⟨T7, X7, e7, st7⟩ := getF X6 hx hZ hown (host := "") (Or.inl (ww hw 79 rfl)) Via.refl rfl F6_rb_count (g := (mkF m 35 #[rv rb, rv sa, iv ln] [(.ref rb), (.ref rb)])) rfl rfl (hb hby d11_35)
  obtain ⟨T8, h8, X8, e8, W8, st8⟩ := putF X7 hx hZ hown (host := "") (Or.inl (ww hw 79 rfl)) Via.refl e7 F6_rb_count E6_rb (Or.inl (ww hw 80 rfl)) (ww hw 39 rfl) (ty := .int) (by decide) rfl rfl (g := (mkF m 40 #[rv rb, rv sa, iv ln] [(.int mc), (.ref rb)])) rfl rfl (hb hby d11_40)
  have E8_rb := E6_rb.wr W8
  have V8_u3 := Vc6.other W8 Bc3.2.2.2.2.2.2
  have F8_rb_value := F6_rb_value.other W8 (Or.inr (slot_ne (Or.inl (ww hw 53 rfl)) (Or.inl (ww hw 80 rfl)) (by decide) (t := (.array .byte)) (t' := .int) (by decide) (by decide)))
  have F8_rb_coder := F6_rb_coder.other W8 (Or.inr (slot_ne (Or.inl (ww hw 55 rfl)) (Or.inl (ww hw 80 rfl)) (by decide) (t := .byte) (t' := .int) (by decide) (by decide)))
  have F8_rb_count := F6_rb_count.same W8
  have F8_rb_maybeLatin1 := F6_rb_maybeLatin1.other W8 (Or.inr (slot_ne (Or.inl (ww hw 305 rfl)) (Or.inl (ww hw 80 rfl)) (by decide) (t := .boolean) (t' := .int) (by decide) (by decide)))
  have K8 : Keep h0 h8 [rb] := K6k.wr W8 (Or.inl (List.mem_of_getElem? (i := 0) rfl))
  have N8 := Fr.snoc X8 N6 gr
  have pre9 : Pr p e below (T8.setTop (mkF m 44 #[rv rb, rv sa, iv ln] [(.ref rb)])) (s₁.setTop (entryFrame m #[(.ref rb), (.ref sa)] 3)) := fun t k => pre4 t (by
    show Steps _ _ _ (T3.setTop (mkF m 25 #[rv rb, rv sa, iv ln] [(.ref rb)])) _
    refine XS.aloadN X3.here hx rfl (hb hby d11_25) rfl rfl ?_
    refine st5 _ ?_
    refine XS.aloadN X5.here hx rfl (hb hby d11_29) rfl rfl ?_
    refine st6.trans ?_
    refine XS.aloadN X6.here hx rfl (hb hby d11_33) rfl rfl ?_
    refine XS.dup X6.here hx rfl (hb hby d11_34) rfl rfl ?_
    refine st7 _ ?_
    refine XS.iloadN X7.here hx rfl (hb hby d11_38) rfl ?_
    refine XS.iadd X7.here hx rfl (hb hby d11_39) rfl ?_
    show Steps _ _ _ (T7.setTop (mkF m 40 #[rv rb, rv sa, iv ln] [(.int (cb + ln)), (.ref rb)])) _
    refine castTop (g' := (mkF m 40 #[rv rb, rv sa, iv ln] [(.int mc), (.ref rb)])) (by rw [hmc]) ?_
    refine st8 _ ?_
    refine XS.aloadN X8.here hx rfl (hb hby d11_43) rfl rfl ?_
    exact k)
  obtain ⟨fs, hr, hrun, hended, hW, hsame⟩ := X8.leave (v := some (.ref rb)) (fun h => by rw [Bd.returns] at h; cases h)
  refine ⟨_, _, pre9 _ ?_, hrun, hended, _, _, rfl, ?_, ⟨_, rfl⟩, hW, hsame.mono (by decide) (by decide)⟩
  · show Steps _ _ _ (T8.setTop (mkF m 44 #[rv rb, rv sa, iv ln] [(.ref rb)])) _
    exact retOut X8 hx Bd.returns rfl (Or.inr (Or.inr (Or.inr (Or.inr ⟨rfl, rfl, rfl⟩)))) (hb hby d11_44) hr
  · show (Qg Z rb nn ((vb ++ List.replicate (ky - kx) (Value.int 0)).take dn ++ va ++ (vb ++ List.replicate (ky - kx) (Value.int 0)).drop (dn + kn)) (0 : Int32) mc (some (.ref rb))) h0 n0 _ T8.heap _
    rw [e8]
    exact ⟨_, _, rfl, N8, K8, z_u3, ⟨E8_rb, F8_rb_value, F8_rb_coder, F8_rb_count, F8_rb_maybeLatin1, V8_u3, Bc3.2.2.2.2.2.2⟩⟩
theorem rm_sbG (l : Launch) (Z : State) (a0 : Array Value) (hw : ∀ d ∈ tables_1, d.before a0 Z = true) (ws : List Jvm.Cond) (rb : Addr) (sa : Addr) (h0 : Heap) (n0 : Nat) (Z0 : n0 ≤ h0.size) (Y0 : Old Z n0 h0) (zc : Int32) (fm : Value) (S : Sts Z Z.heap zc fm) (cb : Int32) (nb gw pg nn rr cap : Int32) (kx ky : Nat) (tb : Addr) (kb : ClassId) (vb : List Value) (Bb : SB Z h0 rb tb kb nb vb (0 : Int32) cb) (gr : n0 ≤ rb) (gt : n0 ≤ tb) (ta : Addr) (ka : ClassId) (Na : Int32) (va : List Value) (Xa : TX Z h0 sa ta ka Na va (0 : Int32)) (nta : ta ≠ tb) (ln mc : Int32) (hln : (Na >>> ((0 : Int32) &&& 31)) = ln) (hmc : (cb + ln) = mc) (hg : GR mc nb (0 : Int32) gw pg nn rr cap kx ky) (hvb : vb.length = kx) (dp : Int32) (dn kn : Nat) (hgb : GBX cb (0 : Int32) dp Na nn dn kn) (hvl : dn + kn ≤ (vb ++ List.replicate (ky - kx) (Value.int 0)).length) (hva : va.length = kn)  :
    MFa l mN34 jdk_67_method_7_code 2 (some (.object "java/lang/StringBuilder")) ws (Room.mk 5 1 68 76) Z h0 n0 #[(.ref rb), (.ref sa)] (Qg Z rb nn ((vb ++ List.replicate (ky - kx) (Value.int 0)).take dn ++ va ++ (vb ++ List.replicate (ky - kx) (Value.int 0)).drop (dn + kn)) (0 : Int32) mc (some (.ref rb))) := by
  refine MetFree.of_bodySF (plainFor_of_name pn_27) hisR ?_
  intro p e s m args below meth c s₁ Bd hml0 hP hK
  obtain ⟨rfl, hZ, hh⟩ := hP
  have hx := Bd.exec
  have hby := Bd.bytes
  have hml : c.maxLocals = 2 := hml0
  have hown : s.vm.findClass "java/lang/StringBuilder" = some m.cls := findClass_of_methodNamed Bd.named
  have X0 : Stand p l e (Room.mk 5 1 68 76) s m #[(.ref rb), (.ref sa)] below meth c s₁ [] 0 0 := Stand.of_body Bd
  have e0 : s₁.heap = h0 := by rw [← hh, Bd.state]; rfl
  have N0 := Fr.nil n0
  have pre0 : Pr p e below (s₁.setTop (mkF m 0 #[rv rb, rv sa] [])) (s₁.setTop (entryFrame m #[(.ref rb), (.ref sa)] 2)) := fun t k => castTop (by first | (simp [entryFrame, mkF, argsToLocals, Value.category]; done) | rfl) k
  obtain ⟨_, _, ⟨T1, L1, k1, n1⟩, -, X1, ⟨Lc1, hQ1, l1, y1, z1⟩, st1⟩ := superBack X0 hx hZ (y := mN33) hown (ww hw 64 rfl) (own_same (ww hw 65 rfl) (own_nf (args := a0) (y' := mN5) rfl (ww hw 84 rfl) (ww hw 82 rfl)) (by decide)) (ww hw 65 rfl) (ww hw 66 rfl) (by decide) (backOf (W := 0) (rm_apG l Z a0 hw [] rb sa h0 n0 (own_old0 Y0) Y0 zc fm S cb nb gw pg nn rr cap kx ky tb kb vb Bb gr gt ta ka Na va Xa nta ln mc hln hmc hg hvb dp dn kn hgb hvl hva) hZ (ww hw 68 rfl) (ww hw 48 rfl) (by decide) (by decide)) e0 (Ins.self Bb.1) (g := (mkF m 2 #[rv rb, rv sa] [(.ref sa), (.ref rb)])) rfl (by rw [hml]; rfl) (ww hw 68 rfl) (argsL := [(.ref sa)]) (rest := []) (lenOf pd_22 rfl) rfl own_z (hb hby d10_2) (fun _ _ => ⟨rfl, e0, (by decide : 0 + 1 ≤ _), (by decide : 0 + 68 ≤ _)⟩)
  dsimp only [Pt.U, Pt.locs, Pt.cells, Pt.slots] at X1 l1 y1 z1 st1 hQ1
  rw [y1, z1] at X1
  obtain ⟨u1, ku1, rfl, N1q, Kc1, zz1, Bc1⟩ := hQ1
  have N1 := own_fr l1 N0 N1q
  have z_u1 : h0.size ≤ u1 := Nat.le_trans (Nat.le_refl h0.size) zz1
  have K1k : Keep h0 T1.heap [rb] := Keep.trans (Keep.refl h0 [rb]) Kc1 (allS (Or.inl (List.mem_of_getElem? (i := 0) rfl)) all0)
  have pre2 : Pr p e below (T1.setTop (mkF m 7 #[rv rb, rv sa] [(.ref rb)])) (s₁.setTop (entryFrame m #[(.ref rb), (.ref sa)] 2)) := fun t k => pre0 t (by
    show Steps _ _ _ (s₁.setTop (mkF m 0 #[rv rb, rv sa] [])) _
    refine XS.aloadN X0.here hx rfl (hb hby d10_0) rfl rfl ?_
    refine XS.aloadN X0.here hx rfl (hb hby d10_1) rfl rfl ?_
    refine st1.trans ?_
    refine XS.pop X1.here hx rfl (hb hby d10_5) rfl rfl ?_
    refine XS.aloadN X1.here hx rfl (hb hby d10_6) rfl rfl ?_
    exact k)
  obtain ⟨fs, hr, hrun, hended, hW, hsame⟩ := X1.leave (v := some (.ref rb)) (fun h => by rw [Bd.returns] at h; cases h)
  refine ⟨_, _, pre2 _ ?_, hrun, hended, _, _, rfl, ?_, ⟨_, rfl⟩, hW, hsame.mono (by decide) (by decide)⟩
  · show Steps _ _ _ (T1.setTop (mkF m 7 #[rv rb, rv sa] [(.ref rb)])) _
    exact retOut X1 hx Bd.returns rfl (Or.inr (Or.inr (Or.inr (Or.inr ⟨rfl, rfl, rfl⟩)))) (hb hby d10_7) hr
  · show (Qg Z rb nn ((vb ++ List.replicate (ky - kx) (Value.int 0)).take dn ++ va ++ (vb ++ List.replicate (ky - kx) (Value.int 0)).drop (dn + kn)) (0 : Int32) mc (some (.ref rb))) h0 n0 _ T1.heap _
    exact ⟨_, _, rfl, N1, K1k, z_u1, ⟨Bc1.1, Bc1.2.1, Bc1.2.2.1, Bc1.2.2.2.1, Bc1.2.2.2.2.1, Bc1.2.2.2.2.2.1, Bc1.2.2.2.2.2.2⟩⟩
theorem rm_apM (l : Launch) (Z : State) (a0 : Array Value) (hw : ∀ d ∈ tables_1, d.before a0 Z = true) (ws : List Jvm.Cond) (rb : Addr) (sa : Addr) (h0 : Heap) (n0 : Nat) (Z0 : n0 ≤ h0.size) (Y0 : Old Z n0 h0) (zc : Int32) (fm : Value) (S : Sts Z Z.heap zc fm) (cb : Int32) (tb : Addr) (kb : ClassId) (vb : List Value) (Bb : SB Z h0 rb tb kb (16 : Int32) vb (0 : Int32) cb) (gr : n0 ≤ rb) (gt : n0 ≤ tb) (ta : Addr) (ka : ClassId) (Na : Int32) (va : List Value) (Xa : TX Z h0 sa ta ka Na va (1 : Int32)) (nta : ta ≠ tb) (ln mc : Int32) (hln : (Na >>> ((1 : Int32) &&& 31)) = ln) (hmc : (cb + ln) = mc) (hng : ¬ (0 : Int32) < (mc - (16 : Int32))) (cs : List Int32) (nn : Nat) (hf : IF (0 : Int32) cb (16 : Int32) (32 : Int32) (16 : Int32) 0 nn 32) (hsrc : ∀ i, i < nn → vb.getD i (Value.int 0) = .int (StrChars.lo8 (cs.getD i 0)) ∧ own_ch (cs.getD i 0)) (dp : Int32) (dn kn : Nat) (hgb : GBX cb (1 : Int32) dp Na (32 : Int32) dn kn) (hvl : dn + kn ≤ (own_inf cs nn 0 0 (List.replicate 32 (Value.int 0))).length) (hva : va.length = kn)  :
    MFa l mN33 jdk_68_method_22_code 3 (some (.object "java/lang/AbstractStringBuilder")) ws (Room.mk 8 1 32 116) Z h0 n0 #[(.ref rb), (.ref sa)] (Qg Z rb (32 : Int32) ((own_inf cs nn 0 0 (List.replicate 32 (Value.int 0))).take dn ++ va ++ (own_inf cs nn 0 0 (List.replicate 32 (Value.int 0))).drop (dn + kn)) (1 : Int32) mc (some (.ref rb))) := by
  refine MetFree.of_bodySF (plainFor_of_name pn_26) hisR ?_
  intro p e s m args below meth c s₁ Bd hml0 hP hK
  obtain ⟨rfl, hZ, hh⟩ := hP
  have hx := Bd.exec
  have hby := Bd.bytes
  have hml : c.maxLocals = 3 := hml0
  have hown : s.vm.findClass "java/lang/AbstractStringBuilder" = some m.cls := findClass_of_methodNamed Bd.named
  have X0 : Stand p l e (Room.mk 8 1 32 116) s m #[(.ref rb), (.ref sa)] below meth c s₁ [] 0 0 := Stand.of_body Bd
  have e0 : s₁.heap = h0 := by rw [← hh, Bd.state]; rfl
  have N0 := Fr.nil n0
  have pre0 : Pr p e below (s₁.setTop (mkF m 0 #[rv rb, rv sa, .unset] [])) (s₁.setTop (entryFrame m #[(.ref rb), (.ref sa)] 3)) := fun t k => castTop (by first | (simp [entryFrame, mkF, argsToLocals, Value.category]; done) | rfl) k
  obtain ⟨cq1, kq1, q1a, q1b, q1c⟩ := isOf hZ e0 Xa.1
  obtain ⟨_, _, ⟨T1, L1, k1, n1⟩, -, X1, ⟨Lc1, hQ1, l1, y1, z1⟩, st1⟩ := X0.virtualBack hx (y := mN1) (z := mN1) hown (mw hZ hw 69 rfl) (mw hZ hw 70 rfl) (notFace_of_selects (args := #[]) (mw hZ hw 72 rfl)) (mw hZ hw 72 rfl) (mw hZ hw 71 rfl) (by decide) (backOf (W := 0) (rm_len l Z a0 hw [] sa h0 n0 (own_old0 Y0) Y0 zc fm S (1 : Int32) (Or.inr rfl) ta ka Na va Xa ln hln) hZ (ww hw 73 rfl) (ww hw 4 rfl) (by decide) (by decide)) q1a q1c (g := (mkF m 10 #[rv rb, rv sa, .unset] [(.ref sa)])) rfl (by rw [hml]; rfl) (Steps.refl _) (argsL := []) (rest := []) (lenOf pd_1 rfl) rfl own_z (hb hby d11_10) (fun _ _ => ⟨rfl, e0, (by decide : 0 + 0 ≤ _), (by decide : 0 + 0 ≤ _)⟩)
  dsimp only [Pt.U, Pt.locs, Pt.cells, Pt.slots] at X1 l1 y1 z1 st1 hQ1
  rw [y1, z1] at X1
  obtain ⟨rfl, N1q, e1⟩ := hQ1
  have N1 := own_fr l1 N0 N1q
  obtain ⟨T2, X2, e2, st2⟩ := getF X1 hx hZ hown (host := "") (Or.inl (ww hw 79 rfl)) Via.refl e1 Bb.2.2.2.1 (g := (mkF m 16 #[rv rb, rv sa, iv ln] [(.ref rb), (.ref rb)])) rfl rfl (hb hby d11_16)
  obtain ⟨cq3, kq3, q3a, q3b, q3c⟩ := isOf hZ e2 Bb.1
  obtain ⟨_, _, ⟨T3, L3, k3, n3⟩, -, X3, ⟨Lc3, hQ3, l3, y3, z3⟩, st3⟩ := X2.virtualBack hx (y := mN5) (z := mN5) hown (mw hZ hw 81 rfl) (mvT hZ (own_decl (ww hw 82 rfl) (ww hw 85 rfl))) (notFace_of_selects (args := #[]) (mw hZ hw 84 rfl)) (mw hZ hw 84 rfl) (mw hZ hw 82 rfl) (by decide) (backOf (W := 0) (rm_en l Z a0 hw [] rb mc h0 n0 (own_old0 Y0) Y0 zc fm S cb tb kb vb ⟨Bb.1, Bb.2.1, Bb.2.2.1, Bb.2.2.2.1, Bb.2.2.2.2.1, Bb.2.2.2.2.2.1, Bb.2.2.2.2.2.2⟩ gr gt hng) hZ (ww hw 85 rfl) (ww hw 48 rfl) (by decide) (by decide)) q3a q3c (g := (mkF m 21 #[rv rb, rv sa, iv ln] [(.int mc), (.ref rb)])) rfl (by rw [hml]; rfl) (Steps.refl _) (argsL := [(.int mc)]) (rest := []) (lenOf pd_20 rfl) rfl own_z (hb hby d11_21) (fun _ _ => ⟨rfl, e2, (by decide : 0 + 0 ≤ _), (by decide : 0 + 0 ≤ _)⟩)
  dsimp only [Pt.U, Pt.locs, Pt.cells, Pt.slots] at X3 l3 y3 z3 st3 hQ3
  rw [y3, z3] at X3
  obtain ⟨rfl, N3q, e3⟩ := hQ3
  have N3 := own_fr l3 N1 N3q
  have pre4 : Pr p e below (T3.setTop (mkF m 25 #[rv rb, rv sa, iv ln] [(.ref rb)])) (s₁.setTop (entryFrame m #[(.ref rb), (.ref sa)] 3)) := fun t k => pre0 t (by
    show Steps _ _ _ (s₁.setTop (mkF m 0 #[rv rb, rv sa, .unset] [])) _
    refine XS.aloadN X0.here hx rfl (hb hby d11_0) rfl rfl ?_
    refine XS.ifnonnullYes X0.here hx rfl (pc0 := 1) (pc' := 9) rfl (hb hby d11_1) rfl (by decide) (by decide) ?_
    refine XS.aloadN X0.here hx rfl (hb hby d11_9) rfl rfl ?_
    refine st1.trans ?_
    refine XS.istoreN X1.here hx rfl (hb hby d11_13) rfl (l' := #[rv rb, rv sa, iv ln]) rfl ?_
    refine XS.aloadN X1.here hx rfl (hb hby d11_14) rfl rfl ?_
    refine XS.aloadN X1.here hx rfl (hb hby d11_15) rfl rfl ?_
    refine st2 _ ?_
    refine XS.iloadN X2.here hx rfl (hb hby d11_19) rfl ?_
    refine XS.iadd X2.here hx rfl (hb hby d11_20) rfl ?_
    show Steps _ _ _ (T2.setTop (mkF m 21 #[rv rb, rv sa, iv ln] [(.int (cb + ln)), (.ref rb)])) _
    refine castTop (g' := (mkF m 21 #[rv rb, rv sa, iv ln] [(.int mc), (.ref rb)])) (by rw [hmc]) ?_
    refine st3.trans ?_
    refine XS.aloadN X3.here hx rfl (hb hby d11_24) rfl rfl ?_
    exact k)
  obtain ⟨T5, X5, e5, st5⟩ := getF X3 hx hZ hown (host := "") (Or.inl (ww hw 79 rfl)) Via.refl e3 Bb.2.2.2.1 (g := (mkF m 26 #[rv rb, rv sa, iv ln] [(.ref rb), (.ref rb)])) rfl rfl (hb hby d11_26)
  obtain ⟨cq6, kq6, q6a, q6b, q6c⟩ := isOf hZ e5 Bb.1
  obtain ⟨_, _, ⟨T6, L6, k6, n6⟩, -, X6, ⟨Lc6, hQ6, l6, y6, z6⟩, st6⟩ := X5.virtualBack hx (y := mN32) (z := mN32) hown (mw hZ hw 86 rfl) (mvT hZ (own_decl (ww hw 87 rfl) (ww hw 90 rfl))) (notFace_of_selects (args := #[]) (mw hZ hw 89 rfl)) (mw hZ hw 89 rfl) (mw hZ hw 87 rfl) (by decide) (backOf (W := 0) (rm_psM l Z a0 hw [] rb cb sa h0 n0 (own_old0 Y0) Y0 zc fm S cb tb kb vb ⟨Bb.1, Bb.2.1, Bb.2.2.1, Bb.2.2.2.1, Bb.2.2.2.2.1, Bb.2.2.2.2.2.1, Bb.2.2.2.2.2.2⟩ gr gt ta ka Na va Xa cs nn hf hsrc dp dn kn hgb hvl hva) hZ (ww hw 90 rfl) (ww hw 48 rfl) (by decide) (by decide)) q6a q6c (g := (mkF m 30 #[rv rb, rv sa, iv ln] [(.ref sa), (.int cb), (.ref rb)])) rfl (by rw [hml]; rfl) (Steps.refl _) (argsL := [(.int cb), (.ref sa)]) (rest := []) (lenOf pd_21 rfl) rfl own_z (hb hby d11_30) (fun _ _ => ⟨rfl, e5, (by decide : 0 + 1 ≤ _), (by decide : 0 + 32 ≤ _)⟩)
  dsimp only [Pt.U, Pt.locs, Pt.cells, Pt.slots] at X6 l6 y6 z6 st6 hQ6
  rw [y6, z6] at X6
  obtain ⟨u6, ku6, rfl, N6q, Kc6, zz6, Bc6⟩ := hQ6
  have N6 := own_fr l6 N3 N6q
  have z_u6 : h0.size ≤ u6 := Nat.le_trans (Nat.le_refl h0.size) zz6
  have K6k : Keep h0 T6.heap [rb] := Keep.trans (Keep.refl h0 [rb]) Kc6 (allS (Or.inl (List.mem_of_getElem? (i := 0) rfl)) all0)
  obtain ⟨T7, X7, e7, st7⟩ := getF X6 hx hZ hown (host := "") (Or.inl (ww hw 79 rfl)) Via.refl rfl Bc6.2.2.2.1 (g := (mkF m 35 #[rv rb, rv sa, iv ln] [(.ref rb), (.ref rb)])) rfl rfl (hb hby d11_35)
  obtain ⟨T8, h8, X8, e8, W8, st8⟩ := putF X7 hx hZ hown (host := "") (Or.inl (ww hw 79 rfl)) Via.refl e7 Bc6.2.2.2.1 Bc6.1 (Or.inl (ww hw 80 rfl)) (ww hw 39 rfl) (ty := .int) (by decide) rfl rfl (g := (mkF m 40 #[rv rb, rv sa, iv ln] [(.int mc), (.ref rb)])) rfl rfl (hb hby d11_40)
  have E8_rb := Bc6.1.wr W8
  have V8_u6 := Bc6.2.2.2.2.2.1.other W8 Bc6.2.2.2.2.2.2
  have F8_rb_value := Bc6.2.1.other W8 (Or.inr (slot_ne (Or.inl (ww hw 53 rfl)) (Or.inl (ww hw 80 rfl)) (by decide) (t := (.array .byte)) (t' := .int) (by decide) (by decide)))
  have F8_rb_coder := Bc6.2.2.1.other W8 (Or.inr (slot_ne (Or.inl (ww hw 55 rfl)) (Or.inl (ww hw 80 rfl)) (by decide) (t := .byte) (t' := .int) (by decide) (by decide)))
  have F8_rb_count := Bc6.2.2.2.1.same W8
  have F8_rb_maybeLatin1 := Bc6.2.2.2.2.1.other W8 (Or.inr (slot_ne (Or.inl (ww hw 305 rfl)) (Or.inl (ww hw 80 rfl)) (by decide) (t := .boolean) (t' := .int) (by decide) (by decide)))
  have K8 : Keep h0 h8 [rb] := K6k.wr W8 (Or.inl (List.mem_of_getElem? (i := 0) rfl))
  have N8 := Fr.snoc X8 N6 gr
  have pre9 : Pr p e below (T8.setTop (mkF m 44 #[rv rb, rv sa, iv ln] [(.ref rb)])) (s₁.setTop (entryFrame m #[(.ref rb), (.ref sa)] 3)) := fun t k => pre4 t (by
    show Steps _ _ _ (T3.setTop (mkF m 25 #[rv rb, rv sa, iv ln] [(.ref rb)])) _
    refine XS.aloadN X3.here hx rfl (hb hby d11_25) rfl rfl ?_
    refine st5 _ ?_
    refine XS.aloadN X5.here hx rfl (hb hby d11_29) rfl rfl ?_
    refine st6.trans ?_
    refine XS.aloadN X6.here hx rfl (hb hby d11_33) rfl rfl ?_
    refine XS.dup X6.here hx rfl (hb hby d11_34) rfl rfl ?_
    refine st7 _ ?_
    refine XS.iloadN X7.here hx rfl (hb hby d11_38) rfl ?_
    refine XS.iadd X7.here hx rfl (hb hby d11_39) rfl ?_
    show Steps _ _ _ (T7.setTop (mkF m 40 #[rv rb, rv sa, iv ln] [(.int (cb + ln)), (.ref rb)])) _
    refine castTop (g' := (mkF m 40 #[rv rb, rv sa, iv ln] [(.int mc), (.ref rb)])) (by rw [hmc]) ?_
    refine st8 _ ?_
    refine XS.aloadN X8.here hx rfl (hb hby d11_43) rfl rfl ?_
    exact k)
  obtain ⟨fs, hr, hrun, hended, hW, hsame⟩ := X8.leave (v := some (.ref rb)) (fun h => by rw [Bd.returns] at h; cases h)
  refine ⟨_, _, pre9 _ ?_, hrun, hended, _, _, rfl, ?_, ⟨_, rfl⟩, hW, hsame.mono (by decide) (by decide)⟩
  · show Steps _ _ _ (T8.setTop (mkF m 44 #[rv rb, rv sa, iv ln] [(.ref rb)])) _
    exact retOut X8 hx Bd.returns rfl (Or.inr (Or.inr (Or.inr (Or.inr ⟨rfl, rfl, rfl⟩)))) (hb hby d11_44) hr
  · show (Qg Z rb (32 : Int32) ((own_inf cs nn 0 0 (List.replicate 32 (Value.int 0))).take dn ++ va ++ (own_inf cs nn 0 0 (List.replicate 32 (Value.int 0))).drop (dn + kn)) (1 : Int32) mc (some (.ref rb))) h0 n0 _ T8.heap _
    rw [e8]
    exact ⟨_, _, rfl, N8, K8, z_u6, ⟨E8_rb, F8_rb_value, F8_rb_coder, F8_rb_count, F8_rb_maybeLatin1, V8_u6, Bc6.2.2.2.2.2.2⟩⟩
theorem rm_sbM (l : Launch) (Z : State) (a0 : Array Value) (hw : ∀ d ∈ tables_1, d.before a0 Z = true) (ws : List Jvm.Cond) (rb : Addr) (sa : Addr) (h0 : Heap) (n0 : Nat) (Z0 : n0 ≤ h0.size) (Y0 : Old Z n0 h0) (zc : Int32) (fm : Value) (S : Sts Z Z.heap zc fm) (cb : Int32) (tb : Addr) (kb : ClassId) (vb : List Value) (Bb : SB Z h0 rb tb kb (16 : Int32) vb (0 : Int32) cb) (gr : n0 ≤ rb) (gt : n0 ≤ tb) (ta : Addr) (ka : ClassId) (Na : Int32) (va : List Value) (Xa : TX Z h0 sa ta ka Na va (1 : Int32)) (nta : ta ≠ tb) (ln mc : Int32) (hln : (Na >>> ((1 : Int32) &&& 31)) = ln) (hmc : (cb + ln) = mc) (hng : ¬ (0 : Int32) < (mc - (16 : Int32))) (cs : List Int32) (nn : Nat) (hf : IF (0 : Int32) cb (16 : Int32) (32 : Int32) (16 : Int32) 0 nn 32) (hsrc : ∀ i, i < nn → vb.getD i (Value.int 0) = .int (StrChars.lo8 (cs.getD i 0)) ∧ own_ch (cs.getD i 0)) (dp : Int32) (dn kn : Nat) (hgb : GBX cb (1 : Int32) dp Na (32 : Int32) dn kn) (hvl : dn + kn ≤ (own_inf cs nn 0 0 (List.replicate 32 (Value.int 0))).length) (hva : va.length = kn)  :
    MFa l mN34 jdk_67_method_7_code 2 (some (.object "java/lang/StringBuilder")) ws (Room.mk 9 1 32 130) Z h0 n0 #[(.ref rb), (.ref sa)] (Qg Z rb (32 : Int32) ((own_inf cs nn 0 0 (List.replicate 32 (Value.int 0))).take dn ++ va ++ (own_inf cs nn 0 0 (List.replicate 32 (Value.int 0))).drop (dn + kn)) (1 : Int32) mc (some (.ref rb))) := by
  refine MetFree.of_bodySF (plainFor_of_name pn_27) hisR ?_
  intro p e s m args below meth c s₁ Bd hml0 hP hK
  obtain ⟨rfl, hZ, hh⟩ := hP
  have hx := Bd.exec
  have hby := Bd.bytes
  have hml : c.maxLocals = 2 := hml0
  have hown : s.vm.findClass "java/lang/StringBuilder" = some m.cls := findClass_of_methodNamed Bd.named
  have X0 : Stand p l e (Room.mk 9 1 32 130) s m #[(.ref rb), (.ref sa)] below meth c s₁ [] 0 0 := Stand.of_body Bd
  have e0 : s₁.heap = h0 := by rw [← hh, Bd.state]; rfl
  have N0 := Fr.nil n0
  have pre0 : Pr p e below (s₁.setTop (mkF m 0 #[rv rb, rv sa] [])) (s₁.setTop (entryFrame m #[(.ref rb), (.ref sa)] 2)) := fun t k => castTop (by first | (simp [entryFrame, mkF, argsToLocals, Value.category]; done) | rfl) k
  obtain ⟨_, _, ⟨T1, L1, k1, n1⟩, -, X1, ⟨Lc1, hQ1, l1, y1, z1⟩, st1⟩ := superBack X0 hx hZ (y := mN33) hown (ww hw 64 rfl) (own_same (ww hw 65 rfl) (own_nf (args := a0) (y' := mN5) rfl (ww hw 84 rfl) (ww hw 82 rfl)) (by decide)) (ww hw 65 rfl) (ww hw 66 rfl) (by decide) (backOf (W := 0) (rm_apM l Z a0 hw [] rb sa h0 n0 (own_old0 Y0) Y0 zc fm S cb tb kb vb Bb gr gt ta ka Na va Xa nta ln mc hln hmc hng cs nn hf hsrc dp dn kn hgb hvl hva) hZ (ww hw 68 rfl) (ww hw 48 rfl) (by decide) (by decide)) e0 (Ins.self Bb.1) (g := (mkF m 2 #[rv rb, rv sa] [(.ref sa), (.ref rb)])) rfl (by rw [hml]; rfl) (ww hw 68 rfl) (argsL := [(.ref sa)]) (rest := []) (lenOf pd_22 rfl) rfl own_z (hb hby d10_2) (fun _ _ => ⟨rfl, e0, (by decide : 0 + 1 ≤ _), (by decide : 0 + 32 ≤ _)⟩)
  dsimp only [Pt.U, Pt.locs, Pt.cells, Pt.slots] at X1 l1 y1 z1 st1 hQ1
  rw [y1, z1] at X1
  obtain ⟨u1, ku1, rfl, N1q, Kc1, zz1, Bc1⟩ := hQ1
  have N1 := own_fr l1 N0 N1q
  have z_u1 : h0.size ≤ u1 := Nat.le_trans (Nat.le_refl h0.size) zz1
  have K1k : Keep h0 T1.heap [rb] := Keep.trans (Keep.refl h0 [rb]) Kc1 (allS (Or.inl (List.mem_of_getElem? (i := 0) rfl)) all0)
  have pre2 : Pr p e below (T1.setTop (mkF m 7 #[rv rb, rv sa] [(.ref rb)])) (s₁.setTop (entryFrame m #[(.ref rb), (.ref sa)] 2)) := fun t k => pre0 t (by
    show Steps _ _ _ (s₁.setTop (mkF m 0 #[rv rb, rv sa] [])) _
    refine XS.aloadN X0.here hx rfl (hb hby d10_0) rfl rfl ?_
    refine XS.aloadN X0.here hx rfl (hb hby d10_1) rfl rfl ?_
    refine st1.trans ?_
    refine XS.pop X1.here hx rfl (hb hby d10_5) rfl rfl ?_
    refine XS.aloadN X1.here hx rfl (hb hby d10_6) rfl rfl ?_
    exact k)
  obtain ⟨fs, hr, hrun, hended, hW, hsame⟩ := X1.leave (v := some (.ref rb)) (fun h => by rw [Bd.returns] at h; cases h)
  refine ⟨_, _, pre2 _ ?_, hrun, hended, _, _, rfl, ?_, ⟨_, rfl⟩, hW, hsame.mono (by decide) (by decide)⟩
  · show Steps _ _ _ (T1.setTop (mkF m 7 #[rv rb, rv sa] [(.ref rb)])) _
    exact retOut X1 hx Bd.returns rfl (Or.inr (Or.inr (Or.inr (Or.inr ⟨rfl, rfl, rfl⟩)))) (hb hby d10_7) hr
  · show (Qg Z rb (32 : Int32) ((own_inf cs nn 0 0 (List.replicate 32 (Value.int 0))).take dn ++ va ++ (own_inf cs nn 0 0 (List.replicate 32 (Value.int 0))).drop (dn + kn)) (1 : Int32) mc (some (.ref rb))) h0 n0 _ T1.heap _
    exact ⟨_, _, rfl, N1, K1k, z_u1, ⟨Bc1.1, Bc1.2.1, Bc1.2.2.1, Bc1.2.2.2.1, Bc1.2.2.2.2.1, Bc1.2.2.2.2.2.1, Bc1.2.2.2.2.2.2⟩⟩
theorem rm_apW (l : Launch) (Z : State) (a0 : Array Value) (hw : ∀ d ∈ tables_1, d.before a0 Z = true) (ws : List Jvm.Cond) (rb : Addr) (sa : Addr) (h0 : Heap) (n0 : Nat) (Z0 : n0 ≤ h0.size) (Y0 : Old Z n0 h0) (zc : Int32) (fm : Value) (S : Sts Z Z.heap zc fm) (cb : Int32) (nb gw pg nn rr cap : Int32) (kx ky : Nat) (tb : Addr) (kb : ClassId) (vb : List Value) (Bb : SB Z h0 rb tb kb nb vb (1 : Int32) cb) (gr : n0 ≤ rb) (gt : n0 ≤ tb) (ta : Addr) (ka : ClassId) (Na : Int32) (va : List Value) (Xa : TX Z h0 sa ta ka Na va (0 : Int32)) (nta : ta ≠ tb) (ln mc : Int32) (hln : (Na >>> ((0 : Int32) &&& 31)) = ln) (hmc : (cb + ln) = mc) (hg : GR mc nb (1 : Int32) gw pg nn rr cap kx ky) (hvb : vb.length = kx) (cs : List Int32) (lw : Int32) (qq nm nd : Nat) (hf : IF cb Na Na nn lw qq nm nd) (hvd : (vb ++ List.replicate (ky - kx) (Value.int 0)).length = nd) (hsrc : ∀ i, i < nm → va.getD i (Value.int 0) = .int (StrChars.lo8 (cs.getD i 0)) ∧ own_ch (cs.getD i 0))  :
    MFa l mN33 jdk_68_method_22_code 3 (some (.object "java/lang/AbstractStringBuilder")) ws (Room.mk 7 1 68 105) Z h0 n0 #[(.ref rb), (.ref sa)] (Qg Z rb nn (own_inf cs nm 0 qq (vb ++ List.replicate (ky - kx) (Value.int 0))) (1 : Int32) mc (some (.ref rb))) := by
  refine MetFree.of_bodySF (plainFor_of_name pn_26) hisR ?_
  intro p e s m args below meth c s₁ Bd hml0 hP hK
  obtain ⟨rfl, hZ, hh⟩ := hP
  have hx := Bd.exec
  have hby := Bd.bytes
  have hml : c.maxLocals = 3 := hml0
  have hown : s.vm.findClass "java/lang/AbstractStringBuilder" = some m.cls := findClass_of_methodNamed Bd.named
  have X0 : Stand p l e (Room.mk 7 1 68 105) s m #[(.ref rb), (.ref sa)] below meth c s₁ [] 0 0 := Stand.of_body Bd
  have e0 : s₁.heap = h0 := by rw [← hh, Bd.state]; rfl
  have N0 := Fr.nil n0
  have pre0 : Pr p e below (s₁.setTop (mkF m 0 #[rv rb, rv sa, .unset] [])) (s₁.setTop (entryFrame m #[(.ref rb), (.ref sa)] 3)) := fun t k => castTop (by first | (simp [entryFrame, mkF, argsToLocals, Value.category]; done) | rfl) k
  have sep := own_sep Xa Bb (ww hw 3 rfl) (ww hw 39 rfl)
  obtain ⟨cq1, kq1, q1a, q1b, q1c⟩ := isOf hZ e0 Xa.1
  obtain ⟨_, _, ⟨T1, L1, k1, n1⟩, -, X1, ⟨Lc1, hQ1, l1, y1, z1⟩, st1⟩ := X0.virtualBack hx (y := mN1) (z := mN1) hown (mw hZ hw 69 rfl) (mw hZ hw 70 rfl) (notFace_of_selects (args := #[]) (mw hZ hw 72 rfl)) (mw hZ hw 72 rfl) (mw hZ hw 71 rfl) (by decide) (backOf (W := 0) (rm_len l Z a0 hw [] sa h0 n0 (own_old0 Y0) Y0 zc fm S (0 : Int32) (Or.inl rfl) ta ka Na va Xa ln hln) hZ (ww hw 73 rfl) (ww hw 4 rfl) (by decide) (by decide)) q1a q1c (g := (mkF m 10 #[rv rb, rv sa, .unset] [(.ref sa)])) rfl (by rw [hml]; rfl) (Steps.refl _) (argsL := []) (rest := []) (lenOf pd_1 rfl) rfl own_z (hb hby d11_10) (fun _ _ => ⟨rfl, e0, (by decide : 0 + 0 ≤ _), (by decide : 0 + 0 ≤ _)⟩)
  dsimp only [Pt.U, Pt.locs, Pt.cells, Pt.slots] at X1 l1 y1 z1 st1 hQ1
  rw [y1, z1] at X1
  obtain ⟨rfl, N1q, e1⟩ := hQ1
  have N1 := own_fr l1 N0 N1q
  obtain ⟨T2, X2, e2, st2⟩ := getF X1 hx hZ hown (host := "") (Or.inl (ww hw 79 rfl)) Via.refl e1 Bb.2.2.2.1 (g := (mkF m 16 #[rv rb, rv sa, iv ln] [(.ref rb), (.ref rb)])) rfl rfl (hb hby d11_16)
  obtain ⟨cq3, kq3, q3a, q3b, q3c⟩ := isOf hZ e2 Bb.1
  obtain ⟨_, _, ⟨T3, L3, k3, n3⟩, -, X3, ⟨Lc3, hQ3, l3, y3, z3⟩, st3⟩ := X2.virtualBack hx (y := mN5) (z := mN5) hown (mw hZ hw 81 rfl) (mvT hZ (own_decl (ww hw 82 rfl) (ww hw 85 rfl))) (notFace_of_selects (args := #[]) (mw hZ hw 84 rfl)) (mw hZ hw 84 rfl) (mw hZ hw 82 rfl) (by decide) (backOf (W := 0) (rm_eg l Z a0 hw [] rb mc h0 n0 (own_old0 Y0) Y0 zc fm S cb (1 : Int32) nb gw pg nn rr cap kx ky hg tb kb vb ⟨Bb.1, Bb.2.1, Bb.2.2.1, Bb.2.2.2.1, Bb.2.2.2.2.1, Bb.2.2.2.2.2.1, Bb.2.2.2.2.2.2⟩ gr gt hvb) hZ (ww hw 85 rfl) (ww hw 48 rfl) (by decide) (by decide)) q3a q3c (g := (mkF m 21 #[rv rb, rv sa, iv ln] [(.int mc), (.ref rb)])) rfl (by rw [hml]; rfl) (Steps.refl _) (argsL := [(.int mc)]) (rest := []) (lenOf pd_20 rfl) rfl own_z (hb hby d11_21) (fun _ _ => ⟨rfl, e2, (by decide : 0 + 1 ≤ _), (by decide : 0 + 68 ≤ _)⟩)
  dsimp only [Pt.U, Pt.locs, Pt.cells, Pt.slots] at X3 l3 y3 z3 st3 hQ3
  rw [y3, z3] at X3
  obtain ⟨u3, ku3, rfl, N3q, Kc3, zz3, Bc3⟩ := hQ3
  have N3 := own_fr l3 N1 N3q
  have ne_rb_u3 : rb ≠ u3 := Nat.ne_of_lt (Nat.lt_of_lt_of_le Bb.1.lt zz3)
  have ne_ta_u3 : ta ≠ u3 := Nat.ne_of_lt (Nat.lt_of_lt_of_le Xa.lt1 zz3)
  have z_u3 : h0.size ≤ u3 := Nat.le_trans (Nat.le_refl h0.size) zz3
  have g_u3 : n0 ≤ u3 := Nat.le_trans Z0 z_u3
  have Xa_3 := Xa.keep Kc3 (ninS sep.1 nin0) (ninS sep.2.1 nin0)
  have Y3 := Old.keep Y0 Kc3 (allS gr all0)
  have K3k : Keep h0 T3.heap [rb] := Keep.trans (Keep.refl h0 [rb]) Kc3 (allS (Or.inl (List.mem_of_getElem? (i := 0) rfl)) all0)
  have pre4 : Pr p e below (T3.setTop (mkF m 25 #[rv rb, rv sa, iv ln] [(.ref rb)])) (s₁.setTop (entryFrame m #[(.ref rb), (.ref sa)] 3)) := fun t k => pre0 t (by
    show Steps _ _ _ (s₁.setTop (mkF m 0 #[rv rb, rv sa, .unset] [])) _
    refine XS.aloadN X0.here hx rfl (hb hby d11_0) rfl rfl ?_
    refine XS.ifnonnullYes X0.here hx rfl (pc0 := 1) (pc' := 9) rfl (hb hby d11_1) rfl (by decide) (by decide) ?_
    refine XS.aloadN X0.here hx rfl (hb hby d11_9) rfl rfl ?_
    refine st1.trans ?_
    refine XS.istoreN X1.here hx rfl (hb hby d11_13) rfl (l' := #[rv rb, rv sa, iv ln]) rfl ?_
    refine XS.aloadN X1.here hx rfl (hb hby d11_14) rfl rfl ?_
    refine XS.aloadN X1.here hx rfl (hb hby d11_15) rfl rfl ?_
    refine st2 _ ?_
    refine XS.iloadN X2.here hx rfl (hb hby d11_19) rfl ?_
    refine XS.iadd X2.here hx rfl (hb hby d11_20) rfl ?_
    show Steps _ _ _ (T2.setTop (mkF m 21 #[rv rb, rv sa, iv ln] [(.int (cb + ln)), (.ref rb)])) _
    refine castTop (g' := (mkF m 21 #[rv rb, rv sa, iv ln] [(.int mc), (.ref rb)])) (by rw [hmc]) ?_
    refine st3.trans ?_
    refine XS.aloadN X3.here hx rfl (hb hby d11_24) rfl rfl ?_
    exact k)
  obtain ⟨T5, X5, e5, st5⟩ := getF X3 hx hZ hown (host := "") (Or.inl (ww hw 79 rfl)) Via.refl rfl Bc3.2.2.2.1 (g := (mkF m 26 #[rv rb, rv sa, iv ln] [(.ref rb), (.ref rb)])) rfl rfl (hb hby d11_26)
  obtain ⟨cq6, kq6, q6a, q6b, q6c⟩ := isOf hZ e5 Bc3.1
  obtain ⟨_, _, ⟨T6, L6, k6, n6⟩, -, X6, ⟨Lc6, hQ6, l6, y6, z6⟩, st6⟩ := X5.virtualBack hx (y := mN32) (z := mN32) hown (mw hZ hw 86 rfl) (mvT hZ (own_decl (ww hw 87 rfl) (ww hw 90 rfl))) (notFace_of_selects (args := #[]) (mw hZ hw 89 rfl)) (mw hZ hw 89 rfl) (mw hZ hw 87 rfl) (by decide) (backOf (W := 0) (rm_psW l Z a0 hw [] rb cb sa T3.heap n0 (own_old0 Y3) Y3 zc fm S nn cb u3 ku3 (vb ++ List.replicate (ky - kx) (Value.int 0)) ⟨Bc3.1, Bc3.2.1, Bc3.2.2.1, Bc3.2.2.2.1, Bc3.2.2.2.2.1, Bc3.2.2.2.2.2.1, Bc3.2.2.2.2.2.2⟩ gr g_u3 ta ka Na va Xa_3 ne_ta_u3 cs lw qq nm nd hf hvd hsrc) hZ (ww hw 90 rfl) (ww hw 48 rfl) (by decide) (by decide)) q6a q6c (g := (mkF m 30 #[rv rb, rv sa, iv ln] [(.ref sa), (.int cb), (.ref rb)])) rfl (by rw [hml]; rfl) (Steps.refl _) (argsL := [(.int cb), (.ref sa)]) (rest := []) (lenOf pd_21 rfl) rfl own_z (hb hby d11_30) (fun _ _ => ⟨rfl, e5, (by decide : 1 + 0 ≤ _), (by decide : 68 + 0 ≤ _)⟩)
  dsimp only [Pt.U, Pt.locs, Pt.cells, Pt.slots] at X6 l6 y6 z6 st6 hQ6
  rw [y6, z6] at X6
  obtain ⟨rfl, N6q, Kc6, Vc6⟩ := hQ6
  have N6 := own_fr l6 N3 N6q
  have E6_rb := Bc3.1.keep Kc6
  have F6_rb_value := Bc3.2.1.keep Kc6 (ninS ne_rb_u3 nin0)
  have F6_rb_coder := Bc3.2.2.1.keep Kc6 (ninS ne_rb_u3 nin0)
  have F6_rb_count := Bc3.2.2.2.1.keep Kc6 (ninS ne_rb_u3 nin0)
  have F6_rb_maybeLatin1 := Bc3.2.2.2.2.1.keep Kc6 (ninS ne_rb_u3 nin0)
  have K6k : Keep h0 T6.heap [rb] := Keep.trans K3k Kc6 (allS (Or.inr z_u3) all0)
  obtain ⟨T7, X7, e7, st7⟩ := getF X6 hx hZ hown (host := "") (Or.inl (ww hw 79 rfl)) Via.refl rfl F6_rb_count (g := (mkF m 35 #[rv rb, rv sa, iv ln] [(.ref rb), (.ref rb)])) rfl rfl (hb hby d11_35)
  obtain ⟨T8, h8, X8, e8, W8, st8⟩ := putF X7 hx hZ hown (host := "") (Or.inl (ww hw 79 rfl)) Via.refl e7 F6_rb_count E6_rb (Or.inl (ww hw 80 rfl)) (ww hw 39 rfl) (ty := .int) (by decide) rfl rfl (g := (mkF m 40 #[rv rb, rv sa, iv ln] [(.int mc), (.ref rb)])) rfl rfl (hb hby d11_40)
  have E8_rb := E6_rb.wr W8
  have V8_u3 := Vc6.other W8 Bc3.2.2.2.2.2.2
  have F8_rb_value := F6_rb_value.other W8 (Or.inr (slot_ne (Or.inl (ww hw 53 rfl)) (Or.inl (ww hw 80 rfl)) (by decide) (t := (.array .byte)) (t' := .int) (by decide) (by decide)))
  have F8_rb_coder := F6_rb_coder.other W8 (Or.inr (slot_ne (Or.inl (ww hw 55 rfl)) (Or.inl (ww hw 80 rfl)) (by decide) (t := .byte) (t' := .int) (by decide) (by decide)))
  have F8_rb_count := F6_rb_count.same W8
  have F8_rb_maybeLatin1 := F6_rb_maybeLatin1.other W8 (Or.inr (slot_ne (Or.inl (ww hw 305 rfl)) (Or.inl (ww hw 80 rfl)) (by decide) (t := .boolean) (t' := .int) (by decide) (by decide)))
  have K8 : Keep h0 h8 [rb] := K6k.wr W8 (Or.inl (List.mem_of_getElem? (i := 0) rfl))
  have N8 := Fr.snoc X8 N6 gr
  have pre9 : Pr p e below (T8.setTop (mkF m 44 #[rv rb, rv sa, iv ln] [(.ref rb)])) (s₁.setTop (entryFrame m #[(.ref rb), (.ref sa)] 3)) := fun t k => pre4 t (by
    show Steps _ _ _ (T3.setTop (mkF m 25 #[rv rb, rv sa, iv ln] [(.ref rb)])) _
    refine XS.aloadN X3.here hx rfl (hb hby d11_25) rfl rfl ?_
    refine st5 _ ?_
    refine XS.aloadN X5.here hx rfl (hb hby d11_29) rfl rfl ?_
    refine st6.trans ?_
    refine XS.aloadN X6.here hx rfl (hb hby d11_33) rfl rfl ?_
    refine XS.dup X6.here hx rfl (hb hby d11_34) rfl rfl ?_
    refine st7 _ ?_
    refine XS.iloadN X7.here hx rfl (hb hby d11_38) rfl ?_
    refine XS.iadd X7.here hx rfl (hb hby d11_39) rfl ?_
    show Steps _ _ _ (T7.setTop (mkF m 40 #[rv rb, rv sa, iv ln] [(.int (cb + ln)), (.ref rb)])) _
    refine castTop (g' := (mkF m 40 #[rv rb, rv sa, iv ln] [(.int mc), (.ref rb)])) (by rw [hmc]) ?_
    refine st8 _ ?_
    refine XS.aloadN X8.here hx rfl (hb hby d11_43) rfl rfl ?_
    exact k)
  obtain ⟨fs, hr, hrun, hended, hW, hsame⟩ := X8.leave (v := some (.ref rb)) (fun h => by rw [Bd.returns] at h; cases h)
  refine ⟨_, _, pre9 _ ?_, hrun, hended, _, _, rfl, ?_, ⟨_, rfl⟩, hW, hsame.mono (by decide) (by decide)⟩
  · show Steps _ _ _ (T8.setTop (mkF m 44 #[rv rb, rv sa, iv ln] [(.ref rb)])) _
    exact retOut X8 hx Bd.returns rfl (Or.inr (Or.inr (Or.inr (Or.inr ⟨rfl, rfl, rfl⟩)))) (hb hby d11_44) hr
  · show (Qg Z rb nn (own_inf cs nm 0 qq (vb ++ List.replicate (ky - kx) (Value.int 0))) (1 : Int32) mc (some (.ref rb))) h0 n0 _ T8.heap _
    rw [e8]
    exact ⟨_, _, rfl, N8, K8, z_u3, ⟨E8_rb, F8_rb_value, F8_rb_coder, F8_rb_count, F8_rb_maybeLatin1, V8_u3, Bc3.2.2.2.2.2.2⟩⟩
theorem rm_sbW (l : Launch) (Z : State) (a0 : Array Value) (hw : ∀ d ∈ tables_1, d.before a0 Z = true) (ws : List Jvm.Cond) (rb : Addr) (sa : Addr) (h0 : Heap) (n0 : Nat) (Z0 : n0 ≤ h0.size) (Y0 : Old Z n0 h0) (zc : Int32) (fm : Value) (S : Sts Z Z.heap zc fm) (cb : Int32) (nb gw pg nn rr cap : Int32) (kx ky : Nat) (tb : Addr) (kb : ClassId) (vb : List Value) (Bb : SB Z h0 rb tb kb nb vb (1 : Int32) cb) (gr : n0 ≤ rb) (gt : n0 ≤ tb) (ta : Addr) (ka : ClassId) (Na : Int32) (va : List Value) (Xa : TX Z h0 sa ta ka Na va (0 : Int32)) (nta : ta ≠ tb) (ln mc : Int32) (hln : (Na >>> ((0 : Int32) &&& 31)) = ln) (hmc : (cb + ln) = mc) (hg : GR mc nb (1 : Int32) gw pg nn rr cap kx ky) (hvb : vb.length = kx) (cs : List Int32) (lw : Int32) (qq nm nd : Nat) (hf : IF cb Na Na nn lw qq nm nd) (hvd : (vb ++ List.replicate (ky - kx) (Value.int 0)).length = nd) (hsrc : ∀ i, i < nm → va.getD i (Value.int 0) = .int (StrChars.lo8 (cs.getD i 0)) ∧ own_ch (cs.getD i 0))  :
    MFa l mN34 jdk_67_method_7_code 2 (some (.object "java/lang/StringBuilder")) ws (Room.mk 8 1 68 119) Z h0 n0 #[(.ref rb), (.ref sa)] (Qg Z rb nn (own_inf cs nm 0 qq (vb ++ List.replicate (ky - kx) (Value.int 0))) (1 : Int32) mc (some (.ref rb))) := by
  refine MetFree.of_bodySF (plainFor_of_name pn_27) hisR ?_
  intro p e s m args below meth c s₁ Bd hml0 hP hK
  obtain ⟨rfl, hZ, hh⟩ := hP
  have hx := Bd.exec
  have hby := Bd.bytes
  have hml : c.maxLocals = 2 := hml0
  have hown : s.vm.findClass "java/lang/StringBuilder" = some m.cls := findClass_of_methodNamed Bd.named
  have X0 : Stand p l e (Room.mk 8 1 68 119) s m #[(.ref rb), (.ref sa)] below meth c s₁ [] 0 0 := Stand.of_body Bd
  have e0 : s₁.heap = h0 := by rw [← hh, Bd.state]; rfl
  have N0 := Fr.nil n0
  have pre0 : Pr p e below (s₁.setTop (mkF m 0 #[rv rb, rv sa] [])) (s₁.setTop (entryFrame m #[(.ref rb), (.ref sa)] 2)) := fun t k => castTop (by first | (simp [entryFrame, mkF, argsToLocals, Value.category]; done) | rfl) k
  obtain ⟨_, _, ⟨T1, L1, k1, n1⟩, -, X1, ⟨Lc1, hQ1, l1, y1, z1⟩, st1⟩ := superBack X0 hx hZ (y := mN33) hown (ww hw 64 rfl) (own_same (ww hw 65 rfl) (own_nf (args := a0) (y' := mN5) rfl (ww hw 84 rfl) (ww hw 82 rfl)) (by decide)) (ww hw 65 rfl) (ww hw 66 rfl) (by decide) (backOf (W := 0) (rm_apW l Z a0 hw [] rb sa h0 n0 (own_old0 Y0) Y0 zc fm S cb nb gw pg nn rr cap kx ky tb kb vb Bb gr gt ta ka Na va Xa nta ln mc hln hmc hg hvb cs lw qq nm nd hf hvd hsrc) hZ (ww hw 68 rfl) (ww hw 48 rfl) (by decide) (by decide)) e0 (Ins.self Bb.1) (g := (mkF m 2 #[rv rb, rv sa] [(.ref sa), (.ref rb)])) rfl (by rw [hml]; rfl) (ww hw 68 rfl) (argsL := [(.ref sa)]) (rest := []) (lenOf pd_22 rfl) rfl own_z (hb hby d10_2) (fun _ _ => ⟨rfl, e0, (by decide : 0 + 1 ≤ _), (by decide : 0 + 68 ≤ _)⟩)
  dsimp only [Pt.U, Pt.locs, Pt.cells, Pt.slots] at X1 l1 y1 z1 st1 hQ1
  rw [y1, z1] at X1
  obtain ⟨u1, ku1, rfl, N1q, Kc1, zz1, Bc1⟩ := hQ1
  have N1 := own_fr l1 N0 N1q
  have z_u1 : h0.size ≤ u1 := Nat.le_trans (Nat.le_refl h0.size) zz1
  have K1k : Keep h0 T1.heap [rb] := Keep.trans (Keep.refl h0 [rb]) Kc1 (allS (Or.inl (List.mem_of_getElem? (i := 0) rfl)) all0)
  have pre2 : Pr p e below (T1.setTop (mkF m 7 #[rv rb, rv sa] [(.ref rb)])) (s₁.setTop (entryFrame m #[(.ref rb), (.ref sa)] 2)) := fun t k => pre0 t (by
    show Steps _ _ _ (s₁.setTop (mkF m 0 #[rv rb, rv sa] [])) _
    refine XS.aloadN X0.here hx rfl (hb hby d10_0) rfl rfl ?_
    refine XS.aloadN X0.here hx rfl (hb hby d10_1) rfl rfl ?_
    refine st1.trans ?_
    refine XS.pop X1.here hx rfl (hb hby d10_5) rfl rfl ?_
    refine XS.aloadN X1.here hx rfl (hb hby d10_6) rfl rfl ?_
    exact k)
  obtain ⟨fs, hr, hrun, hended, hW, hsame⟩ := X1.leave (v := some (.ref rb)) (fun h => by rw [Bd.returns] at h; cases h)
  refine ⟨_, _, pre2 _ ?_, hrun, hended, _, _, rfl, ?_, ⟨_, rfl⟩, hW, hsame.mono (by decide) (by decide)⟩
  · show Steps _ _ _ (T1.setTop (mkF m 7 #[rv rb, rv sa] [(.ref rb)])) _
    exact retOut X1 hx Bd.returns rfl (Or.inr (Or.inr (Or.inr (Or.inr ⟨rfl, rfl, rfl⟩)))) (hb hby d10_7) hr
  · show (Qg Z rb nn (own_inf cs nm 0 qq (vb ++ List.replicate (ky - kx) (Value.int 0))) (1 : Int32) mc (some (.ref rb))) h0 n0 _ T1.heap _
    exact ⟨_, _, rfl, N1, K1k, z_u1, ⟨Bc1.1, Bc1.2.1, Bc1.2.2.1, Bc1.2.2.2.1, Bc1.2.2.2.2.1, Bc1.2.2.2.2.2.1, Bc1.2.2.2.2.2.2⟩⟩
theorem rm_ai (l : Launch) (Z : State) (a0 : Array Value) (hw : ∀ d ∈ tables_1, d.before a0 Z = true) (ws : List Jvm.Cond) (rb : Addr) (h0 : Heap) (n0 : Nat) (Z0 : n0 ≤ h0.size) (Y0 : Old Z n0 h0) (zc : Int32) (fm : Value) (S : Sts Z Z.heap zc fm) (Eb : Exa Z h0 rb "java/lang/StringBuilder") (F1 : Fld Z h0 rb "java/lang/AbstractStringBuilder" "value" "[B" .null) (F2 : Fld Z h0 rb "java/lang/AbstractStringBuilder" "coder" "B" (.int 0)) (F3 : Fld Z h0 rb "java/lang/AbstractStringBuilder" "count" "I" (.int 0)) (F4 : Fld Z h0 rb "java/lang/AbstractStringBuilder" "maybeLatin1" "Z" (.int 0)) (gr : n0 ≤ rb)  :
    MFa l mN35 jdk_68_method_2_code 2 none ws (Room.mk 1 1 16 12) Z h0 n0 #[(.ref rb), (.int 16)] (Qg Z rb (16 : Int32) [(Value.int 0), (Value.int 0), (Value.int 0), (Value.int 0), (Value.int 0), (Value.int 0), (Value.int 0), (Value.int 0), (Value.int 0), (Value.int 0), (Value.int 0), (Value.int 0), (Value.int 0), (Value.int 0), (Value.int 0), (Value.int 0)] (0 : Int32) (0 : Int32) none) := by
  refine MetFree.of_bodySF (plainFor_of_name pn_26) hisR ?_
  intro p e s m args below meth c s₁ Bd hml0 hP hK
  obtain ⟨rfl, hZ, hh⟩ := hP
  have hx := Bd.exec
  have hby := Bd.bytes
  have hml : c.maxLocals = 2 := hml0
  have hown : s.vm.findClass "java/lang/AbstractStringBuilder" = some m.cls := findClass_of_methodNamed Bd.named
  have X0 : Stand p l e (Room.mk 1 1 16 12) s m #[(.ref rb), (.int 16)] below meth c s₁ [] 0 0 := Stand.of_body Bd
  have e0 : s₁.heap = h0 := by rw [← hh, Bd.state]; rfl
  have N0 := Fr.nil n0
  have pre0 : Pr p e below (s₁.setTop (mkF m 0 #[rv rb, iv 16] [])) (s₁.setTop (entryFrame m #[(.ref rb), (.int 16)] 2)) := fun t k => castTop (by first | (simp [entryFrame, mkF, argsToLocals, Value.category]; done) | rfl) k
  obtain ⟨T1, X1, e1, st1⟩ := initO X0 hx hZ hown (ww hw 50 rfl) (ww hw 13 rfl) (ww hw 14 rfl) e0 (g := (mkF m 1 #[rv rb, iv 16] [(.ref rb)])) rfl (by rw [hml]; rfl) rfl (hb hby d9_1) (by decide) (W := 0) own_z (by decide)
  obtain ⟨T2, X2, e2, st2⟩ := getS2 X1 hx hZ hown (host := "") (Or.inl (ww hw 51 rfl)) Via.refl e1 (S.1.ext Y0.2) (g := (mkF m 4 #[rv rb, iv 16] [])) rfl (hb hby d9_4)
  obtain ⟨T3, h3, k3, X3, e3, E3, A3, st3⟩ := newP X2 hx hZ (ww hw 20 rfl) e2 (g := (mkF m 12 #[rv rb, iv 16] [(.int 16), (.ref rb)])) rfl (hb hby d9_12) rfl (by decide) (cap := 16) (by decide) (by decide) (by decide) (by decide)
  obtain ⟨b3, g3⟩ : ∃ z, z = h0.size := ⟨_, rfl⟩
  rw [← g3] at A3 st3
  have ne_rb_b3 : rb ≠ b3 := Nat.ne_of_lt (Nat.lt_of_lt_of_le Eb.lt (Nat.le_of_eq g3.symm))
  have z_b3 : h0.size ≤ b3 := Nat.le_trans (Nat.le_refl h0.size) (Nat.le_of_eq g3.symm)
  have E3_rb := Eb.ext E3
  have F3_rb_value := F1.ext E3
  have F3_rb_coder := F2.ext E3
  have F3_rb_count := F3.ext E3
  have F3_rb_maybeLatin1 := F4.ext E3
  have K3 : Keep h0 h3 [rb] := (Keep.refl h0 [rb]).ext E3
  have V3 : Arv Z h3 b3 k3 .byte (16 : Int32) [(.int 0), (.int 0), (.int 0), (.int 0), (.int 0), (.int 0), (.int 0), (.int 0), (.int 0), (.int 0), (.int 0), (.int 0), (.int 0), (.int 0), (.int 0), (.int 0)] (.int 0) := (Arv.new A3 (by decide)).pad (pad_rep [] (.int 0) 16)
  obtain ⟨T4, h4, X4, e4, W4, st4⟩ := putF X3 hx hZ hown (host := "") (Or.inl (ww hw 52 rfl)) Via.refl e3 F3_rb_value E3_rb (Or.inl (ww hw 53 rfl)) (ww hw 39 rfl) (ty := (.array .byte)) (by decide) rfl rfl (g := (mkF m 14 #[rv rb, iv 16] [(.ref b3), (.ref rb)])) rfl rfl (hb hby d9_14)
  have E4_rb := E3_rb.wr W4
  have V4_b3 := V3.other W4 (Ne.symm ne_rb_b3)
  have F4_rb_value := F3_rb_value.same W4
  have F4_rb_coder := F3_rb_coder.other W4 (Or.inr (slot_ne (Or.inl (ww hw 55 rfl)) (Or.inl (ww hw 53 rfl)) (by decide) (t := .byte) (t' := (.array .byte)) (by decide) (by decide)))
  have F4_rb_count := F3_rb_count.other W4 (Or.inr (slot_ne (Or.inl (ww hw 80 rfl)) (Or.inl (ww hw 53 rfl)) (by decide) (t := .int) (t' := (.array .byte)) (by decide) (by decide)))
  have F4_rb_maybeLatin1 := F3_rb_maybeLatin1.other W4 (Or.inr (slot_ne (Or.inl (ww hw 305 rfl)) (Or.inl (ww hw 53 rfl)) (by decide) (t := .boolean) (t' := (.array .byte)) (by decide) (by decide)))
  have K4 : Keep h0 h4 [rb] := K3.wr W4 (Or.inl (List.mem_of_getElem? (i := 0) rfl))
  have N4 := Fr.snoc X4 N0 gr
  obtain ⟨T5, h5, X5, e5, W5, st5⟩ := putFN X4 hx hZ hown (ww hw 54 rfl) Via.refl e4 F4_rb_coder E4_rb (Or.inl (ww hw 55 rfl)) (ww hw 39 rfl) (ty := .byte) (v' := (.int 0)) (by decide) rfl rfl (g := (mkF m 19 #[rv rb, iv 16] [(.int 0), (.ref rb)])) rfl rfl (hb hby d9_19)
  have E5_rb := E4_rb.wr W5
  have V5_b3 := V4_b3.other W5 (Ne.symm ne_rb_b3)
  have F5_rb_value := F4_rb_value.other W5 (Or.inr (slot_ne (Or.inl (ww hw 53 rfl)) (Or.inl (ww hw 55 rfl)) (by decide) (t := (.array .byte)) (t' := .byte) (by decide) (by decide)))
  have F5_rb_coder := F4_rb_coder.same W5
  have F5_rb_count := F4_rb_count.other W5 (Or.inr (slot_ne (Or.inl (ww hw 80 rfl)) (Or.inl (ww hw 55 rfl)) (by decide) (t := .int) (t' := .byte) (by decide) (by decide)))
  have F5_rb_maybeLatin1 := F4_rb_maybeLatin1.other W5 (Or.inr (slot_ne (Or.inl (ww hw 305 rfl)) (Or.inl (ww hw 55 rfl)) (by decide) (t := .boolean) (t' := .byte) (by decide) (by decide)))
  have K5 : Keep h0 h5 [rb] := K4.wr W5 (Or.inl (List.mem_of_getElem? (i := 0) rfl))
  have N5 := Fr.snoc X5 N4 gr
  have pre6 : Pr p e below (T5.setTop (mkF m 38 #[rv rb, iv 16] [])) (s₁.setTop (entryFrame m #[(.ref rb), (.int 16)] 2)) := fun t k => pre0 t (by
    show Steps _ _ _ (s₁.setTop (mkF m 0 #[rv rb, iv 16] [])) _
    refine XS.aloadN X0.here hx rfl (hb hby d9_0) rfl rfl ?_
    refine st1 _ ?_
    refine st2 _ ?_
    show Steps _ _ _ (T2.setTop (mkF m 7 #[rv rb, iv 16] [(.int zc)])) _
    refine XS.ifNo X2.here hx rfl (hb hby d9_7) rfl ((if0 _ _).trans (feq S.2.2.2.2.2.1).1) ?_
    refine XS.aloadN X2.here hx rfl (hb hby d9_10) rfl rfl ?_
    refine XS.iloadN X2.here hx rfl (hb hby d9_11) rfl ?_
    refine st3 _ ?_
    refine st4 _ ?_
    refine XS.aloadN X4.here hx rfl (hb hby d9_17) rfl rfl ?_
    refine XT.iconstV X4.here hx rfl (0 : Int32) (hb hby d9_18) (by decide) ?_
    refine st5 _ ?_
    refine XS.goto X5.here hx rfl (pc0 := 22) (pc' := 38) rfl (hb hby d9_22) (by decide) (by decide) ?_
    exact k)
  obtain ⟨fs, hr, hrun, hended, hW, hsame⟩ := X5.leave (v := none) (fun _ => rfl)
  refine ⟨_, _, pre6 _ ?_, hrun, hended, _, _, rfl, ?_, ⟨_, rfl⟩, hW, hsame.mono (by decide) (by decide)⟩
  · show Steps _ _ _ (T5.setTop (mkF m 38 #[rv rb, iv 16] [])) _
    exact X5.returnOut hx Bd.returns (hb hby d9_38) hr
  · show (Qg Z rb (16 : Int32) [(Value.int 0), (Value.int 0), (Value.int 0), (Value.int 0), (Value.int 0), (Value.int 0), (Value.int 0), (Value.int 0), (Value.int 0), (Value.int 0), (Value.int 0), (Value.int 0), (Value.int 0), (Value.int 0), (Value.int 0), (Value.int 0)] (0 : Int32) (0 : Int32) none) h0 n0 _ T5.heap _
    rw [e5]
    exact ⟨_, _, rfl, N5, K5, z_b3, ⟨E5_rb, F5_rb_value, F5_rb_coder, F5_rb_count, F5_rb_maybeLatin1, V5_b3, (Ne.symm ne_rb_b3)⟩⟩
theorem rm_sn (l : Launch) (Z : State) (a0 : Array Value) (hw : ∀ d ∈ tables_1, d.before a0 Z = true) (ws : List Jvm.Cond) (rb : Addr) (h0 : Heap) (n0 : Nat) (Z0 : n0 ≤ h0.size) (Y0 : Old Z n0 h0) (zc : Int32) (fm : Value) (S : Sts Z Z.heap zc fm) (Eb : Exa Z h0 rb "java/lang/StringBuilder") (F1 : Fld Z h0 rb "java/lang/AbstractStringBuilder" "value" "[B" .null) (F2 : Fld Z h0 rb "java/lang/AbstractStringBuilder" "coder" "B" (.int 0)) (F3 : Fld Z h0 rb "java/lang/AbstractStringBuilder" "count" "I" (.int 0)) (F4 : Fld Z h0 rb "java/lang/AbstractStringBuilder" "maybeLatin1" "Z" (.int 0)) (gr : n0 ≤ rb)  :
    MFa l mN36 jdk_67_method_1_code 1 none ws (Room.mk 2 1 16 25) Z h0 n0 #[(.ref rb)] (Qg Z rb (16 : Int32) [(Value.int 0), (Value.int 0), (Value.int 0), (Value.int 0), (Value.int 0), (Value.int 0), (Value.int 0), (Value.int 0), (Value.int 0), (Value.int 0), (Value.int 0), (Value.int 0), (Value.int 0), (Value.int 0), (Value.int 0), (Value.int 0)] (0 : Int32) (0 : Int32) none) := by
  refine MetFree.of_bodySF (plainFor_of_name pn_27) hisR ?_
  intro p e s m args below meth c s₁ Bd hml0 hP hK
  obtain ⟨rfl, hZ, hh⟩ := hP
  have hx := Bd.exec
  have hby := Bd.bytes
  have hml : c.maxLocals = 1 := hml0
  have hown : s.vm.findClass "java/lang/StringBuilder" = some m.cls := findClass_of_methodNamed Bd.named
  have X0 : Stand p l e (Room.mk 2 1 16 25) s m #[(.ref rb)] below meth c s₁ [] 0 0 := Stand.of_body Bd
  have e0 : s₁.heap = h0 := by rw [← hh, Bd.state]; rfl
  have N0 := Fr.nil n0
  have pre0 : Pr p e below (s₁.setTop (mkF m 0 #[rv rb] [])) (s₁.setTop (entryFrame m #[(.ref rb)] 1)) := fun t k => castTop (by first | (simp [entryFrame, mkF, argsToLocals, Value.category]; done) | rfl) k
  obtain ⟨_, _, ⟨T1, L1, k1, n1⟩, -, X1, ⟨Lc1, hQ1, l1, y1, z1⟩, st1⟩ := X0.specialBack hx (y := mN35) rfl hown (mw hZ hw 44 rfl) (mw hZ hw 45 rfl) (mw hZ hw 49 rfl) (by decide) (backOf (W := 0) (rm_ai l Z a0 hw [] rb h0 n0 (own_old0 Y0) Y0 zc fm S Eb F1 F2 F3 F4 gr) hZ (ww hw 49 rfl) (ww hw 48 rfl) (by decide) (by decide)) (g := (mkF m 3 #[rv rb] [(.int 16), (.ref rb)])) rfl (by rw [hml]; rfl) (Steps.refl _) (a := rb) (argsL := [(.int 16)]) (rest := []) (lenOf pd_20 rfl) rfl own_z (hb hby d8_3) (fun _ _ => ⟨rfl, e0, (by decide : 0 + 1 ≤ _), (by decide : 0 + 16 ≤ _)⟩)
  dsimp only [Pt.U, Pt.locs, Pt.cells, Pt.slots] at X1 l1 y1 z1 st1 hQ1
  rw [y1, z1] at X1
  obtain ⟨u1, ku1, rfl, N1q, Kc1, zz1, Bc1⟩ := hQ1
  have N1 := own_fr l1 N0 N1q
  have K1k : Keep h0 T1.heap [rb] := Keep.trans (Keep.refl h0 [rb]) Kc1 (allS (Or.inl (List.mem_of_getElem? (i := 0) rfl)) all0)
  have z_u1 : h0.size ≤ u1 := zz1
  have pre2 : Pr p e below (T1.setTop (mkF m 6 #[rv rb] [])) (s₁.setTop (entryFrame m #[(.ref rb)] 1)) := fun t k => pre0 t (by
    show Steps _ _ _ (s₁.setTop (mkF m 0 #[rv rb] [])) _
    refine XS.aloadN X0.here hx rfl (hb hby d8_0) rfl rfl ?_
    refine XT.bipushV X0.here hx rfl (16 : Int32) (hb hby d8_1) (by decide) ?_
    refine st1.trans ?_
    exact k)
  obtain ⟨fs, hr, hrun, hended, hW, hsame⟩ := X1.leave (v := none) (fun _ => rfl)
  refine ⟨_, _, pre2 _ ?_, hrun, hended, _, _, rfl, ?_, ⟨_, rfl⟩, hW, hsame.mono (by decide) (by decide)⟩
  · show Steps _ _ _ (T1.setTop (mkF m 6 #[rv rb] [])) _
    exact X1.returnOut hx Bd.returns (hb hby d8_6) hr
  · show (Qg Z rb (16 : Int32) [(Value.int 0), (Value.int 0), (Value.int 0), (Value.int 0), (Value.int 0), (Value.int 0), (Value.int 0), (Value.int 0), (Value.int 0), (Value.int 0), (Value.int 0), (Value.int 0), (Value.int 0), (Value.int 0), (Value.int 0), (Value.int 0)] (0 : Int32) (0 : Int32) none) h0 n0 _ T1.heap _
    exact ⟨_, _, rfl, N1, K1k, z_u1, ⟨Bc1.1, Bc1.2.1, Bc1.2.2.1, Bc1.2.2.2.1, Bc1.2.2.2.2.1, Bc1.2.2.2.2.2.1, Bc1.2.2.2.2.2.2⟩⟩
theorem rm_ckl (l : Launch) (Z : State) (a0 : Array Value) (hw : ∀ d ∈ tables_1, d.before a0 Z = true) (ws : List Jvm.Cond) (kz : Int32) (h0 : Heap) (n0 : Nat) (Z0 : n0 ≤ h0.size) (Y0 : Old Z n0 h0) (zc : Int32) (fm : Value) (S : Sts Z Z.heap zc fm) (hk : ¬ kz < (0 : Int32))  :
    MFa l mN37 jdk_65_method_131_code 2 none ws (Room.mk 0 0 0 0) Z h0 n0 #[(.int 0), (.int kz)] (Qp none) := by
  refine MetFree.of_bodySF (plainFor_of_name pn_21) hisR ?_
  intro p e s m args below meth c s₁ Bd hml0 hP hK
  obtain ⟨rfl, hZ, hh⟩ := hP
  have hx := Bd.exec
  have hby := Bd.bytes
  have X0 : Stand p l e (Room.mk 0 0 0 0) s m #[(.int 0), (.int kz)] below meth c s₁ [] 0 0 := Stand.of_body Bd
  have e0 : s₁.heap = h0 := by rw [← hh, Bd.state]; rfl
  have N0 := Fr.nil n0
  have pre0 : Pr p e below (s₁.setTop (mkF m 0 #[iv 0, iv kz] [])) (s₁.setTop (entryFrame m #[(.int 0), (.int kz)] 2)) := fun t k => castTop (by first | (simp [entryFrame, mkF, argsToLocals, Value.category]; done) | rfl) k
  have pre1 : Pr p e below (s₁.setTop (mkF m 37 #[iv 0, iv kz] [])) (s₁.setTop (entryFrame m #[(.int 0), (.int kz)] 2)) := fun t k => pre0 t (by
    show Steps _ _ _ (s₁.setTop (mkF m 0 #[iv 0, iv kz] [])) _
    refine XS.iloadN X0.here hx rfl (hb hby d32_0) rfl ?_
    refine XS.iloadN X0.here hx rfl (hb hby d32_1) rfl ?_
    show Steps _ _ _ (s₁.setTop (mkF m 2 #[iv 0, iv kz] [(.int 0), (.int kz)])) _
    refine XS.icmpYes X0.here hx rfl (pc0 := 2) (pc' := 37) rfl (hb hby d32_2) rfl (flt hk).2.1 (by decide) (by decide) ?_
    exact k)
  obtain ⟨fs, hr, hrun, hended, hW, hsame⟩ := X0.leave (v := none) (fun _ => rfl)
  refine ⟨_, _, pre1 _ ?_, hrun, hended, _, _, rfl, ?_, ⟨_, rfl⟩, hW, hsame.mono (by decide) (by decide)⟩
  · show Steps _ _ _ (s₁.setTop (mkF m 37 #[iv 0, iv kz] [])) _
    exact X0.returnOut hx Bd.returns (hb hby d32_37) hr
  · show (Qp none) h0 n0 _ s₁.heap _
    rw [e0]
    exact ⟨rfl, N0, rfl⟩
theorem rm_crb (l : Launch) (Z : State) (a0 : Array Value) (hw : ∀ d ∈ tables_1, d.before a0 Z = true) (ws : List Jvm.Cond) (tb : Addr) (kz : Int32) (h0 : Heap) (n0 : Nat) (Z0 : n0 ≤ h0.size) (Y0 : Old Z n0 h0) (zc : Int32) (fm : Value) (S : Sts Z Z.heap zc fm) (kb : ClassId) (Nb : Int32) (vb : List Value) (Ab : Arv Z h0 tb kb .byte Nb vb (Value.int 0)) (kn : Nat) (hr : CR kz Nb kn) (hvk : kn ≤ vb.length)  :
    MFa l mN38 jdk_65_method_133_code 5 (some (.array .byte)) ws (Room.mk 1 1 50 18) Z h0 n0 #[(.ref tb), (.int 0), (.int kz)] (Qn Z kz (vb.take kn)) := by
  refine MetFree.of_bodySF (plainFor_of_name pn_21) hisR ?_
  intro p e s m args below meth c s₁ Bd hml0 hP hK
  obtain ⟨rfl, hZ, hh⟩ := hP
  have hx := Bd.exec
  have hby := Bd.bytes
  have hml : c.maxLocals = 5 := hml0
  have hown : s.vm.findClass "java/util/Arrays" = some m.cls := findClass_of_methodNamed Bd.named
  have X0 : Stand p l e (Room.mk 1 1 50 18) s m #[(.ref tb), (.int 0), (.int kz)] below meth c s₁ [] 0 0 := Stand.of_body Bd
  have e0 : s₁.heap = h0 := by rw [← hh, Bd.state]; rfl
  have N0 := Fr.nil n0
  have pre0 : Pr p e below (s₁.setTop (mkF m 0 #[rv tb, iv 0, iv kz, .unset, .unset] [])) (s₁.setTop (entryFrame m #[(.ref tb), (.int 0), (.int kz)] 5)) := fun t k => castTop (by first | (simp [entryFrame, mkF, argsToLocals, Value.category]; done) | rfl) k
  obtain ⟨_, _, ⟨T1, L1, k1, n1⟩, -, X1, ⟨Lc1, hQ1, l1, y1, z1⟩, st1⟩ := Jvm.LawKit.callS X0 hx (y := mN37) hown (mw hZ hw 166 rfl) (mw hZ hw 167 rfl) (mw hZ hw 124 rfl) (mw hZ hw 168 rfl) (by decide) (backOf (W := 0) (rm_ckl l Z a0 hw [] kz h0 n0 (own_old0 Y0) Y0 zc fm S hr.1) hZ (ww hw 168 rfl) (ww hw 124 rfl) (by decide) (by decide)) (g := (mkF m 2 #[rv tb, iv 0, iv kz, .unset, .unset] [(.int kz), (.int 0)])) rfl (by rw [hml]; rfl) (argsL := [(.int 0), (.int kz)]) (rest := []) (lenOf pd_9 rfl) rfl own_z (hb hby d31_2) (fun _ _ => ⟨rfl, e0, (by decide : 0 + 0 ≤ _), (by decide : 0 + 0 ≤ _)⟩)
  dsimp only [Pt.U, Pt.locs, Pt.cells, Pt.slots] at X1 l1 y1 z1 st1 hQ1
  rw [y1, z1] at X1
  obtain ⟨rfl, N1q, e1⟩ := hQ1
  have N1 := own_fr l1 N0 N1q
  obtain ⟨T2, h2, k2, X2, e2, E2, A2, st2⟩ := newP X1 hx hZ (ww hw 20 rfl) e1 (g := (mkF m 10 #[rv tb, iv 0, iv kz, iv kz, .unset] [(.int kz)])) rfl (hb hby d31_10) rfl hr.1 (cap := 50) (by rw [hr.2.2.2.1]; exact hr.2.2.2.2.1) (by decide) (by decide) (by decide)
  obtain ⟨b2, g2⟩ : ∃ z, z = h0.size := ⟨_, rfl⟩
  rw [← g2] at A2 st2
  have z_b2 : h0.size ≤ b2 := Nat.le_trans (Nat.le_refl h0.size) (Nat.le_of_eq g2.symm)
  have g_b2 : n0 ≤ b2 := Nat.le_trans Z0 z_b2
  have V2_tb := Ab.ext E2
  have Y2 := Old.ext Y0 E2
  have K2 : Keep h0 h2 [] := (Keep.refl h0 []).ext E2
  have V2 : Arv Z h2 b2 k2 .byte kz (List.replicate kn (.int 0)) (.int 0) := (Arv.new A2 hr.1).pad (pad_rep [] (.int 0) kn)
  have pre3 : Pr p e below (T2.setTop (mkF m 16 #[rv tb, iv 0, iv kz, iv kz, rv b2] [(.int 0), (.ref tb)])) (s₁.setTop (entryFrame m #[(.ref tb), (.int 0), (.int kz)] 5)) := fun t k => pre0 t (by
    show Steps _ _ _ (s₁.setTop (mkF m 0 #[rv tb, iv 0, iv kz, .unset, .unset] [])) _
    refine XS.iloadN X0.here hx rfl (hb hby d31_0) rfl ?_
    refine XS.iloadN X0.here hx rfl (hb hby d31_1) rfl ?_
    refine st1 _ ?_
    refine XS.iloadN X1.here hx rfl (hb hby d31_5) rfl ?_
    refine XS.iloadN X1.here hx rfl (hb hby d31_6) rfl ?_
    refine XS.isub X1.here hx rfl (hb hby d31_7) rfl ?_
    show Steps _ _ _ (T1.setTop (mkF m 8 #[rv tb, iv 0, iv kz, .unset, .unset] [(.int (kz - (0 : Int32)))])) _
    refine castTop (g' := (mkF m 8 #[rv tb, iv 0, iv kz, .unset, .unset] [(.int kz)])) (by rw [own_sub0 kz]) ?_
    refine XS.istoreN X1.here hx rfl (hb hby d31_8) rfl (l' := #[rv tb, iv 0, iv kz, iv kz, .unset]) rfl ?_
    refine XS.iloadN X1.here hx rfl (hb hby d31_9) rfl ?_
    refine st2 _ ?_
    refine XS.astore X2.here hx rfl (hb hby d31_12) rfl rfl (l' := #[rv tb, iv 0, iv kz, iv kz, rv b2]) rfl ?_
    refine XS.aloadN X2.here hx rfl (hb hby d31_14) rfl rfl ?_
    refine XS.iloadN X2.here hx rfl (hb hby d31_15) rfl ?_
    exact k)
  obtain ⟨cl4, Ar4, -, Sz4, nz4, -, -⟩ := id V2_tb
  obtain ⟨_, _, ⟨T5, L5, k5, n5⟩, -, X5, ⟨Lc5, hQ5, l5, y5, z5⟩, st5⟩ := Jvm.LawKit.callS X2 hx (y := mN9) hown (mw hZ hw 126 rfl) (mw hZ hw 127 rfl) (mw hZ hw 118 rfl) (mw hZ hw 128 rfl) (by decide) (backOf (W := 4) (rm_minB l Z a0 hw [] Nb kz h2 n0 (own_old0 Y2) Y2 zc fm S hr.2.1) hZ (ww hw 128 rfl) (ww hw 118 rfl) (by decide) (by decide)) (g := (mkF m 24 #[rv tb, iv 0, iv kz, iv kz, rv b2] [(.int kz), (.int Nb), (.int 0), (.ref b2), (.int 0), (.ref tb)])) rfl (by rw [hml]; rfl) (argsL := [(.int Nb), (.int kz)]) (rest := [(.int 0), (.ref b2), (.int 0), (.ref tb)]) (lenOf pd_2 rfl) rfl own_z (hb hby d31_24) (fun _ _ => ⟨rfl, e2, (by decide : 1 + 0 ≤ _), (by decide : 50 + 0 ≤ _)⟩)
  dsimp only [Pt.U, Pt.locs, Pt.cells, Pt.slots] at X5 l5 y5 z5 st5 hQ5
  rw [y5, z5] at X5
  obtain ⟨rfl, N5q, e5⟩ := hQ5
  have N5 := own_fr l5 N1 N5q
  obtain ⟨T6, h6, L6, X6, e6, N6, Kc6, V6, st6⟩ := cpA X5 hx hZ hown (ww hw 129 rfl) (ww hw 105 rfl) (ww hw 103 rfl) (ww hw 104 rfl) e5 (sp := (0 : Int32)) (dp := (0 : Int32)) (nn := kz) (us := (vb.take kn)) V2_tb V2 (Or.inl ⟨rfl, rfl⟩) (by decide) (by decide) hr.1 (by rw [own_n0, hr.2.2.2.1, Nat.zero_add]; exact hr.2.2.2.2.2) (own_h4 kz) (own_tk hr.2.2.2.1 hvk) (by rw [own_n0, hr.2.2.2.1, List.length_replicate, Nat.zero_add]; exact Nat.le_refl _) N5 g_b2 (g := (mkF m 27 #[rv tb, iv 0, iv kz, iv kz, rv b2] [(.int kz), (.int 0), (.ref b2), (.int 0), (.ref tb)])) rfl (by rw [hml]; rfl) (rest := []) rfl (hb hby d31_27) (by decide) (W := 0) own_z (by decide)
  rw [own_n0, hr.2.2.2.1, List.take_zero, List.nil_append, Nat.zero_add, List.drop_replicate, Nat.sub_self, List.replicate_zero, List.append_nil] at V6
  have K6k : Keep h0 h6 [] := Keep.trans K2 Kc6 (allS (Or.inr z_b2) all0)
  have pre7 : Pr p e below (T6.setTop (mkF m 32 #[rv tb, iv 0, iv kz, iv kz, rv b2] [(.ref b2)])) (s₁.setTop (entryFrame m #[(.ref tb), (.int 0), (.int kz)] 5)) := fun t k => pre3 t (by
    show Steps _ _ _ (T2.setTop (mkF m 16 #[rv tb, iv 0, iv kz, iv kz, rv b2] [(.int 0), (.ref tb)])) _
    refine XS.aload X2.here hx rfl (hb hby d31_16) rfl rfl ?_
    refine XT.iconstV X2.here hx rfl (0 : Int32) (hb hby d31_18) (by decide) ?_
    refine XS.aloadN X2.here hx rfl (hb hby d31_19) rfl rfl ?_
    refine X2.arraylength hx (by rw [e2]; exact Ar4.1) (State.isArrayOf_alike hZ.alike Ar4.2.1) (g := (mkF m 20 #[rv tb, iv 0, iv kz, iv kz, rv b2] [(.ref tb), (.int 0), (.ref b2), (.int 0), (.ref tb)])) rfl rfl (hb hby d31_20) _ ?_
    rw [len_of Sz4 nz4]
    refine XS.iloadN X2.here hx rfl (hb hby d31_21) rfl ?_
    refine XS.isub X2.here hx rfl (hb hby d31_22) rfl ?_
    show Steps _ _ _ (T2.setTop (mkF m 23 #[rv tb, iv 0, iv kz, iv kz, rv b2] [(.int (Nb - (0 : Int32))), (.int 0), (.ref b2), (.int 0), (.ref tb)])) _
    refine castTop (g' := (mkF m 23 #[rv tb, iv 0, iv kz, iv kz, rv b2] [(.int Nb), (.int 0), (.ref b2), (.int 0), (.ref tb)])) (by rw [own_sub0 Nb]) ?_
    refine XS.iloadN X2.here hx rfl (hb hby d31_23) rfl ?_
    refine st5 _ ?_
    refine st6 _ ?_
    refine XS.aload X6.here hx rfl (hb hby d31_30) rfl rfl ?_
    exact k)
  obtain ⟨fs, hr, hrun, hended, hW, hsame⟩ := X6.leave (v := some (.ref b2)) (fun h => by rw [Bd.returns] at h; cases h)
  refine ⟨_, _, pre7 _ ?_, hrun, hended, _, _, rfl, ?_, ⟨_, rfl⟩, hW, hsame.mono (by decide) (by decide)⟩
  · show Steps _ _ _ (T6.setTop (mkF m 32 #[rv tb, iv 0, iv kz, iv kz, rv b2] [(.ref b2)])) _
    exact retOut X6 hx Bd.returns rfl (Or.inr (Or.inr (Or.inr (Or.inr ⟨rfl, rfl, rfl⟩)))) (hb hby d31_32) hr
  · show (Qn Z kz (vb.take kn)) h0 n0 _ T6.heap _
    rw [e6]
    exact ⟨_, _, rfl, N6, own_ext_of K6k, z_b2, V6⟩
theorem rm_cor (l : Launch) (Z : State) (a0 : Array Value) (hw : ∀ d ∈ tables_1, d.before a0 Z = true) (ws : List Jvm.Cond) (tb : Addr) (kz : Int32) (h0 : Heap) (n0 : Nat) (Z0 : n0 ≤ h0.size) (Y0 : Old Z n0 h0) (zc : Int32) (fm : Value) (S : Sts Z Z.heap zc fm) (kb : ClassId) (Nb : Int32) (vb : List Value) (Ab : Arv Z h0 tb kb .byte Nb vb (Value.int 0)) (kn : Nat) (hr : CR kz Nb kn) (hvk : kn ≤ vb.length)  :
    MFa l mN39 jdk_65_method_132_code 3 (some (.array .byte)) ws (Room.mk 2 1 50 34) Z h0 n0 #[(.ref tb), (.int 0), (.int kz)] (Qn Z kz (vb.take kn)) := by
  refine MetFree.of_bodySF (plainFor_of_name pn_21) hisR ?_
  intro p e s m args below meth c s₁ Bd hml0 hP hK
  obtain ⟨rfl, hZ, hh⟩ := hP
  have hx := Bd.exec
  have hby := Bd.bytes
  have hml : c.maxLocals = 3 := hml0
  have hown : s.vm.findClass "java/util/Arrays" = some m.cls := findClass_of_methodNamed Bd.named
  have X0 : Stand p l e (Room.mk 2 1 50 34) s m #[(.ref tb), (.int 0), (.int kz)] below meth c s₁ [] 0 0 := Stand.of_body Bd
  have e0 : s₁.heap = h0 := by rw [← hh, Bd.state]; rfl
  have N0 := Fr.nil n0
  have pre0 : Pr p e below (s₁.setTop (mkF m 0 #[rv tb, iv 0, iv kz] [])) (s₁.setTop (entryFrame m #[(.ref tb), (.int 0), (.int kz)] 3)) := fun t k => castTop (by first | (simp [entryFrame, mkF, argsToLocals, Value.category]; done) | rfl) k
  obtain ⟨cl1, Ar1, -, Sz1, nz1, -, -⟩ := id Ab
  obtain ⟨_, _, ⟨T2, L2, k2, n2⟩, -, X2, ⟨Lc2, hQ2, l2, y2, z2⟩, st2⟩ := Jvm.LawKit.callS X0 hx (y := mN38) hown (mw hZ hw 163 rfl) (mw hZ hw 164 rfl) (mw hZ hw 124 rfl) (mw hZ hw 165 rfl) (by decide) (backOf (W := 0) (rm_crb l Z a0 hw [] tb kz h0 n0 (own_old0 Y0) Y0 zc fm S kb Nb vb Ab kn hr hvk ) hZ (ww hw 165 rfl) (ww hw 124 rfl) (by decide) (by decide)) (g := (mkF m 13 #[rv tb, iv 0, iv kz] [(.int kz), (.int 0), (.ref tb)])) rfl (by rw [hml]; rfl) (argsL := [(.ref tb), (.int 0), (.int kz)]) (rest := []) (lenOf pd_23 rfl) rfl own_z (hb hby d30_13) (fun _ _ => ⟨rfl, e0, (by decide : 0 + 1 ≤ _), (by decide : 0 + 50 ≤ _)⟩)
  dsimp only [Pt.U, Pt.locs, Pt.cells, Pt.slots] at X2 l2 y2 z2 st2 hQ2
  rw [y2, z2] at X2
  obtain ⟨u2, ku2, rfl, N2q, E2, zz2, V2⟩ := hQ2
  have N2 := own_fr l2 N0 N2q
  have z_u2 : h0.size ≤ u2 := Nat.le_trans (Nat.le_refl h0.size) zz2
  have K2 : Keep h0 T2.heap [] := (Keep.refl h0 []).ext E2
  have pre3 : Pr p e below (T2.setTop (mkF m 16 #[rv tb, iv 0, iv kz] [(.ref u2)])) (s₁.setTop (entryFrame m #[(.ref tb), (.int 0), (.int kz)] 3)) := fun t k => pre0 t (by
    show Steps _ _ _ (s₁.setTop (mkF m 0 #[rv tb, iv 0, iv kz] [])) _
    refine XS.iloadN X0.here hx rfl (hb hby d30_0) rfl ?_
    show Steps _ _ _ (s₁.setTop (mkF m 1 #[rv tb, iv 0, iv kz] [(.int 0)])) _
    refine XS.ifNo X0.here hx rfl (hb hby d30_1) rfl ((if0 _ _).trans (teq (by decide : ((0 : Int32) = (0 : Int32)))).2) ?_
    refine XS.iloadN X0.here hx rfl (hb hby d30_4) rfl ?_
    refine XS.aloadN X0.here hx rfl (hb hby d30_5) rfl rfl ?_
    refine X0.arraylength hx (by rw [e0]; exact Ar1.1) (State.isArrayOf_alike hZ.alike Ar1.2.1) (g := (mkF m 6 #[rv tb, iv 0, iv kz] [(.ref tb), (.int kz)])) rfl rfl (hb hby d30_6) _ ?_
    rw [len_of Sz1 nz1]
    show Steps _ _ _ (s₁.setTop (mkF m 7 #[rv tb, iv 0, iv kz] [(.int Nb), (.int kz)])) _
    refine XS.icmpNo X0.here hx rfl (hb hby d30_7) rfl (feq hr.2.2.1).1 ?_
    refine XS.aloadN X0.here hx rfl (hb hby d30_10) rfl rfl ?_
    refine XS.iloadN X0.here hx rfl (hb hby d30_11) rfl ?_
    refine XS.iloadN X0.here hx rfl (hb hby d30_12) rfl ?_
    refine st2 _ ?_
    exact k)
  obtain ⟨fs, hr, hrun, hended, hW, hsame⟩ := X2.leave (v := some (.ref u2)) (fun h => by rw [Bd.returns] at h; cases h)
  refine ⟨_, _, pre3 _ ?_, hrun, hended, _, _, rfl, ?_, ⟨_, rfl⟩, hW, hsame.mono (by decide) (by decide)⟩
  · show Steps _ _ _ (T2.setTop (mkF m 16 #[rv tb, iv 0, iv kz] [(.ref u2)])) _
    exact retOut X2 hx Bd.returns rfl (Or.inr (Or.inr (Or.inr (Or.inr ⟨rfl, rfl, rfl⟩)))) (hb hby d30_16) hr
  · show (Qn Z kz (vb.take kn)) h0 n0 _ T2.heap _
    exact ⟨_, _, rfl, N2, own_ext_of K2, z_u2, V2⟩
theorem rm_sjL (l : Launch) (Z : State) (a0 : Array Value) (hw : ∀ d ∈ tables_1, d.before a0 Z = true) (ws : List Jvm.Cond) (ra : Addr) (rb : Addr) (h0 : Heap) (n0 : Nat) (Z0 : n0 ≤ h0.size) (Y0 : Old Z n0 h0) (zc : Int32) (fm : Value) (S : Sts Z Z.heap zc fm) (Ea : Exa Z h0 ra "java/lang/String") (Fv : Fld Z h0 ra "java/lang/String" "value" "[B" .null) (Fc : Fld Z h0 ra "java/lang/String" "coder" "B" (.int 0)) (ga : n0 ≤ ra) (Nb kz : Int32) (tb : Addr) (kb : ClassId) (vb : List Value) (Bb : SB Z h0 rb tb kb Nb vb (0 : Int32) kz) (gr : n0 ≤ rb) (gt : n0 ≤ tb) (kn : Nat) (hr : CR kz Nb kn) (hvk : kn ≤ vb.length)  :
    MFa l mN40 jdk_42_method_150_code 5 none ws (Room.mk 3 1 50 49) Z h0 n0 #[(.ref ra), (.ref rb), .null] (Qs Z ra kz (vb.take kn) (0 : Int32)) := by
  refine MetFree.of_bodySF (plainFor_of_name pn_13) hisR ?_
  intro p e s m args below meth c s₁ Bd hml0 hP hK
  obtain ⟨rfl, hZ, hh⟩ := hP
  have hx := Bd.exec
  have hby := Bd.bytes
  have hml : c.maxLocals = 5 := hml0
  have hown : s.vm.findClass "java/lang/String" = some m.cls := findClass_of_methodNamed Bd.named
  have hnm := (name_of_methodNamed Bd.named Bd.method).1
  have X0 : Stand p l e (Room.mk 3 1 50 49) s m #[(.ref ra), (.ref rb), .null] below meth c s₁ [] 0 0 := Stand.of_body Bd
  have e0 : s₁.heap = h0 := by rw [← hh, Bd.state]; rfl
  have N0 := Fr.nil n0
  have pre0 : Pr p e below (s₁.setTop (mkF m 0 #[rv ra, rv rb, .val .null, .unset, .unset] [])) (s₁.setTop (entryFrame m #[(.ref ra), (.ref rb), .null] 5)) := fun t k => castTop (by first | (simp [entryFrame, mkF, argsToLocals, Value.category]; done) | rfl) k
  have net : tb ≠ ra := (Exa.neArv Ea Bb.2.2.2.2.2.1 (ww hw 3 rfl)).symm
  obtain ⟨T1, X1, e1, st1⟩ := initO X0 hx hZ hown (ww hw 12 rfl) (ww hw 13 rfl) (ww hw 14 rfl) e0 (g := (mkF m 1 #[rv ra, rv rb, .val .null, .unset, .unset] [(.ref ra)])) rfl (by rw [hml]; rfl) rfl (hb hby d25_1) (by decide) (W := 0) own_z (by decide)
  obtain ⟨cq2, kq2, q2a, q2b, q2c⟩ := isOf hZ e1 Bb.1
  obtain ⟨_, _, ⟨T2, L2, k2, n2⟩, -, X2, ⟨Lc2, hQ2, l2, y2, z2⟩, st2⟩ := X1.virtualBack hx (y := mN2) (z := mN2) hown (mw hZ hw 142 rfl) (mw hZ hw 143 rfl) (notFace_of_selects (args := #[]) (mw hZ hw 145 rfl)) (mw hZ hw 145 rfl) (mw hZ hw 144 rfl) (by decide) (backOf (W := 0) (rm_gv l Z a0 hw [] rb h0 n0 (own_old0 Y0) Y0 zc fm S Nb kz (0 : Int32) tb kb vb ⟨Bb.1, Bb.2.1, Bb.2.2.1, Bb.2.2.2.1, Bb.2.2.2.2.1, Bb.2.2.2.2.2.1, Bb.2.2.2.2.2.2⟩ gr gt ) hZ (ww hw 146 rfl) (ww hw 48 rfl) (by decide) (by decide)) q2a q2c (g := (mkF m 5 #[rv ra, rv rb, .val .null, .unset, .unset] [(.ref rb)])) rfl (by rw [hml]; rfl) (Steps.refl _) (argsL := []) (rest := []) (lenOf pd_24 rfl) rfl own_z (hb hby d25_5) (fun _ _ => ⟨rfl, e1, (by decide : 0 + 0 ≤ _), (by decide : 0 + 0 ≤ _)⟩)
  dsimp only [Pt.U, Pt.locs, Pt.cells, Pt.slots] at X2 l2 y2 z2 st2 hQ2
  rw [y2, z2] at X2
  obtain ⟨rfl, N2q, e2⟩ := hQ2
  have N2 := own_fr l2 N0 N2q
  obtain ⟨cq3, kq3, q3a, q3b, q3c⟩ := isOf hZ e2 Bb.1
  obtain ⟨_, _, ⟨T3, L3, k3, n3⟩, -, X3, ⟨Lc3, hQ3, l3, y3, z3⟩, st3⟩ := X2.virtualBack hx (y := mN3) (z := mN4) hown (mw hZ hw 147 rfl) (mw hZ hw 148 rfl) (own_nf (args := #[]) (y' := mN5) rfl (mw hZ hw 84 rfl) (mw hZ hw 82 rfl)) (mw hZ hw 150 rfl) (mw hZ hw 151 rfl) (by decide) (backOf (W := 0) (rm_bln l Z a0 hw [] rb h0 n0 (own_old0 Y0) Y0 zc fm S Nb kz (0 : Int32) tb kb vb ⟨Bb.1, Bb.2.1, Bb.2.2.1, Bb.2.2.2.1, Bb.2.2.2.2.1, Bb.2.2.2.2.2.1, Bb.2.2.2.2.2.2⟩ gr gt ) hZ (ww hw 152 rfl) (ww hw 40 rfl) (by decide) (by decide)) q3a q3c (g := (mkF m 10 #[rv ra, rv rb, .val .null, rv tb, .unset] [(.ref rb)])) rfl (by rw [hml]; rfl) (Steps.refl _) (argsL := []) (rest := []) (lenOf pd_1 rfl) rfl own_z (hb hby d25_10) (fun _ _ => ⟨rfl, e2, (by decide : 0 + 0 ≤ _), (by decide : 0 + 0 ≤ _)⟩)
  dsimp only [Pt.U, Pt.locs, Pt.cells, Pt.slots] at X3 l3 y3 z3 st3 hQ3
  rw [y3, z3] at X3
  obtain ⟨rfl, N3q, e3⟩ := hQ3
  have N3 := own_fr l3 N2 N3q
  obtain ⟨cq4, kq4, q4a, q4b, q4c⟩ := isOf hZ e3 Bb.1
  obtain ⟨_, _, ⟨T4, L4, k4, n4⟩, -, X4, ⟨Lc4, hQ4, l4, y4, z4⟩, st4⟩ := X3.virtualBack hx (y := mN7) (z := mN7) hown (mw hZ hw 155 rfl) (mw hZ hw 156 rfl) (notFace_of_selects (args := #[]) (mw hZ hw 158 rfl)) (mw hZ hw 158 rfl) (mw hZ hw 157 rfl) (by decide) (backOf (W := 0) (rm_bisl0 l Z a0 hw [] rb h0 n0 (own_old0 Y0) Y0 zc fm S Nb kz tb kb vb ⟨Bb.1, Bb.2.1, Bb.2.2.1, Bb.2.2.2.1, Bb.2.2.2.2.1, Bb.2.2.2.2.2.1, Bb.2.2.2.2.2.2⟩ gr gt ) hZ (ww hw 159 rfl) (ww hw 48 rfl) (by decide) (by decide)) q4a q4c (g := (mkF m 16 #[rv ra, rv rb, .val .null, rv tb, iv kz] [(.ref rb)])) rfl (by rw [hml]; rfl) (Steps.refl _) (argsL := []) (rest := []) (lenOf pd_12 rfl) rfl own_z (hb hby d25_16) (fun _ _ => ⟨rfl, e3, (by decide : 0 + 0 ≤ _), (by decide : 0 + 0 ≤ _)⟩)
  dsimp only [Pt.U, Pt.locs, Pt.cells, Pt.slots] at X4 l4 y4 z4 st4 hQ4
  rw [y4, z4] at X4
  obtain ⟨rfl, N4q, e4⟩ := hQ4
  have N4 := own_fr l4 N3 N4q
  have pre5 : Pr p e below (T4.setTop (mkF m 24 #[rv ra, rv rb, .val .null, rv tb, iv kz] [(.int 0), (.ref ra)])) (s₁.setTop (entryFrame m #[(.ref ra), (.ref rb), .null] 5)) := fun t k => pre0 t (by
    show Steps _ _ _ (s₁.setTop (mkF m 0 #[rv ra, rv rb, .val .null, .unset, .unset] [])) _
    refine XS.aloadN X0.here hx rfl (hb hby d25_0) rfl rfl ?_
    refine st1 _ ?_
    refine XS.aloadN X1.here hx rfl (hb hby d25_4) rfl rfl ?_
    refine st2.trans ?_
    refine XS.astoreN X2.here hx rfl (hb hby d25_8) rfl rfl (l' := #[rv ra, rv rb, .val .null, rv tb, .unset]) rfl ?_
    refine XS.aloadN X2.here hx rfl (hb hby d25_9) rfl rfl ?_
    refine st3.trans ?_
    refine XS.istore X3.here hx rfl (hb hby d25_13) rfl (l' := #[rv ra, rv rb, .val .null, rv tb, iv kz]) rfl ?_
    refine XS.aloadN X3.here hx rfl (hb hby d25_15) rfl rfl ?_
    refine st4.trans ?_
    show Steps _ _ _ (T4.setTop (mkF m 19 #[rv ra, rv rb, .val .null, rv tb, iv kz] [(.int 1)])) _
    refine XS.ifNo X4.here hx rfl (hb hby d25_19) rfl ((if0 _ _).trans (feq (by decide : ¬ ((1 : Int32) = (0 : Int32)))).1) ?_
    refine XS.aloadN X4.here hx rfl (hb hby d25_22) rfl rfl ?_
    refine XT.iconstV X4.here hx rfl (0 : Int32) (hb hby d25_23) (by decide) ?_
    exact k)
  obtain ⟨T6, h6, X6, e6, W6, st6⟩ := putFN X4 hx hZ hown (ww hw 27 rfl) Via.refl e4 Fc Ea (Or.inr ⟨(ww hw 28 rfl), rfl, hnm⟩) (ww hw 3 rfl) (ty := .byte) (v' := (.int 0)) (by decide) rfl rfl (g := (mkF m 24 #[rv ra, rv rb, .val .null, rv tb, iv kz] [(.int 0), (.ref ra)])) rfl rfl (hb hby d25_24)
  have E6_ra := Ea.wr W6
  have V6_tb := Bb.2.2.2.2.2.1.other W6 net
  have F6_ra_value := Fv.other W6 (Or.inr (slot_ne (Or.inr (ww hw 30 rfl)) (Or.inr (ww hw 28 rfl)) (by decide) (t := (.array .byte)) (t' := .byte) (by decide) (by decide)))
  have F6_ra_coder := Fc.same W6
  have Y6 := Old.wr Y0 W6 ga
  have sz6 : h0.size ≤ h6.size := by rw [W6.size]; exact (Nat.le_refl h0.size)
  have K6 : Keep h0 h6 [ra] := (Keep.refl h0 [ra]).wr W6 (Or.inl (List.mem_of_getElem? (i := 0) rfl))
  have N6 := Fr.snoc X6 N4 ga
  obtain ⟨_, _, ⟨T7, L7, k7, n7⟩, -, X7, ⟨Lc7, hQ7, l7, y7, z7⟩, st7⟩ := Jvm.LawKit.callS X6 hx (y := mN39) hown (mw hZ hw 160 rfl) (mw hZ hw 161 rfl) (mw hZ hw 124 rfl) (mw hZ hw 162 rfl) (by decide) (backOf (W := 1) (rm_cor l Z a0 hw [] tb kz h6 n0 (own_old0 Y6) Y6 zc fm S kb Nb vb V6_tb kn hr hvk ) hZ (ww hw 162 rfl) (ww hw 124 rfl) (by decide) (by decide)) (g := (mkF m 32 #[rv ra, rv rb, .val .null, rv tb, iv kz] [(.int kz), (.int 0), (.ref tb), (.ref ra)])) rfl (by rw [hml]; rfl) (argsL := [(.ref tb), (.int 0), (.int kz)]) (rest := [(.ref ra)]) (lenOf pd_23 rfl) rfl own_z (hb hby d25_32) (fun _ _ => ⟨rfl, e6, (by decide : 0 + 1 ≤ _), (by decide : 0 + 50 ≤ _)⟩)
  dsimp only [Pt.U, Pt.locs, Pt.cells, Pt.slots] at X7 l7 y7 z7 st7 hQ7
  rw [y7, z7] at X7
  obtain ⟨u7, ku7, rfl, N7q, E7, zz7, V7⟩ := hQ7
  have N7 := own_fr l7 N6 N7q
  have ne_ra_u7 : ra ≠ u7 := Nat.ne_of_lt (Nat.lt_of_lt_of_le E6_ra.lt zz7)
  have z_u7 : h0.size ≤ u7 := Nat.le_trans sz6 zz7
  have E7_ra := E6_ra.ext E7
  have F7_ra_value := F6_ra_value.ext E7
  have F7_ra_coder := F6_ra_coder.ext E7
  have K7 : Keep h0 T7.heap [ra] := K6.ext E7
  obtain ⟨T8, h8, X8, e8, W8, st8⟩ := putF X7 hx hZ hown (host := "") (Or.inl (ww hw 29 rfl)) Via.refl rfl F7_ra_value E7_ra (Or.inr ⟨(ww hw 30 rfl), rfl, hnm⟩) (ww hw 3 rfl) (ty := (.array .byte)) (by decide) rfl rfl (g := (mkF m 35 #[rv ra, rv rb, .val .null, rv tb, iv kz] [(.ref u7), (.ref ra)])) rfl rfl (hb hby d25_35)
  have E8_ra := E7_ra.wr W8
  have V8_u7 := V7.other W8 (Ne.symm ne_ra_u7)
  have F8_ra_value := F7_ra_value.same W8
  have F8_ra_coder := F7_ra_coder.other W8 (Or.inr (slot_ne (Or.inr (ww hw 28 rfl)) (Or.inr (ww hw 30 rfl)) (by decide) (t := .byte) (t' := (.array .byte)) (by decide) (by decide)))
  have K8 : Keep h0 h8 [ra] := K7.wr W8 (Or.inl (List.mem_of_getElem? (i := 0) rfl))
  have N8 := Fr.snoc X8 N7 ga
  have pre9 : Pr p e below (T8.setTop (mkF m 97 #[rv ra, rv rb, .val .null, rv tb, iv kz] [])) (s₁.setTop (entryFrame m #[(.ref ra), (.ref rb), .null] 5)) := fun t k => pre5 t (by
    show Steps _ _ _ (T4.setTop (mkF m 24 #[rv ra, rv rb, .val .null, rv tb, iv kz] [(.int 0), (.ref ra)])) _
    refine st6 _ ?_
    refine XS.aloadN X6.here hx rfl (hb hby d25_27) rfl rfl ?_
    refine XS.aloadN X6.here hx rfl (hb hby d25_28) rfl rfl ?_
    refine XT.iconstV X6.here hx rfl (0 : Int32) (hb hby d25_29) (by decide) ?_
    refine XS.iload X6.here hx rfl (hb hby d25_30) rfl ?_
    refine st7 _ ?_
    refine st8 _ ?_
    refine XS.goto X8.here hx rfl (pc0 := 38) (pc' := 97) rfl (hb hby d25_38) (by decide) (by decide) ?_
    exact k)
  obtain ⟨fs, hr, hrun, hended, hW, hsame⟩ := X8.leave (v := none) (fun _ => rfl)
  refine ⟨_, _, pre9 _ ?_, hrun, hended, _, _, rfl, ?_, ⟨_, rfl⟩, hW, hsame.mono (by decide) (by decide)⟩
  · show Steps _ _ _ (T8.setTop (mkF m 97 #[rv ra, rv rb, .val .null, rv tb, iv kz] [])) _
    exact X8.returnOut hx Bd.returns (hb hby d25_97) hr
  · show (Qs Z ra kz (vb.take kn) (0 : Int32)) h0 n0 _ T8.heap _
    rw [e8]
    exact ⟨_, _, rfl, N8, K8, z_u7, ⟨E8_ra, F8_ra_coder, F8_ra_value, V8_u7⟩⟩
theorem rm_ssL (l : Launch) (Z : State) (a0 : Array Value) (hw : ∀ d ∈ tables_1, d.before a0 Z = true) (ws : List Jvm.Cond) (ra : Addr) (rb : Addr) (h0 : Heap) (n0 : Nat) (Z0 : n0 ≤ h0.size) (Y0 : Old Z n0 h0) (zc : Int32) (fm : Value) (S : Sts Z Z.heap zc fm) (Ea : Exa Z h0 ra "java/lang/String") (Fv : Fld Z h0 ra "java/lang/String" "value" "[B" .null) (Fc : Fld Z h0 ra "java/lang/String" "coder" "B" (.int 0)) (ga : n0 ≤ ra) (Nb kz : Int32) (tb : Addr) (kb : ClassId) (vb : List Value) (Bb : SB Z h0 rb tb kb Nb vb (0 : Int32) kz) (gr : n0 ≤ rb) (gt : n0 ≤ tb) (kn : Nat) (hr : CR kz Nb kn) (hvk : kn ≤ vb.length)  :
    MFa l mN41 jdk_42_method_53_code 2 none ws (Room.mk 4 1 50 65) Z h0 n0 #[(.ref ra), (.ref rb)] (Qs Z ra kz (vb.take kn) (0 : Int32)) := by
  refine MetFree.of_bodySF (plainFor_of_name pn_13) hisR ?_
  intro p e s m args below meth c s₁ Bd hml0 hP hK
  obtain ⟨rfl, hZ, hh⟩ := hP
  have hx := Bd.exec
  have hby := Bd.bytes
  have hml : c.maxLocals = 2 := hml0
  have hown : s.vm.findClass "java/lang/String" = some m.cls := findClass_of_methodNamed Bd.named
  have X0 : Stand p l e (Room.mk 4 1 50 65) s m #[(.ref ra), (.ref rb)] below meth c s₁ [] 0 0 := Stand.of_body Bd
  have e0 : s₁.heap = h0 := by rw [← hh, Bd.state]; rfl
  have N0 := Fr.nil n0
  have pre0 : Pr p e below (s₁.setTop (mkF m 0 #[rv ra, rv rb] [])) (s₁.setTop (entryFrame m #[(.ref ra), (.ref rb)] 2)) := fun t k => castTop (by first | (simp [entryFrame, mkF, argsToLocals, Value.category]; done) | rfl) k
  obtain ⟨_, _, ⟨T1, L1, k1, n1⟩, -, X1, ⟨Lc1, hQ1, l1, y1, z1⟩, st1⟩ := X0.specialBack hx (y := mN40) rfl hown (mw hZ hw 139 rfl) (mw hZ hw 140 rfl) (mw hZ hw 141 rfl) (by decide) (backOf (W := 0) (rm_sjL l Z a0 hw [] ra rb h0 n0 (own_old0 Y0) Y0 zc fm S Ea Fv Fc ga Nb kz tb kb vb Bb gr gt kn hr hvk) hZ (ww hw 141 rfl) (ww hw 4 rfl) (by decide) (by decide)) (g := (mkF m 3 #[rv ra, rv rb] [.null, (.ref rb), (.ref ra)])) rfl (by rw [hml]; rfl) (Steps.refl _) (a := ra) (argsL := [(.ref rb), .null]) (rest := []) (lenOf pd_25 rfl) rfl own_z (hb hby d24_3) (fun _ _ => ⟨rfl, e0, (by decide : 0 + 1 ≤ _), (by decide : 0 + 50 ≤ _)⟩)
  dsimp only [Pt.U, Pt.locs, Pt.cells, Pt.slots] at X1 l1 y1 z1 st1 hQ1
  rw [y1, z1] at X1
  obtain ⟨u1, ku1, rfl, N1q, Kc1, zz1, Tc1⟩ := hQ1
  have N1 := own_fr l1 N0 N1q
  have K1k : Keep h0 T1.heap [ra] := Keep.trans (Keep.refl h0 [ra]) Kc1 (allS (Or.inl (List.mem_of_getElem? (i := 0) rfl)) all0)
  have z_u1 : h0.size ≤ u1 := Nat.le_trans (Nat.le_refl h0.size) zz1
  have pre2 : Pr p e below (T1.setTop (mkF m 6 #[rv ra, rv rb] [])) (s₁.setTop (entryFrame m #[(.ref ra), (.ref rb)] 2)) := fun t k => pre0 t (by
    show Steps _ _ _ (s₁.setTop (mkF m 0 #[rv ra, rv rb] [])) _
    refine XS.aloadN X0.here hx rfl (hb hby d24_0) rfl rfl ?_
    refine XS.aloadN X0.here hx rfl (hb hby d24_1) rfl rfl ?_
    refine XS.aconstNull X0.here hx rfl (hb hby d24_2) ?_
    refine st1.trans ?_
    exact k)
  obtain ⟨fs, hr, hrun, hended, hW, hsame⟩ := X1.leave (v := none) (fun _ => rfl)
  refine ⟨_, _, pre2 _ ?_, hrun, hended, _, _, rfl, ?_, ⟨_, rfl⟩, hW, hsame.mono (by decide) (by decide)⟩
  · show Steps _ _ _ (T1.setTop (mkF m 6 #[rv ra, rv rb] [])) _
    exact X1.returnOut hx Bd.returns (hb hby d24_6) hr
  · show (Qs Z ra kz (vb.take kn) (0 : Int32)) h0 n0 _ T1.heap _
    exact ⟨_, _, rfl, N1, K1k, z_u1, ⟨Tc1.1, Tc1.2.1, Tc1.2.2.1, Tc1.2.2.2⟩⟩
theorem rm_tsL (l : Launch) (Z : State) (a0 : Array Value) (hw : ∀ d ∈ tables_1, d.before a0 Z = true) (ws : List Jvm.Cond) (rb : Addr) (h0 : Heap) (n0 : Nat) (Z0 : n0 ≤ h0.size) (Y0 : Old Z n0 h0) (zc : Int32) (fm : Value) (S : Sts Z Z.heap zc fm) (Nb kz : Int32) (tb : Addr) (kb : ClassId) (vb : List Value) (Bb : SB Z h0 rb tb kb Nb vb (0 : Int32) kz) (gr : n0 ≤ rb) (gt : n0 ≤ tb) (kn : Nat) (hr : CR kz Nb kn) (hvk : kn ≤ vb.length)  :
    MFa l mN42 jdk_67_method_42_code 1 (some (.object "java/lang/String")) ws (Room.mk 5 2 54 79) Z h0 n0 #[(.ref rb)] (Qm Z kz (vb.take kn) (0 : Int32)) := by
  refine MetFree.of_bodySF (plainFor_of_name pn_27) hisR ?_
  intro p e s m args below meth c s₁ Bd hml0 hP hK
  obtain ⟨rfl, hZ, hh⟩ := hP
  have hx := Bd.exec
  have hby := Bd.bytes
  have hml : c.maxLocals = 1 := hml0
  have hown : s.vm.findClass "java/lang/StringBuilder" = some m.cls := findClass_of_methodNamed Bd.named
  have X0 : Stand p l e (Room.mk 5 2 54 79) s m #[(.ref rb)] below meth c s₁ [] 0 0 := Stand.of_body Bd
  have e0 : s₁.heap = h0 := by rw [← hh, Bd.state]; rfl
  have N0 := Fr.nil n0
  have pre0 : Pr p e below (s₁.setTop (mkF m 0 #[rv rb] [])) (s₁.setTop (entryFrame m #[(.ref rb)] 1)) := fun t k => castTop (by first | (simp [entryFrame, mkF, argsToLocals, Value.category]; done) | rfl) k
  obtain ⟨T1, h1, X1, e1, E1, A1, D1, -, st1⟩ := newO X0 hx hZ hown (ww hw 135 rfl) (ww hw 3 rfl) (ww hw 4 rfl) e0 (g := (mkF m 0 #[rv rb] [])) rfl (hb hby d23_0) (by decide) (by decide)
  obtain ⟨b1, g1⟩ : ∃ z, z = h0.size := ⟨_, rfl⟩
  rw [← g1] at A1 D1 st1
  have z_b1 : h0.size ≤ b1 := Nat.le_trans (Nat.le_refl h0.size) (Nat.le_of_eq g1.symm)
  have g_b1 : n0 ≤ b1 := Nat.le_trans Z0 z_b1
  have E1_rb := Bb.1.ext E1
  have V1_tb := Bb.2.2.2.2.2.1.ext E1
  have F1_rb_value := Bb.2.1.ext E1
  have F1_rb_coder := Bb.2.2.1.ext E1
  have F1_rb_count := Bb.2.2.2.1.ext E1
  have F1_rb_maybeLatin1 := Bb.2.2.2.2.1.ext E1
  have Y1 := Old.ext Y0 E1
  have sz1 : h0.size ≤ h1.size := Nat.le_trans (Nat.le_refl h0.size) E1.1
  have K1 : Keep h0 h1 [] := (Keep.refl h0 []).ext E1
  have F1_b1_coder : Fld Z h1 b1 "java/lang/String" "coder" "B" (.int 0) := D1 (Or.inr (ww hw 28 rfl)) (ty := .byte) (by decide)
  have F1_b1_value : Fld Z h1 b1 "java/lang/String" "value" "[B" .null := D1 (Or.inr (ww hw 30 rfl)) (ty := (.array .byte)) (by decide)
  obtain ⟨_, _, ⟨T2, L2, k2, n2⟩, -, X2, ⟨Lc2, hQ2, l2, y2, z2⟩, st2⟩ := X1.specialBack hx (y := mN41) rfl hown (mw hZ hw 136 rfl) (mw hZ hw 137 rfl) (mw hZ hw 138 rfl) (by decide) (backOf (W := 1) (rm_ssL l Z a0 hw [] b1 rb h1 n0 (own_old0 Y1) Y1 zc fm S A1 F1_b1_value F1_b1_coder g_b1 Nb kz tb kb vb ⟨E1_rb, F1_rb_value, F1_rb_coder, F1_rb_count, F1_rb_maybeLatin1, V1_tb, Bb.2.2.2.2.2.2⟩ gr gt kn hr hvk) hZ (ww hw 138 rfl) (ww hw 4 rfl) (by decide) (by decide)) (g := (mkF m 5 #[rv rb] [(.ref rb), (.ref b1), (.ref b1)])) rfl (by rw [hml]; rfl) (Steps.refl _) (a := b1) (argsL := [(.ref rb)]) (rest := [(.ref b1)]) (lenOf pd_26 rfl) rfl own_z (hb hby d23_5) (fun _ _ => ⟨rfl, e1, (by decide : 1 + 1 ≤ _), (by decide : 4 + 50 ≤ _)⟩)
  dsimp only [Pt.U, Pt.locs, Pt.cells, Pt.slots] at X2 l2 y2 z2 st2 hQ2
  rw [y2, z2] at X2
  obtain ⟨u2, ku2, rfl, N2q, Kc2, zz2, Tc2⟩ := hQ2
  have N2 := own_fr l2 N0 N2q
  have K2k : Keep h0 T2.heap [] := Keep.trans K1 Kc2 (allS (Or.inr z_b1) all0)
  have z_u2 : h0.size ≤ u2 := Nat.le_trans sz1 zz2
  have pre3 : Pr p e below (T2.setTop (mkF m 8 #[rv rb] [(.ref b1)])) (s₁.setTop (entryFrame m #[(.ref rb)] 1)) := fun t k => pre0 t (by
    show Steps _ _ _ (s₁.setTop (mkF m 0 #[rv rb] [])) _
    refine st1 _ ?_
    refine XS.dup X1.here hx rfl (hb hby d23_3) rfl rfl ?_
    refine XS.aloadN X1.here hx rfl (hb hby d23_4) rfl rfl ?_
    refine st2.trans ?_
    exact k)
  obtain ⟨fs, hr, hrun, hended, hW, hsame⟩ := X2.leave (v := some (.ref b1)) (fun h => by rw [Bd.returns] at h; cases h)
  refine ⟨_, _, pre3 _ ?_, hrun, hended, _, _, rfl, ?_, ⟨_, rfl⟩, hW, hsame.mono (by decide) (by decide)⟩
  · show Steps _ _ _ (T2.setTop (mkF m 8 #[rv rb] [(.ref b1)])) _
    exact retOut X2 hx Bd.returns rfl (Or.inr (Or.inr (Or.inr (Or.inr ⟨rfl, rfl, rfl⟩)))) (hb hby d23_8) hr
  · show (Qm Z kz (vb.take kn) (0 : Int32)) h0 n0 _ T2.heap _
    exact ⟨_, _, _, rfl, N2, own_ext_of K2k, z_b1, z_u2, Tc2⟩
theorem rm_sjW (l : Launch) (Z : State) (a0 : Array Value) (hw : ∀ d ∈ tables_1, d.before a0 Z = true) (ws : List Jvm.Cond) (ra : Addr) (rb : Addr) (h0 : Heap) (n0 : Nat) (Z0 : n0 ≤ h0.size) (Y0 : Old Z n0 h0) (zc : Int32) (fm : Value) (S : Sts Z Z.heap zc fm) (Ea : Exa Z h0 ra "java/lang/String") (Fv : Fld Z h0 ra "java/lang/String" "value" "[B" .null) (Fc : Fld Z h0 ra "java/lang/String" "coder" "B" (.int 0)) (ga : n0 ≤ ra) (Nb cb kz : Int32) (tb : Addr) (kb : ClassId) (vb : List Value) (Bb : SB Z h0 rb tb kb Nb vb (1 : Int32) cb) (gr : n0 ≤ rb) (gt : n0 ≤ tb) (kn : Nat) (hr : CR kz Nb kn) (hvk : kn ≤ vb.length) (hkz : (cb <<< ((1 : Int32) &&& 31)) = kz)  :
    MFa l mN40 jdk_42_method_150_code 5 none ws (Room.mk 3 1 50 49) Z h0 n0 #[(.ref ra), (.ref rb), .null] (Qs Z ra kz (vb.take kn) (1 : Int32)) := by
  refine MetFree.of_bodySF (plainFor_of_name pn_13) hisR ?_
  intro p e s m args below meth c s₁ Bd hml0 hP hK
  obtain ⟨rfl, hZ, hh⟩ := hP
  have hx := Bd.exec
  have hby := Bd.bytes
  have hml : c.maxLocals = 5 := hml0
  have hown : s.vm.findClass "java/lang/String" = some m.cls := findClass_of_methodNamed Bd.named
  have hnm := (name_of_methodNamed Bd.named Bd.method).1
  have X0 : Stand p l e (Room.mk 3 1 50 49) s m #[(.ref ra), (.ref rb), .null] below meth c s₁ [] 0 0 := Stand.of_body Bd
  have e0 : s₁.heap = h0 := by rw [← hh, Bd.state]; rfl
  have N0 := Fr.nil n0
  have pre0 : Pr p e below (s₁.setTop (mkF m 0 #[rv ra, rv rb, .val .null, .unset, .unset] [])) (s₁.setTop (entryFrame m #[(.ref ra), (.ref rb), .null] 5)) := fun t k => castTop (by first | (simp [entryFrame, mkF, argsToLocals, Value.category]; done) | rfl) k
  have net : tb ≠ ra := (Exa.neArv Ea Bb.2.2.2.2.2.1 (ww hw 3 rfl)).symm
  obtain ⟨T1, X1, e1, st1⟩ := initO X0 hx hZ hown (ww hw 12 rfl) (ww hw 13 rfl) (ww hw 14 rfl) e0 (g := (mkF m 1 #[rv ra, rv rb, .val .null, .unset, .unset] [(.ref ra)])) rfl (by rw [hml]; rfl) rfl (hb hby d25_1) (by decide) (W := 0) own_z (by decide)
  obtain ⟨cq2, kq2, q2a, q2b, q2c⟩ := isOf hZ e1 Bb.1
  obtain ⟨_, _, ⟨T2, L2, k2, n2⟩, -, X2, ⟨Lc2, hQ2, l2, y2, z2⟩, st2⟩ := X1.virtualBack hx (y := mN2) (z := mN2) hown (mw hZ hw 142 rfl) (mw hZ hw 143 rfl) (notFace_of_selects (args := #[]) (mw hZ hw 145 rfl)) (mw hZ hw 145 rfl) (mw hZ hw 144 rfl) (by decide) (backOf (W := 0) (rm_gv l Z a0 hw [] rb h0 n0 (own_old0 Y0) Y0 zc fm S Nb cb (1 : Int32) tb kb vb ⟨Bb.1, Bb.2.1, Bb.2.2.1, Bb.2.2.2.1, Bb.2.2.2.2.1, Bb.2.2.2.2.2.1, Bb.2.2.2.2.2.2⟩ gr gt ) hZ (ww hw 146 rfl) (ww hw 48 rfl) (by decide) (by decide)) q2a q2c (g := (mkF m 5 #[rv ra, rv rb, .val .null, .unset, .unset] [(.ref rb)])) rfl (by rw [hml]; rfl) (Steps.refl _) (argsL := []) (rest := []) (lenOf pd_24 rfl) rfl own_z (hb hby d25_5) (fun _ _ => ⟨rfl, e1, (by decide : 0 + 0 ≤ _), (by decide : 0 + 0 ≤ _)⟩)
  dsimp only [Pt.U, Pt.locs, Pt.cells, Pt.slots] at X2 l2 y2 z2 st2 hQ2
  rw [y2, z2] at X2
  obtain ⟨rfl, N2q, e2⟩ := hQ2
  have N2 := own_fr l2 N0 N2q
  obtain ⟨cq3, kq3, q3a, q3b, q3c⟩ := isOf hZ e2 Bb.1
  obtain ⟨_, _, ⟨T3, L3, k3, n3⟩, -, X3, ⟨Lc3, hQ3, l3, y3, z3⟩, st3⟩ := X2.virtualBack hx (y := mN3) (z := mN4) hown (mw hZ hw 147 rfl) (mw hZ hw 148 rfl) (own_nf (args := #[]) (y' := mN5) rfl (mw hZ hw 84 rfl) (mw hZ hw 82 rfl)) (mw hZ hw 150 rfl) (mw hZ hw 151 rfl) (by decide) (backOf (W := 0) (rm_bln l Z a0 hw [] rb h0 n0 (own_old0 Y0) Y0 zc fm S Nb cb (1 : Int32) tb kb vb ⟨Bb.1, Bb.2.1, Bb.2.2.1, Bb.2.2.2.1, Bb.2.2.2.2.1, Bb.2.2.2.2.2.1, Bb.2.2.2.2.2.2⟩ gr gt ) hZ (ww hw 152 rfl) (ww hw 40 rfl) (by decide) (by decide)) q3a q3c (g := (mkF m 10 #[rv ra, rv rb, .val .null, rv tb, .unset] [(.ref rb)])) rfl (by rw [hml]; rfl) (Steps.refl _) (argsL := []) (rest := []) (lenOf pd_1 rfl) rfl own_z (hb hby d25_10) (fun _ _ => ⟨rfl, e2, (by decide : 0 + 0 ≤ _), (by decide : 0 + 0 ≤ _)⟩)
  dsimp only [Pt.U, Pt.locs, Pt.cells, Pt.slots] at X3 l3 y3 z3 st3 hQ3
  rw [y3, z3] at X3
  obtain ⟨rfl, N3q, e3⟩ := hQ3
  have N3 := own_fr l3 N2 N3q
  obtain ⟨cq4, kq4, q4a, q4b, q4c⟩ := isOf hZ e3 Bb.1
  obtain ⟨_, _, ⟨T4, L4, k4, n4⟩, -, X4, ⟨Lc4, hQ4, l4, y4, z4⟩, st4⟩ := X3.virtualBack hx (y := mN7) (z := mN7) hown (mw hZ hw 155 rfl) (mw hZ hw 156 rfl) (notFace_of_selects (args := #[]) (mw hZ hw 158 rfl)) (mw hZ hw 158 rfl) (mw hZ hw 157 rfl) (by decide) (backOf (W := 0) (rm_bisl1 l Z a0 hw [] rb h0 n0 (own_old0 Y0) Y0 zc fm S Nb cb tb kb vb ⟨Bb.1, Bb.2.1, Bb.2.2.1, Bb.2.2.2.1, Bb.2.2.2.2.1, Bb.2.2.2.2.2.1, Bb.2.2.2.2.2.2⟩ gr gt ) hZ (ww hw 159 rfl) (ww hw 48 rfl) (by decide) (by decide)) q4a q4c (g := (mkF m 16 #[rv ra, rv rb, .val .null, rv tb, iv cb] [(.ref rb)])) rfl (by rw [hml]; rfl) (Steps.refl _) (argsL := []) (rest := []) (lenOf pd_12 rfl) rfl own_z (hb hby d25_16) (fun _ _ => ⟨rfl, e3, (by decide : 0 + 0 ≤ _), (by decide : 0 + 0 ≤ _)⟩)
  dsimp only [Pt.U, Pt.locs, Pt.cells, Pt.slots] at X4 l4 y4 z4 st4 hQ4
  rw [y4, z4] at X4
  obtain ⟨rfl, N4q, e4⟩ := hQ4
  have N4 := own_fr l4 N3 N4q
  obtain ⟨T5, X5, e5, st5⟩ := getS2 X4 hx hZ hown (host := "") (Or.inl (ww hw 15 rfl)) Via.refl e4 (S.1.ext Y0.2) (g := (mkF m 41 #[rv ra, rv rb, .val .null, rv tb, iv cb] [])) rfl (hb hby d25_41)
  have pre6 : Pr p e below (T5.setTop (mkF m 47 #[rv ra, rv rb, .val .null, rv tb, iv cb] [])) (s₁.setTop (entryFrame m #[(.ref ra), (.ref rb), .null] 5)) := fun t k => pre0 t (by
    show Steps _ _ _ (s₁.setTop (mkF m 0 #[rv ra, rv rb, .val .null, .unset, .unset] [])) _
    refine XS.aloadN X0.here hx rfl (hb hby d25_0) rfl rfl ?_
    refine st1 _ ?_
    refine XS.aloadN X1.here hx rfl (hb hby d25_4) rfl rfl ?_
    refine st2.trans ?_
    refine XS.astoreN X2.here hx rfl (hb hby d25_8) rfl rfl (l' := #[rv ra, rv rb, .val .null, rv tb, .unset]) rfl ?_
    refine XS.aloadN X2.here hx rfl (hb hby d25_9) rfl rfl ?_
    refine st3.trans ?_
    refine XS.istore X3.here hx rfl (hb hby d25_13) rfl (l' := #[rv ra, rv rb, .val .null, rv tb, iv cb]) rfl ?_
    refine XS.aloadN X3.here hx rfl (hb hby d25_15) rfl rfl ?_
    refine st4.trans ?_
    show Steps _ _ _ (T4.setTop (mkF m 19 #[rv ra, rv rb, .val .null, rv tb, iv cb] [(.int 0)])) _
    refine XS.ifYes X4.here hx rfl (pc0 := 19) (pc' := 41) rfl (hb hby d25_19) rfl ((if0 _ _).trans (teq (by decide : ((0 : Int32) = (0 : Int32)))).1) (by decide) (by decide) ?_
    refine st5 _ ?_
    show Steps _ _ _ (T5.setTop (mkF m 44 #[rv ra, rv rb, .val .null, rv tb, iv cb] [(.int zc)])) _
    refine XS.ifNo X5.here hx rfl (hb hby d25_44) rfl ((if0 _ _).trans (feq S.2.2.2.2.2.1).1) ?_
    exact k)
  obtain ⟨T7, X7, e7, st7⟩ := getF X5 hx hZ hown (host := "") (Or.inl (ww hw 304 rfl)) Via.refl e5 Bb.2.2.2.2.1 (g := (mkF m 48 #[rv ra, rv rb, .val .null, rv tb, iv cb] [(.ref rb)])) rfl rfl (hb hby d25_48)
  obtain ⟨T8, h8, X8, e8, W8, st8⟩ := putFN X7 hx hZ hown (ww hw 27 rfl) Via.refl e7 Fc Ea (Or.inr ⟨(ww hw 28 rfl), rfl, hnm⟩) (ww hw 3 rfl) (ty := .byte) (v' := (.int 1)) (by decide) rfl rfl (g := (mkF m 81 #[rv ra, rv rb, .val .null, rv tb, iv cb] [(.int 1), (.ref ra)])) rfl rfl (hb hby d25_81)
  have E8_ra := Ea.wr W8
  have V8_tb := Bb.2.2.2.2.2.1.other W8 net
  have F8_ra_value := Fv.other W8 (Or.inr (slot_ne (Or.inr (ww hw 30 rfl)) (Or.inr (ww hw 28 rfl)) (by decide) (t := (.array .byte)) (t' := .byte) (by decide) (by decide)))
  have F8_ra_coder := Fc.same W8
  have Y8 := Old.wr Y0 W8 ga
  have sz8 : h0.size ≤ h8.size := by rw [W8.size]; exact (Nat.le_refl h0.size)
  have K8 : Keep h0 h8 [ra] := (Keep.refl h0 [ra]).wr W8 (Or.inl (List.mem_of_getElem? (i := 0) rfl))
  have N8 := Fr.snoc X8 N4 ga
  have pre9 : Pr p e below (T8.setTop (mkF m 91 #[rv ra, rv rb, .val .null, rv tb, iv cb] [(.int kz), (.int 0), (.ref tb), (.ref ra)])) (s₁.setTop (entryFrame m #[(.ref ra), (.ref rb), .null] 5)) := fun t k => pre6 t (by
    show Steps _ _ _ (T5.setTop (mkF m 47 #[rv ra, rv rb, .val .null, rv tb, iv cb] [])) _
    refine XS.aloadN X5.here hx rfl (hb hby d25_47) rfl rfl ?_
    refine st7 _ ?_
    show Steps _ _ _ (T7.setTop (mkF m 51 #[rv ra, rv rb, .val .null, rv tb, iv cb] [(.int 0)])) _
    refine XS.ifYes X7.here hx rfl (pc0 := 51) (pc' := 79) rfl (hb hby d25_51) rfl ((if0 _ _).trans (teq (by decide : ((0 : Int32) = (0 : Int32)))).1) (by decide) (by decide) ?_
    refine XS.aloadN X7.here hx rfl (hb hby d25_79) rfl rfl ?_
    refine XT.iconstV X7.here hx rfl (1 : Int32) (hb hby d25_80) (by decide) ?_
    refine st8 _ ?_
    refine XS.aloadN X8.here hx rfl (hb hby d25_84) rfl rfl ?_
    refine XS.aloadN X8.here hx rfl (hb hby d25_85) rfl rfl ?_
    refine XT.iconstV X8.here hx rfl (0 : Int32) (hb hby d25_86) (by decide) ?_
    refine XS.iload X8.here hx rfl (hb hby d25_87) rfl ?_
    refine XT.iconstV X8.here hx rfl (1 : Int32) (hb hby d25_89) (by decide) ?_
    refine XS.ishl X8.here hx rfl (hb hby d25_90) rfl ?_
    show Steps _ _ _ (T8.setTop (mkF m 91 #[rv ra, rv rb, .val .null, rv tb, iv cb] [(.int (cb <<< ((1 : Int32) &&& 31))), (.int 0), (.ref tb), (.ref ra)])) _
    refine castTop (g' := (mkF m 91 #[rv ra, rv rb, .val .null, rv tb, iv cb] [(.int kz), (.int 0), (.ref tb), (.ref ra)])) (by rw [hkz]) ?_
    exact k)
  obtain ⟨_, _, ⟨T10, L10, k10, n10⟩, -, X10, ⟨Lc10, hQ10, l10, y10, z10⟩, st10⟩ := Jvm.LawKit.callS X8 hx (y := mN39) hown (mw hZ hw 160 rfl) (mw hZ hw 161 rfl) (mw hZ hw 124 rfl) (mw hZ hw 162 rfl) (by decide) (backOf (W := 1) (rm_cor l Z a0 hw [] tb kz h8 n0 (own_old0 Y8) Y8 zc fm S kb Nb vb V8_tb kn hr hvk ) hZ (ww hw 162 rfl) (ww hw 124 rfl) (by decide) (by decide)) (g := (mkF m 91 #[rv ra, rv rb, .val .null, rv tb, iv cb] [(.int kz), (.int 0), (.ref tb), (.ref ra)])) rfl (by rw [hml]; rfl) (argsL := [(.ref tb), (.int 0), (.int kz)]) (rest := [(.ref ra)]) (lenOf pd_23 rfl) rfl own_z (hb hby d25_91) (fun _ _ => ⟨rfl, e8, (by decide : 0 + 1 ≤ _), (by decide : 0 + 50 ≤ _)⟩)
  dsimp only [Pt.U, Pt.locs, Pt.cells, Pt.slots] at X10 l10 y10 z10 st10 hQ10
  rw [y10, z10] at X10
  obtain ⟨u10, ku10, rfl, N10q, E10, zz10, V10⟩ := hQ10
  have N10 := own_fr l10 N8 N10q
  have ne_ra_u10 : ra ≠ u10 := Nat.ne_of_lt (Nat.lt_of_lt_of_le E8_ra.lt zz10)
  have z_u10 : h0.size ≤ u10 := Nat.le_trans sz8 zz10
  have E10_ra := E8_ra.ext E10
  have F10_ra_value := F8_ra_value.ext E10
  have F10_ra_coder := F8_ra_coder.ext E10
  have K10 : Keep h0 T10.heap [ra] := K8.ext E10
  obtain ⟨T11, h11, X11, e11, W11, st11⟩ := putF X10 hx hZ hown (host := "") (Or.inl (ww hw 29 rfl)) Via.refl rfl F10_ra_value E10_ra (Or.inr ⟨(ww hw 30 rfl), rfl, hnm⟩) (ww hw 3 rfl) (ty := (.array .byte)) (by decide) rfl rfl (g := (mkF m 94 #[rv ra, rv rb, .val .null, rv tb, iv cb] [(.ref u10), (.ref ra)])) rfl rfl (hb hby d25_94)
  have E11_ra := E10_ra.wr W11
  have V11_u10 := V10.other W11 (Ne.symm ne_ra_u10)
  have F11_ra_value := F10_ra_value.same W11
  have F11_ra_coder := F10_ra_coder.other W11 (Or.inr (slot_ne (Or.inr (ww hw 28 rfl)) (Or.inr (ww hw 30 rfl)) (by decide) (t := .byte) (t' := (.array .byte)) (by decide) (by decide)))
  have K11 : Keep h0 h11 [ra] := K10.wr W11 (Or.inl (List.mem_of_getElem? (i := 0) rfl))
  have N11 := Fr.snoc X11 N10 ga
  have pre12 : Pr p e below (T11.setTop (mkF m 97 #[rv ra, rv rb, .val .null, rv tb, iv cb] [])) (s₁.setTop (entryFrame m #[(.ref ra), (.ref rb), .null] 5)) := fun t k => pre9 t (by
    show Steps _ _ _ (T8.setTop (mkF m 91 #[rv ra, rv rb, .val .null, rv tb, iv cb] [(.int kz), (.int 0), (.ref tb), (.ref ra)])) _
    refine st10 _ ?_
    refine st11 _ ?_
    exact k)
  obtain ⟨fs, hr, hrun, hended, hW, hsame⟩ := X11.leave (v := none) (fun _ => rfl)
  refine ⟨_, _, pre12 _ ?_, hrun, hended, _, _, rfl, ?_, ⟨_, rfl⟩, hW, hsame.mono (by decide) (by decide)⟩
  · show Steps _ _ _ (T11.setTop (mkF m 97 #[rv ra, rv rb, .val .null, rv tb, iv cb] [])) _
    exact X11.returnOut hx Bd.returns (hb hby d25_97) hr
  · show (Qs Z ra kz (vb.take kn) (1 : Int32)) h0 n0 _ T11.heap _
    rw [e11]
    exact ⟨_, _, rfl, N11, K11, z_u10, ⟨E11_ra, F11_ra_coder, F11_ra_value, V11_u10⟩⟩
theorem rm_ssW (l : Launch) (Z : State) (a0 : Array Value) (hw : ∀ d ∈ tables_1, d.before a0 Z = true) (ws : List Jvm.Cond) (ra : Addr) (rb : Addr) (h0 : Heap) (n0 : Nat) (Z0 : n0 ≤ h0.size) (Y0 : Old Z n0 h0) (zc : Int32) (fm : Value) (S : Sts Z Z.heap zc fm) (Ea : Exa Z h0 ra "java/lang/String") (Fv : Fld Z h0 ra "java/lang/String" "value" "[B" .null) (Fc : Fld Z h0 ra "java/lang/String" "coder" "B" (.int 0)) (ga : n0 ≤ ra) (Nb cb kz : Int32) (tb : Addr) (kb : ClassId) (vb : List Value) (Bb : SB Z h0 rb tb kb Nb vb (1 : Int32) cb) (gr : n0 ≤ rb) (gt : n0 ≤ tb) (kn : Nat) (hr : CR kz Nb kn) (hvk : kn ≤ vb.length) (hkz : (cb <<< ((1 : Int32) &&& 31)) = kz)  :
    MFa l mN41 jdk_42_method_53_code 2 none ws (Room.mk 4 1 50 65) Z h0 n0 #[(.ref ra), (.ref rb)] (Qs Z ra kz (vb.take kn) (1 : Int32)) := by
  refine MetFree.of_bodySF (plainFor_of_name pn_13) hisR ?_
  intro p e s m args below meth c s₁ Bd hml0 hP hK
  obtain ⟨rfl, hZ, hh⟩ := hP
  have hx := Bd.exec
  have hby := Bd.bytes
  have hml : c.maxLocals = 2 := hml0
  have hown : s.vm.findClass "java/lang/String" = some m.cls := findClass_of_methodNamed Bd.named
  have X0 : Stand p l e (Room.mk 4 1 50 65) s m #[(.ref ra), (.ref rb)] below meth c s₁ [] 0 0 := Stand.of_body Bd
  have e0 : s₁.heap = h0 := by rw [← hh, Bd.state]; rfl
  have N0 := Fr.nil n0
  have pre0 : Pr p e below (s₁.setTop (mkF m 0 #[rv ra, rv rb] [])) (s₁.setTop (entryFrame m #[(.ref ra), (.ref rb)] 2)) := fun t k => castTop (by first | (simp [entryFrame, mkF, argsToLocals, Value.category]; done) | rfl) k
  obtain ⟨_, _, ⟨T1, L1, k1, n1⟩, -, X1, ⟨Lc1, hQ1, l1, y1, z1⟩, st1⟩ := X0.specialBack hx (y := mN40) rfl hown (mw hZ hw 139 rfl) (mw hZ hw 140 rfl) (mw hZ hw 141 rfl) (by decide) (backOf (W := 0) (rm_sjW l Z a0 hw [] ra rb h0 n0 (own_old0 Y0) Y0 zc fm S Ea Fv Fc ga Nb cb kz tb kb vb Bb gr gt kn hr hvk hkz) hZ (ww hw 141 rfl) (ww hw 4 rfl) (by decide) (by decide)) (g := (mkF m 3 #[rv ra, rv rb] [.null, (.ref rb), (.ref ra)])) rfl (by rw [hml]; rfl) (Steps.refl _) (a := ra) (argsL := [(.ref rb), .null]) (rest := []) (lenOf pd_25 rfl) rfl own_z (hb hby d24_3) (fun _ _ => ⟨rfl, e0, (by decide : 0 + 1 ≤ _), (by decide : 0 + 50 ≤ _)⟩)
  dsimp only [Pt.U, Pt.locs, Pt.cells, Pt.slots] at X1 l1 y1 z1 st1 hQ1
  rw [y1, z1] at X1
  obtain ⟨u1, ku1, rfl, N1q, Kc1, zz1, Tc1⟩ := hQ1
  have N1 := own_fr l1 N0 N1q
  have K1k : Keep h0 T1.heap [ra] := Keep.trans (Keep.refl h0 [ra]) Kc1 (allS (Or.inl (List.mem_of_getElem? (i := 0) rfl)) all0)
  have z_u1 : h0.size ≤ u1 := Nat.le_trans (Nat.le_refl h0.size) zz1
  have pre2 : Pr p e below (T1.setTop (mkF m 6 #[rv ra, rv rb] [])) (s₁.setTop (entryFrame m #[(.ref ra), (.ref rb)] 2)) := fun t k => pre0 t (by
    show Steps _ _ _ (s₁.setTop (mkF m 0 #[rv ra, rv rb] [])) _
    refine XS.aloadN X0.here hx rfl (hb hby d24_0) rfl rfl ?_
    refine XS.aloadN X0.here hx rfl (hb hby d24_1) rfl rfl ?_
    refine XS.aconstNull X0.here hx rfl (hb hby d24_2) ?_
    refine st1.trans ?_
    exact k)
  obtain ⟨fs, hr, hrun, hended, hW, hsame⟩ := X1.leave (v := none) (fun _ => rfl)
  refine ⟨_, _, pre2 _ ?_, hrun, hended, _, _, rfl, ?_, ⟨_, rfl⟩, hW, hsame.mono (by decide) (by decide)⟩
  · show Steps _ _ _ (T1.setTop (mkF m 6 #[rv ra, rv rb] [])) _
    exact X1.returnOut hx Bd.returns (hb hby d24_6) hr
  · show (Qs Z ra kz (vb.take kn) (1 : Int32)) h0 n0 _ T1.heap _
    exact ⟨_, _, rfl, N1, K1k, z_u1, ⟨Tc1.1, Tc1.2.1, Tc1.2.2.1, Tc1.2.2.2⟩⟩
theorem rm_tsW (l : Launch) (Z : State) (a0 : Array Value) (hw : ∀ d ∈ tables_1, d.before a0 Z = true) (ws : List Jvm.Cond) (rb : Addr) (h0 : Heap) (n0 : Nat) (Z0 : n0 ≤ h0.size) (Y0 : Old Z n0 h0) (zc : Int32) (fm : Value) (S : Sts Z Z.heap zc fm) (Nb cb kz : Int32) (tb : Addr) (kb : ClassId) (vb : List Value) (Bb : SB Z h0 rb tb kb Nb vb (1 : Int32) cb) (gr : n0 ≤ rb) (gt : n0 ≤ tb) (kn : Nat) (hr : CR kz Nb kn) (hvk : kn ≤ vb.length) (hkz : (cb <<< ((1 : Int32) &&& 31)) = kz)  :
    MFa l mN42 jdk_67_method_42_code 1 (some (.object "java/lang/String")) ws (Room.mk 5 2 54 79) Z h0 n0 #[(.ref rb)] (Qm Z kz (vb.take kn) (1 : Int32)) := by
  refine MetFree.of_bodySF (plainFor_of_name pn_27) hisR ?_
  intro p e s m args below meth c s₁ Bd hml0 hP hK
  obtain ⟨rfl, hZ, hh⟩ := hP
  have hx := Bd.exec
  have hby := Bd.bytes
  have hml : c.maxLocals = 1 := hml0
  have hown : s.vm.findClass "java/lang/StringBuilder" = some m.cls := findClass_of_methodNamed Bd.named
  have X0 : Stand p l e (Room.mk 5 2 54 79) s m #[(.ref rb)] below meth c s₁ [] 0 0 := Stand.of_body Bd
  have e0 : s₁.heap = h0 := by rw [← hh, Bd.state]; rfl
  have N0 := Fr.nil n0
  have pre0 : Pr p e below (s₁.setTop (mkF m 0 #[rv rb] [])) (s₁.setTop (entryFrame m #[(.ref rb)] 1)) := fun t k => castTop (by first | (simp [entryFrame, mkF, argsToLocals, Value.category]; done) | rfl) k
  obtain ⟨T1, h1, X1, e1, E1, A1, D1, -, st1⟩ := newO X0 hx hZ hown (ww hw 135 rfl) (ww hw 3 rfl) (ww hw 4 rfl) e0 (g := (mkF m 0 #[rv rb] [])) rfl (hb hby d23_0) (by decide) (by decide)
  obtain ⟨b1, g1⟩ : ∃ z, z = h0.size := ⟨_, rfl⟩
  rw [← g1] at A1 D1 st1
  have z_b1 : h0.size ≤ b1 := Nat.le_trans (Nat.le_refl h0.size) (Nat.le_of_eq g1.symm)
  have g_b1 : n0 ≤ b1 := Nat.le_trans Z0 z_b1
  have E1_rb := Bb.1.ext E1
  have V1_tb := Bb.2.2.2.2.2.1.ext E1
  have F1_rb_value := Bb.2.1.ext E1
  have F1_rb_coder := Bb.2.2.1.ext E1
  have F1_rb_count := Bb.2.2.2.1.ext E1
  have F1_rb_maybeLatin1 := Bb.2.2.2.2.1.ext E1
  have Y1 := Old.ext Y0 E1
  have sz1 : h0.size ≤ h1.size := Nat.le_trans (Nat.le_refl h0.size) E1.1
  have K1 : Keep h0 h1 [] := (Keep.refl h0 []).ext E1
  have F1_b1_coder : Fld Z h1 b1 "java/lang/String" "coder" "B" (.int 0) := D1 (Or.inr (ww hw 28 rfl)) (ty := .byte) (by decide)
  have F1_b1_value : Fld Z h1 b1 "java/lang/String" "value" "[B" .null := D1 (Or.inr (ww hw 30 rfl)) (ty := (.array .byte)) (by decide)
  obtain ⟨_, _, ⟨T2, L2, k2, n2⟩, -, X2, ⟨Lc2, hQ2, l2, y2, z2⟩, st2⟩ := X1.specialBack hx (y := mN41) rfl hown (mw hZ hw 136 rfl) (mw hZ hw 137 rfl) (mw hZ hw 138 rfl) (by decide) (backOf (W := 1) (rm_ssW l Z a0 hw [] b1 rb h1 n0 (own_old0 Y1) Y1 zc fm S A1 F1_b1_value F1_b1_coder g_b1 Nb cb kz tb kb vb ⟨E1_rb, F1_rb_value, F1_rb_coder, F1_rb_count, F1_rb_maybeLatin1, V1_tb, Bb.2.2.2.2.2.2⟩ gr gt kn hr hvk hkz) hZ (ww hw 138 rfl) (ww hw 4 rfl) (by decide) (by decide)) (g := (mkF m 5 #[rv rb] [(.ref rb), (.ref b1), (.ref b1)])) rfl (by rw [hml]; rfl) (Steps.refl _) (a := b1) (argsL := [(.ref rb)]) (rest := [(.ref b1)]) (lenOf pd_26 rfl) rfl own_z (hb hby d23_5) (fun _ _ => ⟨rfl, e1, (by decide : 1 + 1 ≤ _), (by decide : 4 + 50 ≤ _)⟩)
  dsimp only [Pt.U, Pt.locs, Pt.cells, Pt.slots] at X2 l2 y2 z2 st2 hQ2
  rw [y2, z2] at X2
  obtain ⟨u2, ku2, rfl, N2q, Kc2, zz2, Tc2⟩ := hQ2
  have N2 := own_fr l2 N0 N2q
  have K2k : Keep h0 T2.heap [] := Keep.trans K1 Kc2 (allS (Or.inr z_b1) all0)
  have z_u2 : h0.size ≤ u2 := Nat.le_trans sz1 zz2
  have pre3 : Pr p e below (T2.setTop (mkF m 8 #[rv rb] [(.ref b1)])) (s₁.setTop (entryFrame m #[(.ref rb)] 1)) := fun t k => pre0 t (by
    show Steps _ _ _ (s₁.setTop (mkF m 0 #[rv rb] [])) _
    refine st1 _ ?_
    refine XS.dup X1.here hx rfl (hb hby d23_3) rfl rfl ?_
    refine XS.aloadN X1.here hx rfl (hb hby d23_4) rfl rfl ?_
    refine st2.trans ?_
    exact k)
  obtain ⟨fs, hr, hrun, hended, hW, hsame⟩ := X2.leave (v := some (.ref b1)) (fun h => by rw [Bd.returns] at h; cases h)
  refine ⟨_, _, pre3 _ ?_, hrun, hended, _, _, rfl, ?_, ⟨_, rfl⟩, hW, hsame.mono (by decide) (by decide)⟩
  · show Steps _ _ _ (T2.setTop (mkF m 8 #[rv rb] [(.ref b1)])) _
    exact retOut X2 hx Bd.returns rfl (Or.inr (Or.inr (Or.inr (Or.inr ⟨rfl, rfl, rfl⟩)))) (hb hby d23_8) hr
  · show (Qm Z kz (vb.take kn) (1 : Int32)) h0 n0 _ T2.heap _
    exact ⟨_, _, _, rfl, N2, own_ext_of K2k, z_b1, z_u2, Tc2⟩
theorem own_ct {p : Program} {l : Launch} {e : Env} {s : State} {m : MethodId} {args : Array Value} {below : List Frame} {meth : Method} {c : Code} {T0 : State} {locs : List Loc} (Z : State) (a0 : Array Value) (hw : ∀ d ∈ tables_1, d.before a0 Z = true) (ca da : Addr) (pa qa la ja pb qb jb Nc Nd : Int32) (kc kd : ClassId) (vc vd : List Value) (s6 : Slot) (hs6 : s6 = .unset ∨ ∃ w, s6 = .val w ∧ w.category = 1)  (h0 : Heap) (n0 : Nat) (Z0 : n0 ≤ h0.size) (Y0 : Old Z n0 h0) (zc : Int32) (fm : Value) (S : Sts Z Z.heap zc fm) 
    (X0 : Stand p l e (Room.mk 0 0 0 0) s m args below meth c T0 locs 0 0) (hx : p.tables.exec = Jvm.exec) (hby : c.code = jdk_52_method_21_code) (hml : c.maxLocals = 7) (hZ : Z.Warmed39 s.vm) (hown : s.vm.findClass "java/lang/StringUTF16" = some m.cls) (e0 : T0.heap = h0) (N0 : Fr n0 locs) (Ac : Arv Z h0 ca kc .char Nc vc (Value.int 0)) (Ad : Arv Z h0 da kd .byte Nd vd (Value.int 0)) (gd : n0 ≤ da) (hp : (pa + (1 : Int32)) = pb) (hq : (qa + (1 : Int32)) = qb) (hj : (ja + (1 : Int32)) = jb) (hlt : ja < la) (cc : Int32) (hg0 : ¬ pa < 0 ∧ pa < Nc) (hg1 : vc.getD pa.toNatClampNeg (Value.int 0) = .int cc) (hle : ¬ (255 : Int32) < cc) (ncd : ca ≠ da) (hb1 : ¬ qa < 0 ∧ qa < Nd) (jn : Nat) (ej : qa.toNatClampNeg = jn) (hjl : jn < vd.length)  :
    ∃ (T' : State) (h' : Heap) (L' : List Loc), Stand p l e (Room.mk 0 0 0 0) s m args below meth c T' L' 0 0 ∧ T'.heap = h' ∧ Fr n0 L' ∧ Keep h0 h' [da] ∧ Arv Z h' da kd .byte Nd (vd.set jn (.int (StrChars.lo8 cc))) (Value.int 0) ∧ ∀ t, Steps p.tables e below (T'.setTop (mkF m 3 #[rv ca, iv pb, rv da, iv qb, iv la, iv jb, iv cc] [])) t → Steps p.tables e below (T0.setTop (mkF m 3 #[rv ca, iv pa, rv da, iv qa, iv la, iv ja, s6] [])) t := by
  have pre0 : Pr p e below (T0.setTop (mkF m 3 #[rv ca, iv pa, rv da, iv qa, iv la, iv ja, s6] [])) (T0.setTop (mkF m 3 #[rv ca, iv pa, rv da, iv qa, iv la, iv ja, s6] [])) := fun _ k => k
  obtain ⟨cl1, Ar1, q1, S1, n1', H1, G1⟩ := id Ac
  have hin1 : ¬ (pa < 0 ∨ cl1.slots.size ≤ (pa).toNatClampNeg) := inb_of S1 hg0
  have hat1 : cl1.slots[(pa).toNatClampNeg]? = some (.int cc) := Has.at H1 hin1 hg1
  obtain ⟨cl2, Ar2, q2, S2, n2', H2, G2⟩ := id Ad
  have hin2 : ¬ (qa < 0 ∨ cl2.slots.size ≤ (qa).toNatClampNeg) := inb_of S2 hb1
  obtain ⟨T2, h2, X2, e2, W2, st2⟩ := stB X0 hx hZ e0 Ar2 (j := qa) hin2 (g := (mkF m 31 #[rv ca, iv pa, rv da, iv qa, iv la, iv ja, iv cc] [(.int (cc.toInt8.toInt32)), (.int qa), (.ref da)])) rfl rfl (hb hby d5_31)
  rw [own_nb8 cc] at W2
  have V2 : Arv Z h2 da kd .byte Nd (vd.set jn (.int (StrChars.lo8 cc))) (Value.int 0) := Arv.set Ar2 q2 S2 n2' H2 G2 (StrChars.fits_lo8 cc) W2 jn ej hjl
  have K2 : Keep h0 h2 [da] := (Keep.refl h0 [da]).wr W2 (Or.inl (List.mem_of_getElem? (i := 0) rfl))
  have N2 := Fr.snoc X2 N0 gd
  have pre3 : Pr p e below (T2.setTop (mkF m 3 #[rv ca, iv pb, rv da, iv qb, iv la, iv jb, iv cc] [])) (T0.setTop (mkF m 3 #[rv ca, iv pa, rv da, iv qa, iv la, iv ja, s6] [])) := fun t k => pre0 t (by
    show Steps _ _ _ (T0.setTop (mkF m 3 #[rv ca, iv pa, rv da, iv qa, iv la, iv ja, s6] [])) _
    refine XS.iload X0.here hx rfl (hb hby d5_3) rfl ?_
    refine XS.iload X0.here hx rfl (hb hby d5_5) rfl ?_
    show Steps _ _ _ (T0.setTop (mkF m 7 #[rv ca, iv pa, rv da, iv qa, iv la, iv ja, s6] [(.int la), (.int ja)])) _
    refine XS.icmpNo X0.here hx rfl (hb hby d5_7) rfl (tlt hlt).2.1 ?_
    refine XS.aloadN X0.here hx rfl (hb hby d5_10) rfl rfl ?_
    refine XS.iloadN X0.here hx rfl (hb hby d5_11) rfl ?_
    refine X0.caload hx (j := pa) (v := (.int cc)) (by rw [e0]; exact Ar1.1) (State.isArrayOf_alike hZ.alike Ar1.2.1) Ar1.2.2 hin1 hat1 (g := (mkF m 12 #[rv ca, iv pa, rv da, iv qa, iv la, iv ja, s6] [(.int pa), (.ref ca)])) rfl rfl (hb hby d5_12) _ ?_
    refine XS.istoreS X0.here hx rfl (hb hby d5_13) rfl rfl hs6 ?_
    refine XS.iload X0.here hx rfl (hb hby d5_15) rfl ?_
    refine XT.sipushV X0.here hx rfl (255 : Int32) (hb hby d5_17) (by decide) ?_
    show Steps _ _ _ (T0.setTop (mkF m 20 #[rv ca, iv pa, rv da, iv qa, iv la, iv ja, iv cc] [(.int 255), (.int cc)])) _
    refine XS.icmpYes X0.here hx rfl (pc0 := 20) (pc' := 26) rfl (hb hby d5_20) rfl (flt hle).2.2.2 (by decide) (by decide) ?_
    refine XS.aloadN X0.here hx rfl (hb hby d5_26) rfl rfl ?_
    refine XS.iloadN X0.here hx rfl (hb hby d5_27) rfl ?_
    refine XS.iload X0.here hx rfl (hb hby d5_28) rfl ?_
    refine XS.i2b X0.here hx rfl (hb hby d5_30) rfl ?_
    refine st2 _ ?_
    refine XS.iinc X2.here hx rfl (hb hby d5_32) rfl (l' := #[rv ca, .val (.int (pa + (1 : Int32))), rv da, iv qa, iv la, iv ja, iv cc]) rfl ?_
    show Steps _ _ _ (T2.setTop (mkF m 35 #[rv ca, .val (.int (pa + (1 : Int32))), rv da, iv qa, iv la, iv ja, iv cc] [])) _
    refine castTop (g' := (mkF m 35 #[rv ca, iv pb, rv da, iv qa, iv la, iv ja, iv cc] [])) (by rw [hp]) ?_
    refine XS.iinc X2.here hx rfl (hb hby d5_35) rfl (l' := #[rv ca, iv pb, rv da, .val (.int (qa + (1 : Int32))), iv la, iv ja, iv cc]) rfl ?_
    show Steps _ _ _ (T2.setTop (mkF m 38 #[rv ca, iv pb, rv da, .val (.int (qa + (1 : Int32))), iv la, iv ja, iv cc] [])) _
    refine castTop (g' := (mkF m 38 #[rv ca, iv pb, rv da, iv qb, iv la, iv ja, iv cc] [])) (by rw [hq]) ?_
    refine XS.iinc X2.here hx rfl (hb hby d5_38) rfl (l' := #[rv ca, iv pb, rv da, iv qb, iv la, .val (.int (ja + (1 : Int32))), iv cc]) rfl ?_
    show Steps _ _ _ (T2.setTop (mkF m 41 #[rv ca, iv pb, rv da, iv qb, iv la, .val (.int (ja + (1 : Int32))), iv cc] [])) _
    refine castTop (g' := (mkF m 41 #[rv ca, iv pb, rv da, iv qb, iv la, iv jb, iv cc] [])) (by rw [hj]) ?_
    refine XS.goto X2.here hx rfl (pc0 := 41) (pc' := 3) rfl (hb hby d5_41) (by decide) (by decide) ?_
    exact k)
  exact ⟨_, _, _, X2, e2, N2, K2, V2, pre3⟩
theorem own_cll {p : Program} {l : Launch} {e : Env} {s : State} {m : MethodId} {args : Array Value} {below : List Frame} {meth : Method} {c : Code} (Z : State) (a0 : Array Value) (hw : ∀ d ∈ tables_1, d.before a0 Z = true) (ca da : Addr) (Nc Nd : Int32) (kc kd : ClassId) (vc : List Value) (xs : List Int32) (n0 nn : Nat) (zc : Int32) (fm : Value) (S : Sts Z Z.heap zc fm)
    (hx : p.tables.exec = Jvm.exec) (hby : c.code = jdk_52_method_21_code) (hml : c.maxLocals = 7) (hZ : Z.Warmed39 s.vm) (hown : s.vm.findClass "java/lang/StringUTF16" = some m.cls) (gd : n0 ≤ da) (ncd : ca ≠ da) (hN : nn ≤ 15) (hNc : Nc = Int32.ofNat nn) (hNd : Nd = Int32.ofNat nn) (hvc : ∀ i, i < nn → vc.getD i (.int 0) = .int (xs.getD i 0)) (j : Nat) (hjn : j < nn) (hall : ∀ i, i < j → ¬ (255 : Int32) < xs.getD i 0) :
    ∀ (r k : Nat) (vd : List Value) (T0 : State) (h0 : Heap) (locs : List Loc) (s6 : Slot), k + r = j → vd.length = nn → Old Z n0 h0 → Stand p l e (Room.mk 0 0 0 0) s m args below meth c T0 locs 0 0 → T0.heap = h0 → Fr n0 locs → Arv Z h0 ca kc .char Nc vc (.int 0) → Arv Z h0 da kd .byte Nd vd (.int 0) → (s6 = .unset ∨ ∃ w, s6 = .val w ∧ w.category = 1) →
      ∃ (T' : State) (h' : Heap) (L' : List Loc) (vd' : List Value) (s6' : Slot), Stand p l e (Room.mk 0 0 0 0) s m args below meth c T' L' 0 0 ∧ T'.heap = h' ∧ Fr n0 L' ∧ Keep h0 h' [da] ∧ Arv Z h' ca kc .char Nc vc (.int 0) ∧ (s6' = .unset ∨ ∃ w, s6' = .val w ∧ w.category = 1) ∧
        ∀ t, Steps p.tables e below (T'.setTop (mkF m 3 #[rv ca, iv (Int32.ofNat j), rv da, iv (Int32.ofNat j), iv (Int32.ofNat nn), iv (Int32.ofNat j), s6'] [])) t → Steps p.tables e below (T0.setTop (mkF m 3 #[rv ca, iv (Int32.ofNat k), rv da, iv (Int32.ofNat k), iv (Int32.ofNat nn), iv (Int32.ofNat k), s6] [])) t := by
  intro r
  induction r with
  | zero =>
    intro k vd T0 h0 locs s6 hk hvd Y X e0 N Ac Ad hs
    obtain rfl : k = j := by omega
    exact ⟨T0, h0, locs, vd, s6, X, e0, N, Keep.refl _ _, Ac, hs, fun t k => k⟩
  | succ r ih =>
    intro k vd T0 h0 locs s6 hk hvd Y X e0 N Ac Ad hs
    obtain ⟨T1, h1, L1, X1, e1, N1, K1, A1, st1⟩ := own_ct (l := l) Z a0 hw ca da (Int32.ofNat k) (Int32.ofNat k) (Int32.ofNat nn) (Int32.ofNat k) (Int32.ofNat (k + 1)) (Int32.ofNat (k + 1)) (Int32.ofNat (k + 1)) Nc Nd kc kd vc vd s6 hs h0 n0 (own_old0 Y) Y zc fm S X hx hby hml hZ hown e0 N Ac Ad gd (own_oa (by omega)) (own_oa (by omega)) (own_oa (by omega)) (own_ol (by omega) (by omega)) (xs.getD k 0) ⟨own_o0 (by omega), by rw [hNc]; exact own_ol (by omega) (by omega)⟩ (by rw [own_on (by omega)]; exact hvc k (by omega)) (hall k (by omega)) ncd ⟨own_o0 (by omega), by rw [hNd]; exact own_ol (by omega) (by omega)⟩ k (own_on (by omega)) (by omega)
    obtain ⟨T2, h2, L2, vd2, s2, X2, e2, N2, K2, A2, hs2, st2⟩ := ih (k + 1) _ T1 h1 L1 (iv (xs.getD k 0)) (by omega) (by simp [hvd]) (Old.keep Y K1 (allS gd all0)) X1 e1 N1 (Ac.keep K1 (ninS ncd nin0)) A1 (Or.inr ⟨_, rfl, rfl⟩)
    exact ⟨T2, h2, L2, vd2, s2, X2, e2, N2, Keep.trans K1 K2 (allS (Or.inl (List.mem_of_getElem? (i := 0) rfl)) all0), A2, hs2, fun t k => st1 t (st2 t k)⟩
theorem rm_cl (l : Launch) (Z : State) (a0 : Array Value) (hw : ∀ d ∈ tables_1, d.before a0 Z = true) (ws : List Jvm.Cond) (ca : Addr) (da : Addr) (la : Int32) (h0 : Heap) (n0 : Nat) (Z0 : n0 ≤ h0.size) (Y0 : Old Z n0 h0) (zc : Int32) (fm : Value) (S : Sts Z Z.heap zc fm) (xs : List Int32) (nn j : Nat) (hN : nn ≤ 15) (hla : Int32.ofNat nn = la) (kc : ClassId) (vc : List Value) (Ac : Arv Z h0 ca kc .char la vc (Value.int 0)) (kd : ClassId) (vd : List Value) (Ad : Arv Z h0 da kd .byte la vd (Value.int 0)) (gd : n0 ≤ da) (ncd : ca ≠ da) (hvd : vd.length = nn) (hvc : ∀ i, i < nn → vc.getD i (Value.int 0) = .int (xs.getD i 0)) (hjn : j < nn) (hall : ∀ i, i < j → ¬ (255 : Int32) < xs.getD i 0) (hgt : (255 : Int32) < xs.getD j 0)  :
    MFa l mN43 jdk_52_method_21_code 7 (some .int) ws (Room.mk 0 0 0 0) Z h0 n0 #[(.ref ca), (.int 0), (.ref da), (.int 0), (.int la)] (Qc da j) := by
  refine MetFree.of_bodySF (plainFor_of_name pn_55) hisR ?_
  intro p e s m args below meth c s₁ Bd hml0 hP hK
  obtain ⟨rfl, hZ, hh⟩ := hP
  have hx := Bd.exec
  have hby := Bd.bytes
  have hml : c.maxLocals = 7 := hml0
  have hown : s.vm.findClass "java/lang/StringUTF16" = some m.cls := findClass_of_methodNamed Bd.named
  have X0 : Stand p l e (Room.mk 0 0 0 0) s m #[(.ref ca), (.int 0), (.ref da), (.int 0), (.int la)] below meth c s₁ [] 0 0 := Stand.of_body Bd
  have e0 : s₁.heap = h0 := by rw [← hh, Bd.state]; rfl
  have N0 := Fr.nil n0
  have pre0 : Pr p e below (s₁.setTop (mkF m 0 #[rv ca, iv 0, rv da, iv 0, iv la, .unset, .unset] [])) (s₁.setTop (entryFrame m #[(.ref ca), (.int 0), (.ref da), (.int 0), (.int la)] 7)) := fun t k => castTop (by first | (simp [entryFrame, mkF, argsToLocals, Value.category]; done) | rfl) k
  have pre1 : Pr p e below (s₁.setTop (mkF m 3 #[rv ca, iv 0, rv da, iv 0, iv la, iv 0, .unset] [])) (s₁.setTop (entryFrame m #[(.ref ca), (.int 0), (.ref da), (.int 0), (.int la)] 7)) := fun t k => pre0 t (by
    show Steps _ _ _ (s₁.setTop (mkF m 0 #[rv ca, iv 0, rv da, iv 0, iv la, .unset, .unset] [])) _
    refine XT.iconstV X0.here hx rfl (0 : Int32) (hb hby d5_0) (by decide) ?_
    refine XS.istore X0.here hx rfl (hb hby d5_1) rfl (l' := #[rv ca, iv 0, rv da, iv 0, iv la, iv 0, .unset]) rfl ?_
    exact k)
  obtain ⟨T2, h2, L2, vq2, s62, X2, e2, N2, Kc2, V2c, hs62, st2⟩ := own_cll (l := l) Z a0 hw ca da la la kc kd vc xs n0 nn zc fm S hx hby hml hZ hown gd ncd hN hla.symm hla.symm hvc j hjn hall j 0 vd s₁ h0 _ _ (Nat.zero_add _) hvd Y0 X0 e0 N0 Ac Ad (Or.inl rfl)
  have pre2l : Pr p e below (T2.setTop (mkF m 3 #[rv ca, .val (.int (Int32.ofNat j)), rv da, .val (.int (Int32.ofNat j)), iv la, .val (.int (Int32.ofNat j)), s62] [])) (s₁.setTop (entryFrame m #[(.ref ca), (.int 0), (.ref da), (.int 0), (.int la)] 7)) := fun t k => pre1 t (by
    have q := st2 t (by rw [hla]; exact k)
    rw [hla] at q
    exact q)
  have K2k : Keep h0 h2 [da] := Keep.trans (Keep.refl h0 [da]) Kc2 (allS (Or.inl (List.mem_of_getElem? (i := 0) rfl)) all0)
  obtain ⟨cl3, Ar3, q3, S3, n3', H3, G3⟩ := id V2c
  have hin3 : ¬ ((Int32.ofNat j) < 0 ∨ cl3.slots.size ≤ ((Int32.ofNat j)).toNatClampNeg) := inb_of S3 ⟨own_o0 (by omega), by rw [← hla]; exact own_ol hjn (by omega)⟩
  have hat3 : cl3.slots[((Int32.ofNat j)).toNatClampNeg]? = some (.int (xs.getD j 0)) := Has.at H3 hin3 (by rw [own_on (by omega)]; exact hvc j hjn)
  have pre4 : Pr p e below (T2.setTop (mkF m 25 #[rv ca, .val (.int (Int32.ofNat j)), rv da, .val (.int (Int32.ofNat j)), iv la, .val (.int (Int32.ofNat j)), .val (.int (xs.getD j 0))] [(.int (Int32.ofNat j))])) (s₁.setTop (entryFrame m #[(.ref ca), (.int 0), (.ref da), (.int 0), (.int la)] 7)) := fun t k => pre2l t (by
    show Steps _ _ _ (T2.setTop (mkF m 3 #[rv ca, .val (.int (Int32.ofNat j)), rv da, .val (.int (Int32.ofNat j)), iv la, .val (.int (Int32.ofNat j)), s62] [])) _
    refine XS.iload X2.here hx rfl (hb hby d5_3) rfl ?_
    refine XS.iload X2.here hx rfl (hb hby d5_5) rfl ?_
    show Steps _ _ _ (T2.setTop (mkF m 7 #[rv ca, .val (.int (Int32.ofNat j)), rv da, .val (.int (Int32.ofNat j)), iv la, .val (.int (Int32.ofNat j)), s62] [(.int la), (.int (Int32.ofNat j))])) _
    refine XS.icmpNo X2.here hx rfl (hb hby d5_7) rfl (tlt (by rw [← hla]; exact own_ol hjn (by omega))).2.1 ?_
    refine XS.aloadN X2.here hx rfl (hb hby d5_10) rfl rfl ?_
    refine XS.iloadN X2.here hx rfl (hb hby d5_11) rfl ?_
    refine X2.caload hx (j := (Int32.ofNat j)) (v := (.int (xs.getD j 0))) (by rw [e2]; exact Ar3.1) (State.isArrayOf_alike hZ.alike Ar3.2.1) Ar3.2.2 hin3 hat3 (g := (mkF m 12 #[rv ca, .val (.int (Int32.ofNat j)), rv da, .val (.int (Int32.ofNat j)), iv la, .val (.int (Int32.ofNat j)), s62] [(.int (Int32.ofNat j)), (.ref ca)])) rfl rfl (hb hby d5_12) _ ?_
    refine XS.istoreS X2.here hx rfl (hb hby d5_13) rfl rfl hs62 ?_
    refine XS.iload X2.here hx rfl (hb hby d5_15) rfl ?_
    refine XT.sipushV X2.here hx rfl (255 : Int32) (hb hby d5_17) (by decide) ?_
    show Steps _ _ _ (T2.setTop (mkF m 20 #[rv ca, .val (.int (Int32.ofNat j)), rv da, .val (.int (Int32.ofNat j)), iv la, .val (.int (Int32.ofNat j)), .val (.int (xs.getD j 0))] [(.int 255), (.int (xs.getD j 0))])) _
    refine XS.icmpNo X2.here hx rfl (hb hby d5_20) rfl (tlt hgt).2.2.2 ?_
    refine XS.iload X2.here hx rfl (hb hby d5_23) rfl ?_
    exact k)
  obtain ⟨fs, hr, hrun, hended, hW, hsame⟩ := X2.leave (v := some (.int (Int32.ofNat j))) (fun h => by rw [Bd.returns] at h; cases h)
  refine ⟨_, _, pre4 _ ?_, hrun, hended, _, _, rfl, ?_, ⟨_, rfl⟩, hW, hsame.mono (by decide) (by decide)⟩
  · show Steps _ _ _ (T2.setTop (mkF m 25 #[rv ca, .val (.int (Int32.ofNat j)), rv da, .val (.int (Int32.ofNat j)), iv la, .val (.int (Int32.ofNat j)), .val (.int (xs.getD j 0))] [(.int (Int32.ofNat j))])) _
    exact retOut X2 hx Bd.returns rfl (Or.inl ⟨rfl, by simp, _, rfl⟩) (hb hby d5_25) hr
  · show (Qc da j) h0 n0 _ T2.heap _
    rw [e2]
    exact ⟨rfl, N2, K2k⟩
theorem own_tt {p : Program} {l : Launch} {e : Env} {s : State} {m : MethodId} {args : Array Value} {below : List Frame} {meth : Method} {c : Code} {T0 : State} {locs : List Loc} (Z : State) (a0 : Array Value) (hw : ∀ d ∈ tables_1, d.before a0 Z = true) (ca da : Addr) (pa qa la pb qb Nc Nd : Int32) (kc kd : ClassId) (vc vd : List Value) (h0 : Heap) (n0 : Nat) (Z0 : n0 ≤ h0.size) (Y0 : Old Z n0 h0) (zc : Int32) (fm : Value) (S : Sts Z Z.heap zc fm) 
    (X0 : Stand p l e (Room.mk 2 1 32 28) s m args below meth c T0 locs 1 32) (hx : p.tables.exec = Jvm.exec) (hby : c.code = jdk_52_method_14_code) (hml : c.maxLocals = 5) (hZ : Z.Warmed39 s.vm) (hown : s.vm.findClass "java/lang/StringUTF16" = some m.cls) (e0 : T0.heap = h0) (N0 : Fr n0 locs) (Ac : Arv Z h0 ca kc .char Nc vc (Value.int 0)) (Ad : Arv Z h0 da kd .byte Nd vd (Value.int 0)) (gd : n0 ≤ da) (hp : (pa + (1 : Int32)) = pb) (hq : (qa + (1 : Int32)) = qb) (hlt : qa < la) (cc : Int32) (hg0 : ¬ pa < 0 ∧ pa < Nc) (hg1 : vc.getD pa.toNatClampNeg (Value.int 0) = .int cc) (ncd : ca ≠ da) (ib : Int32) (hib : (qa <<< ((1 : Int32) &&& 31)) = ib) (jn : Nat) (ej : ib.toNatClampNeg = jn) (ej2 : (ib + (1 : Int32)).toNatClampNeg = jn + 1) (hb1 : ¬ ib < 0 ∧ ib < Nd) (hb2 : ¬ (ib + (1 : Int32)) < 0 ∧ (ib + (1 : Int32)) < Nd) (hjl : jn + 1 < vd.length)  :
    ∃ (T' : State) (h' : Heap) (L' : List Loc), Stand p l e (Room.mk 2 1 32 28) s m args below meth c T' L' 1 32 ∧ T'.heap = h' ∧ Fr n0 L' ∧ Keep h0 h' [da] ∧ Arv Z h' da kd .byte Nd ((vd.set jn (.int (StrChars.lo8 cc))).set (jn + 1) (.int (StrChars.hi8 cc))) (Value.int 0) ∧ ∀ t, Steps p.tables e below (T'.setTop (mkF m 8 #[rv ca, iv pb, iv la, rv da, iv qb] [])) t → Steps p.tables e below (T0.setTop (mkF m 8 #[rv ca, iv pa, iv la, rv da, iv qa] [])) t := by
  have pre0 : Pr p e below (T0.setTop (mkF m 8 #[rv ca, iv pa, iv la, rv da, iv qa] [])) (T0.setTop (mkF m 8 #[rv ca, iv pa, iv la, rv da, iv qa] [])) := fun _ k => k
  obtain ⟨cl1, Ar1, q1, S1, n1', H1, G1⟩ := id Ac
  have hin1 : ¬ (pa < 0 ∨ cl1.slots.size ≤ (pa).toNatClampNeg) := inb_of S1 hg0
  have hat1 : cl1.slots[(pa).toNatClampNeg]? = some (.int cc) := Has.at H1 hin1 hg1
  obtain ⟨_, _, ⟨T2, L2, k2, n2⟩, -, X2, ⟨Lc2, hQ2, l2, y2, z2⟩, st2⟩ := Jvm.LawKit.callS X0 hx (y := mN14) hown (mw hZ hw 269 rfl) (mw hZ hw 270 rfl) (mw hZ hw 18 rfl) (mw hZ hw 271 rfl) (by decide) (backOf (W := 0) (rm_pc l Z a0 hw [] da qa cc h0 n0 (own_old0 Y0) Y0 zc fm S kd Nd vd Ad gd ib hib jn ej ej2 hb1 hb2 hjl) hZ (ww hw 271 rfl) (ww hw 18 rfl) (by decide) (by decide)) (g := (mkF m 20 #[rv ca, iv pa, iv la, rv da, iv qa] [(.int cc), (.int qa), (.ref da)])) rfl (by rw [hml]; rfl) (argsL := [(.ref da), (.int qa), (.int cc)]) (rest := []) (lenOf pd_13 rfl) rfl own_z (hb hby d46_20) (fun _ _ => ⟨rfl, e0, (by decide : 1 + 0 ≤ _), (by decide : 32 + 0 ≤ _)⟩)
  dsimp only [Pt.U, Pt.locs, Pt.cells, Pt.slots] at X2 l2 y2 z2 st2 hQ2
  rw [y2, z2] at X2
  obtain ⟨rfl, N2q, Kc2, Vc2⟩ := hQ2
  have N2 := own_fr l2 N0 N2q
  have K2k : Keep h0 T2.heap [da] := Keep.trans (Keep.refl h0 [da]) Kc2 (allS (Or.inl (List.mem_of_getElem? (i := 0) rfl)) all0)
  have pre3 : Pr p e below (T2.setTop (mkF m 8 #[rv ca, iv pb, iv la, rv da, iv qb] [])) (T0.setTop (mkF m 8 #[rv ca, iv pa, iv la, rv da, iv qa] [])) := fun t k => pre0 t (by
    show Steps _ _ _ (T0.setTop (mkF m 8 #[rv ca, iv pa, iv la, rv da, iv qa] [])) _
    refine XS.iload X0.here hx rfl (hb hby d46_8) rfl ?_
    refine XS.iloadN X0.here hx rfl (hb hby d46_10) rfl ?_
    show Steps _ _ _ (T0.setTop (mkF m 11 #[rv ca, iv pa, iv la, rv da, iv qa] [(.int la), (.int qa)])) _
    refine XS.icmpNo X0.here hx rfl (hb hby d46_11) rfl (tlt hlt).2.1 ?_
    refine XS.aloadN X0.here hx rfl (hb hby d46_14) rfl rfl ?_
    refine XS.iload X0.here hx rfl (hb hby d46_15) rfl ?_
    refine XS.aloadN X0.here hx rfl (hb hby d46_17) rfl rfl ?_
    refine XS.iloadN X0.here hx rfl (hb hby d46_18) rfl ?_
    refine X0.caload hx (j := pa) (v := (.int cc)) (by rw [e0]; exact Ar1.1) (State.isArrayOf_alike hZ.alike Ar1.2.1) Ar1.2.2 hin1 hat1 (g := (mkF m 19 #[rv ca, iv pa, iv la, rv da, iv qa] [(.int pa), (.ref ca), (.int qa), (.ref da)])) rfl rfl (hb hby d46_19) _ ?_
    refine st2 _ ?_
    refine XS.iinc X2.here hx rfl (hb hby d46_23) rfl (l' := #[rv ca, .val (.int (pa + (1 : Int32))), iv la, rv da, iv qa]) rfl ?_
    show Steps _ _ _ (T2.setTop (mkF m 26 #[rv ca, .val (.int (pa + (1 : Int32))), iv la, rv da, iv qa] [])) _
    refine castTop (g' := (mkF m 26 #[rv ca, iv pb, iv la, rv da, iv qa] [])) (by rw [hp]) ?_
    refine XS.iinc X2.here hx rfl (hb hby d46_26) rfl (l' := #[rv ca, iv pb, iv la, rv da, .val (.int (qa + (1 : Int32)))]) rfl ?_
    show Steps _ _ _ (T2.setTop (mkF m 29 #[rv ca, iv pb, iv la, rv da, .val (.int (qa + (1 : Int32)))] [])) _
    refine castTop (g' := (mkF m 29 #[rv ca, iv pb, iv la, rv da, iv qb] [])) (by rw [hq]) ?_
    refine XS.goto X2.here hx rfl (pc0 := 29) (pc' := 8) rfl (hb hby d46_29) (by decide) (by decide) ?_
    exact k)
  exact ⟨_, _, _, X2, rfl, N2, K2k, Vc2, pre3⟩
theorem own_tl {p : Program} {l : Launch} {e : Env} {s : State} {m : MethodId} {args : Array Value} {below : List Frame} {meth : Method} {c : Code} (Z : State) (a0 : Array Value) (hw : ∀ d ∈ tables_1, d.before a0 Z = true) (ca da : Addr) (Nc Nd : Int32) (kc kd : ClassId) (vc : List Value) (xs : List Int32) (n0 nn : Nat) (zc : Int32) (fm : Value) (S : Sts Z Z.heap zc fm)
    (hx : p.tables.exec = Jvm.exec) (hby : c.code = jdk_52_method_14_code) (hml : c.maxLocals = 5) (hZ : Z.Warmed39 s.vm) (hown : s.vm.findClass "java/lang/StringUTF16" = some m.cls) (gd : n0 ≤ da) (ncd : ca ≠ da) (hN : nn ≤ 15) (hNc : Nc = Int32.ofNat nn) (hNd : Nd = Int32.ofNat (2 * nn)) (hvc : ∀ i, i < nn → vc.getD i (.int 0) = .int (xs.getD i 0)) :
    ∀ (r k : Nat) (vd : List Value) (T0 : State) (h0 : Heap) (locs : List Loc), k + r = nn → vd.length = 2 * nn → Old Z n0 h0 → Stand p l e (Room.mk 2 1 32 28) s m args below meth c T0 locs 1 32 → T0.heap = h0 → Fr n0 locs → Arv Z h0 ca kc .char Nc vc (.int 0) → Arv Z h0 da kd .byte Nd vd (.int 0) →
      ∃ (T' : State) (h' : Heap) (L' : List Loc), Stand p l e (Room.mk 2 1 32 28) s m args below meth c T' L' 1 32 ∧ T'.heap = h' ∧ Fr n0 L' ∧ Keep h0 h' [da] ∧ Arv Z h' da kd .byte Nd (own_inf xs r k k vd) (.int 0) ∧
        ∀ t, Steps p.tables e below (T'.setTop (mkF m 8 #[rv ca, iv (Int32.ofNat nn), iv (Int32.ofNat nn), rv da, iv (Int32.ofNat nn)] [])) t → Steps p.tables e below (T0.setTop (mkF m 8 #[rv ca, iv (Int32.ofNat k), iv (Int32.ofNat nn), rv da, iv (Int32.ofNat k)] [])) t := by
  intro r
  induction r with
  | zero =>
    intro k vd T0 h0 locs hk hvd Y X e0 N Ac Ad
    obtain rfl : k = nn := by omega
    exact ⟨T0, h0, locs, X, e0, N, Keep.refl _ _, Ad, fun t k => k⟩
  | succ r ih =>
    intro k vd T0 h0 locs hk hvd Y X e0 N Ac Ad
    have e2 : Int32.ofNat (2 * k) + (1 : Int32) = Int32.ofNat (2 * k + 1) := own_oa (by omega)
    obtain ⟨T1, h1, L1, X1, e1, N1, K1, A1, st1⟩ := own_tt (l := l) Z a0 hw ca da (Int32.ofNat k) (Int32.ofNat k) (Int32.ofNat nn) (Int32.ofNat (k + 1)) (Int32.ofNat (k + 1)) Nc Nd kc kd vc vd h0 n0 (own_old0 Y) Y zc fm S X hx hby hml hZ hown e0 N Ac Ad gd (own_oa (by omega)) (own_oa (by omega)) (own_ol (by omega) (by omega)) (xs.getD k 0) ⟨own_o0 (by omega), by rw [hNc]; exact own_ol (by omega) (by omega)⟩ (by rw [own_on (by omega)]; exact hvc k (by omega)) ncd
      (Int32.ofNat (2 * k)) (own_os (by omega)) (2 * k) (own_on (by omega)) (by rw [e2]; exact own_on (by omega)) ⟨own_o0 (by omega), by rw [hNd]; exact own_ol (by omega) (by omega)⟩ (by rw [e2]; exact ⟨own_o0 (by omega), by rw [hNd]; exact own_ol (by omega) (by omega)⟩) (by omega)
    obtain ⟨T2, h2, L2, X2, e2', N2, K2, A2, st2⟩ := ih (k + 1) _ T1 h1 L1 (by omega) (by simp [hvd]) (Old.keep Y K1 (allS gd all0)) X1 e1 N1 (Ac.keep K1 (ninS ncd nin0)) A1
    exact ⟨T2, h2, L2, X2, e2', N2, Keep.trans K1 K2 (allS (Or.inl (List.mem_of_getElem? (i := 0) rfl)) all0), A2, fun t k => st1 t (st2 t k)⟩
theorem rm_tb (l : Launch) (Z : State) (a0 : Array Value) (hw : ∀ d ∈ tables_1, d.before a0 Z = true) (ws : List Jvm.Cond) (ca : Addr) (la : Int32) (h0 : Heap) (n0 : Nat) (Z0 : n0 ≤ h0.size) (Y0 : Old Z n0 h0) (zc : Int32) (fm : Value) (S : Sts Z Z.heap zc fm) (kc : ClassId) (vc : List Value) (Ac : Arv Z h0 ca kc .char la vc (Value.int 0)) (kz : Int32) (xs : List Int32) (nn : Nat) (hN : nn ≤ 15) (hla : Int32.ofNat nn = la) (hkz : kz = Int32.ofNat (2 * nn)) (hnb : NB la kz (2 * nn)) (hvc : ∀ i, i < nn → vc.getD i (Value.int 0) = .int (xs.getD i 0))  :
    MFa l mN44 jdk_52_method_14_code 5 (some (.array .byte)) ws (Room.mk 2 1 32 28) Z h0 n0 #[(.ref ca), (.int 0), (.int la)] (Qn Z kz (own_inf xs nn 0 0 (List.replicate (2 * nn) (Value.int 0)))) := by
  refine MetFree.of_bodySF (plainFor_of_name pn_55) hisR ?_
  intro p e s m args below meth c s₁ Bd hml0 hP hK
  obtain ⟨rfl, hZ, hh⟩ := hP
  have hx := Bd.exec
  have hby := Bd.bytes
  have hml : c.maxLocals = 5 := hml0
  have hown : s.vm.findClass "java/lang/StringUTF16" = some m.cls := findClass_of_methodNamed Bd.named
  have X0 : Stand p l e (Room.mk 2 1 32 28) s m #[(.ref ca), (.int 0), (.int la)] below meth c s₁ [] 0 0 := Stand.of_body Bd
  have e0 : s₁.heap = h0 := by rw [← hh, Bd.state]; rfl
  have N0 := Fr.nil n0
  have pre0 : Pr p e below (s₁.setTop (mkF m 0 #[rv ca, iv 0, iv la, .unset, .unset] [])) (s₁.setTop (entryFrame m #[(.ref ca), (.int 0), (.int la)] 5)) := fun t k => castTop (by first | (simp [entryFrame, mkF, argsToLocals, Value.category]; done) | rfl) k
  obtain ⟨_, _, ⟨T1, L1, k1, n1⟩, -, X1, ⟨Lc1, hQ1, l1, y1, z1⟩, st1⟩ := Jvm.LawKit.callS X0 hx (y := mN17) hown (mw hZ hw 262 rfl) (mw hZ hw 263 rfl) (mw hZ hw 18 rfl) (mw hZ hw 264 rfl) (by decide) (backOf (W := 0) (rm_nbf l Z a0 hw [] la h0 n0 (own_old0 Y0) Y0 zc fm S kz (2 * nn) hnb) hZ (ww hw 264 rfl) (ww hw 18 rfl) (by decide) (by decide)) (g := (mkF m 1 #[rv ca, iv 0, iv la, .unset, .unset] [(.int la)])) rfl (by rw [hml]; rfl) (argsL := [(.int la)]) (rest := []) (lenOf pd_17 rfl) rfl own_z (hb hby d46_1) (fun _ _ => ⟨rfl, e0, (by decide : 0 + 1 ≤ _), (by decide : 0 + 32 ≤ _)⟩)
  dsimp only [Pt.U, Pt.locs, Pt.cells, Pt.slots] at X1 l1 y1 z1 st1 hQ1
  rw [y1, z1] at X1
  obtain ⟨u1, ku1, rfl, N1q, E1, zz1, V1⟩ := hQ1
  have N1 := own_fr l1 N0 N1q
  have ne_ca_u1 : ca ≠ u1 := Nat.ne_of_lt (Nat.lt_of_lt_of_le Ac.lt zz1)
  have z_u1 : h0.size ≤ u1 := Nat.le_trans (Nat.le_refl h0.size) zz1
  have g_u1 : n0 ≤ u1 := Nat.le_trans Z0 z_u1
  have V1_ca := Ac.ext E1
  have Y1 := Old.ext Y0 E1
  have K1 : Keep h0 T1.heap [] := (Keep.refl h0 []).ext E1
  have pre2 : Pr p e below (T1.setTop (mkF m 8 #[rv ca, iv 0, iv la, rv u1, iv 0] [])) (s₁.setTop (entryFrame m #[(.ref ca), (.int 0), (.int la)] 5)) := fun t k => pre0 t (by
    show Steps _ _ _ (s₁.setTop (mkF m 0 #[rv ca, iv 0, iv la, .unset, .unset] [])) _
    refine XS.iloadN X0.here hx rfl (hb hby d46_0) rfl ?_
    refine st1 _ ?_
    refine XS.astoreN X1.here hx rfl (hb hby d46_4) rfl rfl (l' := #[rv ca, iv 0, iv la, rv u1, .unset]) rfl ?_
    refine XT.iconstV X1.here hx rfl (0 : Int32) (hb hby d46_5) (by decide) ?_
    refine XS.istore X1.here hx rfl (hb hby d46_6) rfl (l' := #[rv ca, iv 0, iv la, rv u1, iv 0]) rfl ?_
    exact k)
  obtain ⟨T3, h3, L3, X3, e3, N3, Kc3, V3, st3⟩ := own_tl (l := l) Z a0 hw ca u1 la kz kc ku1 vc xs n0 nn zc fm S hx hby hml hZ hown g_u1 ne_ca_u1 hN hla.symm hkz hvc nn 0 _ T1 T1.heap _ (Nat.zero_add _) (List.length_replicate ..) Y1 X1 rfl N1 V1_ca V1
  have pre3l : Pr p e below (T3.setTop (mkF m 8 #[rv ca, .val (.int (Int32.ofNat nn)), iv la, rv u1, .val (.int (Int32.ofNat nn))] [])) (s₁.setTop (entryFrame m #[(.ref ca), (.int 0), (.int la)] 5)) := fun t k => pre2 t (by
    have q := st3 t (by rw [hla]; rw [hla] at k; exact k)
    rw [hla] at q
    exact q)
  have K3k : Keep h0 h3 [] := Keep.trans K1 Kc3 (allS (Or.inr z_u1) all0)
  have pre4 : Pr p e below (T3.setTop (mkF m 33 #[rv ca, .val (.int (Int32.ofNat nn)), iv la, rv u1, .val (.int (Int32.ofNat nn))] [(.ref u1)])) (s₁.setTop (entryFrame m #[(.ref ca), (.int 0), (.int la)] 5)) := fun t k => pre3l t (by
    show Steps _ _ _ (T3.setTop (mkF m 8 #[rv ca, .val (.int (Int32.ofNat nn)), iv la, rv u1, .val (.int (Int32.ofNat nn))] [])) _
    refine XS.iload X3.here hx rfl (hb hby d46_8) rfl ?_
    refine XS.iloadN X3.here hx rfl (hb hby d46_10) rfl ?_
    show Steps _ _ _ (T3.setTop (mkF m 11 #[rv ca, .val (.int (Int32.ofNat nn)), iv la, rv u1, .val (.int (Int32.ofNat nn))] [(.int la), (.int (Int32.ofNat nn))])) _
    refine XS.icmpYes X3.here hx rfl (pc0 := 11) (pc' := 32) rfl (hb hby d46_11) rfl (flt (by rw [hla]; exact Int32.lt_irrefl)).2.1 (by decide) (by decide) ?_
    refine XS.aloadN X3.here hx rfl (hb hby d46_32) rfl rfl ?_
    exact k)
  obtain ⟨fs, hr, hrun, hended, hW, hsame⟩ := X3.leave (v := some (.ref u1)) (fun h => by rw [Bd.returns] at h; cases h)
  refine ⟨_, _, pre4 _ ?_, hrun, hended, _, _, rfl, ?_, ⟨_, rfl⟩, hW, hsame.mono (by decide) (by decide)⟩
  · show Steps _ _ _ (T3.setTop (mkF m 33 #[rv ca, .val (.int (Int32.ofNat nn)), iv la, rv u1, .val (.int (Int32.ofNat nn))] [(.ref u1)])) _
    exact retOut X3 hx Bd.returns rfl (Or.inr (Or.inr (Or.inr (Or.inr ⟨rfl, rfl, rfl⟩)))) (hb hby d46_33) hr
  · show (Qn Z kz (own_inf xs nn 0 0 (List.replicate (2 * nn) (Value.int 0)))) h0 n0 _ T3.heap _
    rw [e3]
    exact ⟨_, _, rfl, N3, own_ext_of K3k, z_u1, V3⟩
theorem rm_cm (l : Launch) (Z : State) (a0 : Array Value) (hw : ∀ d ∈ tables_1, d.before a0 Z = true) (ws : List Jvm.Cond) (ca : Addr) (la : Int32) (h0 : Heap) (n0 : Nat) (Z0 : n0 ≤ h0.size) (Y0 : Old Z n0 h0) (zc : Int32) (fm : Value) (S : Sts Z Z.heap zc fm) (kc : ClassId) (vc : List Value) (Ac : Arv Z h0 ca kc .char la vc (Value.int 0)) (kz : Int32) (xs : List Int32) (nn : Nat) (hN : nn ≤ 15) (hla : Int32.ofNat nn = la) (hkz : kz = Int32.ofNat (2 * nn)) (hnb : NB la kz (2 * nn)) (hvc : ∀ i, i < nn → vc.getD i (Value.int 0) = .int (xs.getD i 0)) (hl3 : la.toNatClampNeg = nn) (hl0 : ¬ la < 0) (hn3 : nn ≤ 3) (j : Nat) (hjn : j < nn) (hall : ∀ i, i < j → ¬ (255 : Int32) < xs.getD i 0) (hgt : (255 : Int32) < xs.getD j 0) (hc : own_c16 (xs.getD j 0)) (hu1 : (own_inf xs nn 0 0 (List.replicate (2 * nn) (Value.int 0))).getD (2 * j) (Value.int 0) = .int (StrChars.lo8 (xs.getD j 0))) (hu2 : (own_inf xs nn 0 0 (List.replicate (2 * nn) (Value.int 0))).getD (2 * j + 1) (Value.int 0) = .int (StrChars.hi8 (xs.getD j 0)))  :
    MFa l mN45 jdk_52_method_16_code 6 (some (.array .byte)) ws (Room.mk 3 2 35 44) Z h0 n0 #[(.ref ca), (.int 0), (.int la)] (Qn Z kz (own_inf xs nn 0 0 (List.replicate (2 * nn) (Value.int 0)))) := by
  refine MetFree.of_bodySF (plainFor_of_name pn_55) hisR ?_
  intro p e s m args below meth c s₁ Bd hml0 hP hK
  obtain ⟨rfl, hZ, hh⟩ := hP
  have hx := Bd.exec
  have hby := Bd.bytes
  have hml : c.maxLocals = 6 := hml0
  have hown : s.vm.findClass "java/lang/StringUTF16" = some m.cls := findClass_of_methodNamed Bd.named
  have X0 : Stand p l e (Room.mk 3 2 35 44) s m #[(.ref ca), (.int 0), (.int la)] below meth c s₁ [] 0 0 := Stand.of_body Bd
  have e0 : s₁.heap = h0 := by rw [← hh, Bd.state]; rfl
  have N0 := Fr.nil n0
  have pre0 : Pr p e below (s₁.setTop (mkF m 0 #[rv ca, iv 0, iv la, .unset, .unset, .unset] [])) (s₁.setTop (entryFrame m #[(.ref ca), (.int 0), (.int la)] 6)) := fun t k => castTop (by first | (simp [entryFrame, mkF, argsToLocals, Value.category]; done) | rfl) k
  obtain ⟨T1, h1, k1, X1, e1, E1, A1, st1⟩ := newP X0 hx hZ (ww hw 20 rfl) e0 (g := (mkF m 1 #[rv ca, iv 0, iv la, .unset, .unset, .unset] [(.int la)])) rfl (hb hby d4_1) rfl hl0 (cap := 3) (by rw [hl3]; exact hn3) (by decide) (by decide) (by decide)
  obtain ⟨b1, g1⟩ : ∃ z, z = h0.size := ⟨_, rfl⟩
  rw [← g1] at A1 st1
  have ne_ca_b1 : ca ≠ b1 := Nat.ne_of_lt (Nat.lt_of_lt_of_le Ac.lt (Nat.le_of_eq g1.symm))
  have z_b1 : h0.size ≤ b1 := Nat.le_trans (Nat.le_refl h0.size) (Nat.le_of_eq g1.symm)
  have g_b1 : n0 ≤ b1 := Nat.le_trans Z0 z_b1
  have V1_ca := Ac.ext E1
  have Y1 := Old.ext Y0 E1
  have sz1 : h0.size ≤ h1.size := Nat.le_trans (Nat.le_refl h0.size) E1.1
  have K1 : Keep h0 h1 [] := (Keep.refl h0 []).ext E1
  have V1 : Arv Z h1 b1 k1 .byte la (List.replicate nn (.int 0)) (.int 0) := (Arv.new A1 hl0).pad (pad_rep [] (.int 0) nn)
  obtain ⟨_, _, ⟨T2, L2, k2, n2⟩, -, X2, ⟨Lc2, hQ2, l2, y2, z2⟩, st2⟩ := Jvm.LawKit.callS X1 hx (y := mN43) hown (mw hZ hw 21 rfl) (mw hZ hw 22 rfl) (mw hZ hw 18 rfl) (mw hZ hw 23 rfl) (by decide) (backOf (W := 0) (rm_cl l Z a0 hw [] ca b1 la h1 n0 (own_old0 Y1) Y1 zc fm S xs nn j hN hla kc vc V1_ca k1 _ V1 g_b1 ne_ca_b1 (List.length_replicate ..) hvc hjn hall hgt) hZ (ww hw 23 rfl) (ww hw 18 rfl) (by decide) (by decide)) (g := (mkF m 9 #[rv ca, iv 0, iv la, rv b1, .unset, .unset] [(.int la), (.int 0), (.ref b1), (.int 0), (.ref ca)])) rfl (by rw [hml]; rfl) (argsL := [(.ref ca), (.int 0), (.ref b1), (.int 0), (.int la)]) (rest := []) (lenOf pd_27 rfl) rfl own_z (hb hby d4_9) (fun _ _ => ⟨rfl, e1, (by decide : 1 + 0 ≤ _), (by decide : 3 + 0 ≤ _)⟩)
  dsimp only [Pt.U, Pt.locs, Pt.cells, Pt.slots] at X2 l2 y2 z2 st2 hQ2
  rw [y2, z2] at X2
  obtain ⟨rfl, N2q, Kc2⟩ := hQ2
  have N2 := own_fr l2 N0 N2q
  have V2_ca := V1_ca.keep Kc2 (ninS ne_ca_b1 nin0)
  have Y2 := Old.keep Y1 Kc2 (allS g_b1 all0)
  have sz2 : h0.size ≤ T2.heap.size := Nat.le_trans sz1 Kc2.1
  have K2k : Keep h0 T2.heap [] := Keep.trans K1 Kc2 (allS (Or.inr z_b1) all0)
  have pre3 : Pr p e below (T2.setTop (mkF m 20 #[rv ca, iv 0, iv la, rv b1, .val (.int (Int32.ofNat j)), .unset] [])) (s₁.setTop (entryFrame m #[(.ref ca), (.int 0), (.int la)] 6)) := fun t k => pre0 t (by
    show Steps _ _ _ (s₁.setTop (mkF m 0 #[rv ca, iv 0, iv la, .unset, .unset, .unset] [])) _
    refine XS.iloadN X0.here hx rfl (hb hby d4_0) rfl ?_
    refine st1 _ ?_
    refine XS.astoreN X1.here hx rfl (hb hby d4_3) rfl rfl (l' := #[rv ca, iv 0, iv la, rv b1, .unset, .unset]) rfl ?_
    refine XS.aloadN X1.here hx rfl (hb hby d4_4) rfl rfl ?_
    refine XS.iloadN X1.here hx rfl (hb hby d4_5) rfl ?_
    refine XS.aloadN X1.here hx rfl (hb hby d4_6) rfl rfl ?_
    refine XT.iconstV X1.here hx rfl (0 : Int32) (hb hby d4_7) (by decide) ?_
    refine XS.iloadN X1.here hx rfl (hb hby d4_8) rfl ?_
    refine st2 _ ?_
    refine XS.istore X2.here hx rfl (hb hby d4_12) rfl (l' := #[rv ca, iv 0, iv la, rv b1, .val (.int (Int32.ofNat j)), .unset]) rfl ?_
    refine XS.iload X2.here hx rfl (hb hby d4_14) rfl ?_
    refine XS.iloadN X2.here hx rfl (hb hby d4_16) rfl ?_
    show Steps _ _ _ (T2.setTop (mkF m 17 #[rv ca, iv 0, iv la, rv b1, .val (.int (Int32.ofNat j)), .unset] [(.int la), (.int (Int32.ofNat j))])) _
    refine XS.icmpNo X2.here hx rfl (hb hby d4_17) rfl (feq (by rw [← hla]; intro q; have := congrArg Int32.toInt q; rw [own_oi (by omega), own_oi (by omega)] at this; omega)).1 ?_
    exact k)
  obtain ⟨_, _, ⟨T4, L4, k4, n4⟩, -, X4, ⟨Lc4, hQ4, l4, y4, z4⟩, st4⟩ := Jvm.LawKit.callS X2 hx (y := mN44) hown (mw hZ hw 259 rfl) (mw hZ hw 260 rfl) (mw hZ hw 18 rfl) (mw hZ hw 261 rfl) (by decide) (backOf (W := 0) (rm_tb l Z a0 hw [] ca la T2.heap n0 (own_old0 Y2) Y2 zc fm S kc vc V2_ca kz xs nn hN hla hkz hnb hvc) hZ (ww hw 261 rfl) (ww hw 18 rfl) (by decide) (by decide)) (g := (mkF m 23 #[rv ca, iv 0, iv la, rv b1, .val (.int (Int32.ofNat j)), .unset] [(.int la), (.int 0), (.ref ca)])) rfl (by rw [hml]; rfl) (argsL := [(.ref ca), (.int 0), (.int la)]) (rest := []) (lenOf pd_28 rfl) rfl own_z (hb hby d4_23) (fun _ _ => ⟨rfl, rfl, (by decide : 1 + 1 ≤ _), (by decide : 3 + 32 ≤ _)⟩)
  dsimp only [Pt.U, Pt.locs, Pt.cells, Pt.slots] at X4 l4 y4 z4 st4 hQ4
  rw [y4, z4] at X4
  obtain ⟨u4, ku4, rfl, N4q, E4, zz4, V4⟩ := hQ4
  have N4 := own_fr l4 N2 N4q
  have z_u4 : h0.size ≤ u4 := Nat.le_trans sz2 zz4
  have Y4 := Old.ext Y2 E4
  have K4 : Keep h0 T4.heap [] := K2k.ext E4
  obtain ⟨_, _, ⟨T5, L5, k5, n5⟩, -, X5, ⟨Lc5, hQ5, l5, y5, z5⟩, st5⟩ := Jvm.LawKit.callS X4 hx (y := mN15) hown (mw hZ hw 275 rfl) (mw hZ hw 276 rfl) (mw hZ hw 18 rfl) (mw hZ hw 277 rfl) (by decide) (backOf (W := 0) (rm_gc l Z a0 hw [] u4 (Int32.ofNat j) T4.heap n0 (own_old0 Y4) Y4 zc fm S ku4 kz (own_inf xs nn 0 0 (List.replicate (2 * nn) (Value.int 0))) V4 (Int32.ofNat (2 * j)) (own_os (by omega)) ⟨own_o0 (by omega), by rw [hkz]; exact own_ol (by omega) (by omega)⟩ (by rw [own_oa (by omega)]; exact ⟨own_o0 (by omega), by rw [hkz]; exact own_ol (by omega) (by omega)⟩) (xs.getD j 0) (by rw [own_on (by omega)]; exact hu1) (by rw [own_oa (by omega), own_on (by omega)]; exact hu2) hc) hZ (ww hw 277 rfl) (ww hw 18 rfl) (by decide) (by decide)) (g := (mkF m 32 #[rv ca, iv 0, iv la, rv b1, .val (.int (Int32.ofNat j)), rv u4] [(.int (Int32.ofNat j)), (.ref u4)])) rfl (by rw [hml]; rfl) (argsL := [(.ref u4), (.int (Int32.ofNat j))]) (rest := []) (lenOf pd_11 rfl) rfl own_z (hb hby d4_32) (fun _ _ => ⟨rfl, rfl, (by decide : 2 + 0 ≤ _), (by decide : 35 + 0 ≤ _)⟩)
  dsimp only [Pt.U, Pt.locs, Pt.cells, Pt.slots] at X5 l5 y5 z5 st5 hQ5
  rw [y5, z5] at X5
  obtain ⟨rfl, N5q, e5⟩ := hQ5
  have N5 := own_fr l5 N4 N5q
  have pre6 : Pr p e below (T5.setTop (mkF m 56 #[rv ca, iv 0, iv la, rv b1, .val (.int (Int32.ofNat j)), rv u4] [(.ref u4)])) (s₁.setTop (entryFrame m #[(.ref ca), (.int 0), (.int la)] 6)) := fun t k => pre3 t (by
    show Steps _ _ _ (T2.setTop (mkF m 20 #[rv ca, iv 0, iv la, rv b1, .val (.int (Int32.ofNat j)), .unset] [])) _
    refine XS.aloadN X2.here hx rfl (hb hby d4_20) rfl rfl ?_
    refine XS.iloadN X2.here hx rfl (hb hby d4_21) rfl ?_
    refine XS.iloadN X2.here hx rfl (hb hby d4_22) rfl ?_
    refine st4 _ ?_
    refine XS.astore X4.here hx rfl (hb hby d4_26) rfl rfl (l' := #[rv ca, iv 0, iv la, rv b1, .val (.int (Int32.ofNat j)), rv u4]) rfl ?_
    refine XS.aload X4.here hx rfl (hb hby d4_28) rfl rfl ?_
    refine XS.iload X4.here hx rfl (hb hby d4_30) rfl ?_
    refine st5 _ ?_
    refine XT.sipushV X5.here hx rfl (255 : Int32) (hb hby d4_35) (by decide) ?_
    show Steps _ _ _ (T5.setTop (mkF m 38 #[rv ca, iv 0, iv la, rv b1, .val (.int (Int32.ofNat j)), rv u4] [(.int 255), (.int (xs.getD j 0))])) _
    refine XS.icmpYes X5.here hx rfl (pc0 := 38) (pc' := 54) rfl (hb hby d4_38) rfl (tlt hgt).2.2.1 (by decide) (by decide) ?_
    refine XS.aload X5.here hx rfl (hb hby d4_54) rfl rfl ?_
    exact k)
  obtain ⟨fs, hr, hrun, hended, hW, hsame⟩ := X5.leave (v := some (.ref u4)) (fun h => by rw [Bd.returns] at h; cases h)
  refine ⟨_, _, pre6 _ ?_, hrun, hended, _, _, rfl, ?_, ⟨_, rfl⟩, hW, hsame.mono (by decide) (by decide)⟩
  · show Steps _ _ _ (T5.setTop (mkF m 56 #[rv ca, iv 0, iv la, rv b1, .val (.int (Int32.ofNat j)), rv u4] [(.ref u4)])) _
    exact retOut X5 hx Bd.returns rfl (Or.inr (Or.inr (Or.inr (Or.inr ⟨rfl, rfl, rfl⟩)))) (hb hby d4_56) hr
  · show (Qn Z kz (own_inf xs nn 0 0 (List.replicate (2 * nn) (Value.int 0)))) h0 n0 _ T5.heap _
    rw [e5]
    exact ⟨_, _, rfl, N5, own_ext_of K4, z_u4, V4⟩
theorem rm_cf (l : Launch) (Z : State) (a0 : Array Value) (hw : ∀ d ∈ tables_1, d.before a0 Z = true) (ws : List Jvm.Cond) (da : Addr) (la : Int32) (h0 : Heap) (n0 : Nat) (Z0 : n0 ≤ h0.size) (Y0 : Old Z n0 h0) (zc : Int32) (fm : Value) (S : Sts Z Z.heap zc fm) (kd : ClassId) (Nd : Int32) (vd : List Value) (Ad : Arv Z h0 da kd .byte Nd vd (Value.int 0)) (dl : Int32) (hdl : (la - Nd) = dl) (hdm : ((dl.toUInt32 >>> ((31 : Int32) &&& 31).toUInt32).toInt32) = (1 : Int32))  :
    MFa l mN46 jdk_52_method_15_code 2 (some .byte) ws (Room.mk 0 0 0 0) Z h0 n0 #[(.ref da), (.int la)] (Qp (some (.int 1))) := by
  refine MetFree.of_bodySF (plainFor_of_name pn_55) hisR ?_
  intro p e s m args below meth c s₁ Bd hml0 hP hK
  obtain ⟨rfl, hZ, hh⟩ := hP
  have hx := Bd.exec
  have hby := Bd.bytes
  have X0 : Stand p l e (Room.mk 0 0 0 0) s m #[(.ref da), (.int la)] below meth c s₁ [] 0 0 := Stand.of_body Bd
  have e0 : s₁.heap = h0 := by rw [← hh, Bd.state]; rfl
  have N0 := Fr.nil n0
  have pre0 : Pr p e below (s₁.setTop (mkF m 0 #[rv da, iv la] [])) (s₁.setTop (entryFrame m #[(.ref da), (.int la)] 2)) := fun t k => castTop (by first | (simp [entryFrame, mkF, argsToLocals, Value.category]; done) | rfl) k
  obtain ⟨cl1, Ar1, -, Sz1, nz1, -, -⟩ := id Ad
  have pre2 : Pr p e below (s₁.setTop (mkF m 8 #[rv da, iv la] [(.int 1)])) (s₁.setTop (entryFrame m #[(.ref da), (.int la)] 2)) := fun t k => pre0 t (by
    show Steps _ _ _ (s₁.setTop (mkF m 0 #[rv da, iv la] [])) _
    refine XS.iloadN X0.here hx rfl (hb hby d6_0) rfl ?_
    refine XS.aloadN X0.here hx rfl (hb hby d6_1) rfl rfl ?_
    refine X0.arraylength hx (by rw [e0]; exact Ar1.1) (State.isArrayOf_alike hZ.alike Ar1.2.1) (g := (mkF m 2 #[rv da, iv la] [(.ref da), (.int la)])) rfl rfl (hb hby d6_2) _ ?_
    rw [len_of Sz1 nz1]
    refine XS.isub X0.here hx rfl (hb hby d6_3) rfl ?_
    show Steps _ _ _ (s₁.setTop (mkF m 4 #[rv da, iv la] [(.int (la - Nd))])) _
    refine castTop (g' := (mkF m 4 #[rv da, iv la] [(.int dl)])) (by rw [hdl]) ?_
    refine XT.bipushV X0.here hx rfl (31 : Int32) (hb hby d6_4) (by decide) ?_
    refine XS.iushr X0.here hx rfl (hb hby d6_6) rfl ?_
    show Steps _ _ _ (s₁.setTop (mkF m 7 #[rv da, iv la] [(.int ((dl.toUInt32 >>> ((31 : Int32) &&& 31).toUInt32).toInt32))])) _
    refine castTop (g' := (mkF m 7 #[rv da, iv la] [(.int 1)])) (by rw [hdm]) ?_
    refine XS.i2b X0.here hx rfl (hb hby d6_7) rfl ?_
    show Steps _ _ _ (s₁.setTop (mkF m 8 #[rv da, iv la] [(.int ((1 : Int32).toInt8.toInt32))])) _
    refine castTop (g' := (mkF m 8 #[rv da, iv la] [(.int 1)])) (by rw [(by decide : ((1 : Int32).toInt8.toInt32) = (1 : Int32))]) ?_
    exact k)
  obtain ⟨fs, hr, hrun, hended, hW, hsame⟩ := X0.leave (v := some (.int 1)) (fun h => by rw [Bd.returns] at h; cases h)
  refine ⟨_, _, pre2 _ ?_, hrun, hended, _, _, rfl, ?_, ⟨_, rfl⟩, hW, hsame.mono (by decide) (by decide)⟩
  · show Steps _ _ _ (s₁.setTop (mkF m 8 #[rv da, iv la] [(.int 1)])) _
    exact retOut X0 hx Bd.returns rfl (Or.inl ⟨rfl, by simp, _, rfl⟩) (hb hby d6_8) hr
  · show (Qp (some (.int 1))) h0 n0 _ s₁.heap _
    rw [e0]
    exact ⟨rfl, N0, rfl⟩
theorem rm_ni (l : Launch) (Z : State) (a0 : Array Value) (hw : ∀ d ∈ tables_1, d.before a0 Z = true) (ws : List Jvm.Cond) (ra : Addr) (ca : Addr) (la : Int32) (h0 : Heap) (n0 : Nat) (Z0 : n0 ≤ h0.size) (Y0 : Old Z n0 h0) (zc : Int32) (fm : Value) (S : Sts Z Z.heap zc fm) (Ea : Exa Z h0 ra "java/lang/String") (Fv : Fld Z h0 ra "java/lang/String" "value" "[B" .null) (Fc : Fld Z h0 ra "java/lang/String" "coder" "B" (.int 0)) (ga : n0 ≤ ra) (kc : ClassId) (vc : List Value) (Ac : Arv Z h0 ca kc .char la vc (Value.int 0)) (kz : Int32) (xs : List Int32) (nn : Nat) (hN : nn ≤ 15) (hla : Int32.ofNat nn = la) (hkz : kz = Int32.ofNat (2 * nn)) (hnb : NB la kz (2 * nn)) (hvc : ∀ i, i < nn → vc.getD i (Value.int 0) = .int (xs.getD i 0)) (hl3 : la.toNatClampNeg = nn) (hl0 : ¬ la < 0) (hn3 : nn ≤ 3) (j : Nat) (hjn : j < nn) (hall : ∀ i, i < j → ¬ (255 : Int32) < xs.getD i 0) (hgt : (255 : Int32) < xs.getD j 0) (hc : own_c16 (xs.getD j 0)) (hu1 : (own_inf xs nn 0 0 (List.replicate (2 * nn) (Value.int 0))).getD (2 * j) (Value.int 0) = .int (StrChars.lo8 (xs.getD j 0))) (hu2 : (own_inf xs nn 0 0 (List.replicate (2 * nn) (Value.int 0))).getD (2 * j + 1) (Value.int 0) = .int (StrChars.hi8 (xs.getD j 0))) (dl : Int32) (hdl : (la - kz) = dl) (hdm : ((dl.toUInt32 >>> ((31 : Int32) &&& 31).toUInt32).toInt32) = (1 : Int32)) (hl1 : ¬ la = (0 : Int32))  :
    MFa l mN47 jdk_42_method_149_code 6 none ws (Room.mk 4 2 35 61) Z h0 n0 #[(.ref ra), (.ref ca), (.int 0), (.int la), .null] (Qs Z ra kz (own_inf xs nn 0 0 (List.replicate (2 * nn) (Value.int 0))) (1 : Int32)) := by
  refine MetFree.of_bodySF (plainFor_of_name pn_13) hisR ?_
  intro p e s m args below meth c s₁ Bd hml0 hP hK
  obtain ⟨rfl, hZ, hh⟩ := hP
  have hx := Bd.exec
  have hby := Bd.bytes
  have hml : c.maxLocals = 6 := hml0
  have hown : s.vm.findClass "java/lang/String" = some m.cls := findClass_of_methodNamed Bd.named
  have hnm := (name_of_methodNamed Bd.named Bd.method).1
  have X0 : Stand p l e (Room.mk 4 2 35 61) s m #[(.ref ra), (.ref ca), (.int 0), (.int la), .null] below meth c s₁ [] 0 0 := Stand.of_body Bd
  have e0 : s₁.heap = h0 := by rw [← hh, Bd.state]; rfl
  have N0 := Fr.nil n0
  have pre0 : Pr p e below (s₁.setTop (mkF m 0 #[rv ra, rv ca, iv 0, iv la, .val .null, .unset] [])) (s₁.setTop (entryFrame m #[(.ref ra), (.ref ca), (.int 0), (.int la), .null] 6)) := fun t k => castTop (by first | (simp [entryFrame, mkF, argsToLocals, Value.category]; done) | rfl) k
  obtain ⟨T1, X1, e1, st1⟩ := initO X0 hx hZ hown (ww hw 12 rfl) (ww hw 13 rfl) (ww hw 14 rfl) e0 (g := (mkF m 1 #[rv ra, rv ca, iv 0, iv la, .val .null, .unset] [(.ref ra)])) rfl (by rw [hml]; rfl) rfl (hb hby d2_1) (by decide) (W := 0) own_z (by decide)
  obtain ⟨T2, X2, e2, st2⟩ := getS2 X1 hx hZ hown (host := "") (Or.inl (ww hw 15 rfl)) Via.refl e1 (S.1.ext Y0.2) (g := (mkF m 27 #[rv ra, rv ca, iv 0, iv la, .val .null, .unset] [])) rfl (hb hby d2_27)
  obtain ⟨_, _, ⟨T3, L3, k3, n3⟩, -, X3, ⟨Lc3, hQ3, l3, y3, z3⟩, st3⟩ := Jvm.LawKit.callS X2 hx (y := mN45) hown (mw hZ hw 16 rfl) (mw hZ hw 17 rfl) (mw hZ hw 18 rfl) (mw hZ hw 19 rfl) (by decide) (backOf (W := 0) (rm_cm l Z a0 hw [] ca la h0 n0 (own_old0 Y0) Y0 zc fm S kc vc Ac kz xs nn hN hla hkz hnb hvc hl3 hl0 hn3 j hjn hall hgt hc hu1 hu2 ) hZ (ww hw 19 rfl) (ww hw 18 rfl) (by decide) (by decide)) (g := (mkF m 36 #[rv ra, rv ca, iv 0, iv la, .val .null, .unset] [(.int la), (.int 0), (.ref ca)])) rfl (by rw [hml]; rfl) (argsL := [(.ref ca), (.int 0), (.int la)]) (rest := []) (lenOf pd_28 rfl) rfl own_z (hb hby d2_36) (fun _ _ => ⟨rfl, e2, (by decide : 0 + 2 ≤ _), (by decide : 0 + 35 ≤ _)⟩)
  dsimp only [Pt.U, Pt.locs, Pt.cells, Pt.slots] at X3 l3 y3 z3 st3 hQ3
  rw [y3, z3] at X3
  obtain ⟨u3, ku3, rfl, N3q, E3, zz3, V3⟩ := hQ3
  have N3 := own_fr l3 N0 N3q
  have ne_ra_u3 : ra ≠ u3 := Nat.ne_of_lt (Nat.lt_of_lt_of_le Ea.lt zz3)
  have z_u3 : h0.size ≤ u3 := Nat.le_trans (Nat.le_refl h0.size) zz3
  have E3_ra := Ea.ext E3
  have F3_ra_value := Fv.ext E3
  have F3_ra_coder := Fc.ext E3
  have Y3 := Old.ext Y0 E3
  have K3 : Keep h0 T3.heap [ra] := (Keep.refl h0 [ra]).ext E3
  have pre4 : Pr p e below (T3.setTop (mkF m 44 #[rv ra, rv ca, iv 0, iv la, .val .null, rv u3] [(.ref u3), (.ref ra)])) (s₁.setTop (entryFrame m #[(.ref ra), (.ref ca), (.int 0), (.int la), .null] 6)) := fun t k => pre0 t (by
    show Steps _ _ _ (s₁.setTop (mkF m 0 #[rv ra, rv ca, iv 0, iv la, .val .null, .unset] [])) _
    refine XS.aloadN X0.here hx rfl (hb hby d2_0) rfl rfl ?_
    refine st1 _ ?_
    refine XS.iloadN X1.here hx rfl (hb hby d2_4) rfl ?_
    show Steps _ _ _ (T1.setTop (mkF m 5 #[rv ra, rv ca, iv 0, iv la, .val .null, .unset] [(.int la)])) _
    refine XS.ifYes X1.here hx rfl (pc0 := 5) (pc' := 27) rfl (hb hby d2_5) rfl ((if0 _ _).trans (feq hl1).2) (by decide) (by decide) ?_
    refine st2 _ ?_
    show Steps _ _ _ (T2.setTop (mkF m 30 #[rv ra, rv ca, iv 0, iv la, .val .null, .unset] [(.int zc)])) _
    refine XS.ifNo X2.here hx rfl (hb hby d2_30) rfl ((if0 _ _).trans (feq S.2.2.2.2.2.1).1) ?_
    refine XS.aloadN X2.here hx rfl (hb hby d2_33) rfl rfl ?_
    refine XS.iloadN X2.here hx rfl (hb hby d2_34) rfl ?_
    refine XS.iloadN X2.here hx rfl (hb hby d2_35) rfl ?_
    refine st3 _ ?_
    refine XS.astore X3.here hx rfl (hb hby d2_39) rfl rfl (l' := #[rv ra, rv ca, iv 0, iv la, .val .null, rv u3]) rfl ?_
    refine XS.aloadN X3.here hx rfl (hb hby d2_41) rfl rfl ?_
    refine XS.aload X3.here hx rfl (hb hby d2_42) rfl rfl ?_
    exact k)
  obtain ⟨_, _, ⟨T5, L5, k5, n5⟩, -, X5, ⟨Lc5, hQ5, l5, y5, z5⟩, st5⟩ := Jvm.LawKit.callS X3 hx (y := mN46) hown (mw hZ hw 24 rfl) (mw hZ hw 25 rfl) (mw hZ hw 18 rfl) (mw hZ hw 26 rfl) (by decide) (backOf (W := 1) (rm_cf l Z a0 hw [] u3 la T3.heap n0 (own_old0 Y3) Y3 zc fm S ku3 kz (own_inf xs nn 0 0 (List.replicate (2 * nn) (Value.int 0))) V3 dl hdl hdm) hZ (ww hw 26 rfl) (ww hw 18 rfl) (by decide) (by decide)) (g := (mkF m 45 #[rv ra, rv ca, iv 0, iv la, .val .null, rv u3] [(.int la), (.ref u3), (.ref ra)])) rfl (by rw [hml]; rfl) (argsL := [(.ref u3), (.int la)]) (rest := [(.ref ra)]) (lenOf pd_29 rfl) rfl own_z (hb hby d2_45) (fun _ _ => ⟨rfl, rfl, (by decide : 2 + 0 ≤ _), (by decide : 35 + 0 ≤ _)⟩)
  dsimp only [Pt.U, Pt.locs, Pt.cells, Pt.slots] at X5 l5 y5 z5 st5 hQ5
  rw [y5, z5] at X5
  obtain ⟨rfl, N5q, e5⟩ := hQ5
  have N5 := own_fr l5 N3 N5q
  obtain ⟨T6, h6, X6, e6, W6, st6⟩ := putFN X5 hx hZ hown (ww hw 27 rfl) Via.refl e5 F3_ra_coder E3_ra (Or.inr ⟨(ww hw 28 rfl), rfl, hnm⟩) (ww hw 3 rfl) (ty := .byte) (v' := (.int 1)) (by decide) rfl rfl (g := (mkF m 48 #[rv ra, rv ca, iv 0, iv la, .val .null, rv u3] [(.int 1), (.ref ra)])) rfl rfl (hb hby d2_48)
  have E6_ra := E3_ra.wr W6
  have V6_u3 := V3.other W6 (Ne.symm ne_ra_u3)
  have F6_ra_value := F3_ra_value.other W6 (Or.inr (slot_ne (Or.inr (ww hw 30 rfl)) (Or.inr (ww hw 28 rfl)) (by decide) (t := (.array .byte)) (t' := .byte) (by decide) (by decide)))
  have F6_ra_coder := F3_ra_coder.same W6
  have K6 : Keep h0 h6 [ra] := K3.wr W6 (Or.inl (List.mem_of_getElem? (i := 0) rfl))
  have N6 := Fr.snoc X6 N5 ga
  obtain ⟨T7, h7, X7, e7, W7, st7⟩ := putF X6 hx hZ hown (host := "") (Or.inl (ww hw 29 rfl)) Via.refl e6 F6_ra_value E6_ra (Or.inr ⟨(ww hw 30 rfl), rfl, hnm⟩) (ww hw 3 rfl) (ty := (.array .byte)) (by decide) rfl rfl (g := (mkF m 54 #[rv ra, rv ca, iv 0, iv la, .val .null, rv u3] [(.ref u3), (.ref ra)])) rfl rfl (hb hby d2_54)
  have E7_ra := E6_ra.wr W7
  have V7_u3 := V6_u3.other W7 (Ne.symm ne_ra_u3)
  have F7_ra_value := F6_ra_value.same W7
  have F7_ra_coder := F6_ra_coder.other W7 (Or.inr (slot_ne (Or.inr (ww hw 28 rfl)) (Or.inr (ww hw 30 rfl)) (by decide) (t := .byte) (t' := (.array .byte)) (by decide) (by decide)))
  have K7 : Keep h0 h7 [ra] := K6.wr W7 (Or.inl (List.mem_of_getElem? (i := 0) rfl))
  have N7 := Fr.snoc X7 N6 ga
  have pre8 : Pr p e below (T7.setTop (mkF m 57 #[rv ra, rv ca, iv 0, iv la, .val .null, rv u3] [])) (s₁.setTop (entryFrame m #[(.ref ra), (.ref ca), (.int 0), (.int la), .null] 6)) := fun t k => pre4 t (by
    show Steps _ _ _ (T3.setTop (mkF m 44 #[rv ra, rv ca, iv 0, iv la, .val .null, rv u3] [(.ref u3), (.ref ra)])) _
    refine XS.iloadN X3.here hx rfl (hb hby d2_44) rfl ?_
    refine st5 _ ?_
    refine st6 _ ?_
    refine XS.aloadN X6.here hx rfl (hb hby d2_51) rfl rfl ?_
    refine XS.aload X6.here hx rfl (hb hby d2_52) rfl rfl ?_
    refine st7 _ ?_
    exact k)
  obtain ⟨fs, hr, hrun, hended, hW, hsame⟩ := X7.leave (v := none) (fun _ => rfl)
  refine ⟨_, _, pre8 _ ?_, hrun, hended, _, _, rfl, ?_, ⟨_, rfl⟩, hW, hsame.mono (by decide) (by decide)⟩
  · show Steps _ _ _ (T7.setTop (mkF m 57 #[rv ra, rv ca, iv 0, iv la, .val .null, rv u3] [])) _
    exact X7.returnOut hx Bd.returns (hb hby d2_57) hr
  · show (Qs Z ra kz (own_inf xs nn 0 0 (List.replicate (2 * nn) (Value.int 0))) (1 : Int32)) h0 n0 _ T7.heap _
    rw [e7]
    exact ⟨_, _, rfl, N7, K7, z_u3, ⟨E7_ra, F7_ra_coder, F7_ra_value, V7_u3⟩⟩
theorem rm_nw (l : Launch) (Z : State) (a0 : Array Value) (hw : ∀ d ∈ tables_1, d.before a0 Z = true) (ws : List Jvm.Cond) (ra : Addr) (ca : Addr) (h0 : Heap) (n0 : Nat) (Z0 : n0 ≤ h0.size) (Y0 : Old Z n0 h0) (zc : Int32) (fm : Value) (S : Sts Z Z.heap zc fm) (la : Int32) (Ea : Exa Z h0 ra "java/lang/String") (Fv : Fld Z h0 ra "java/lang/String" "value" "[B" .null) (Fc : Fld Z h0 ra "java/lang/String" "coder" "B" (.int 0)) (ga : n0 ≤ ra) (kc : ClassId) (vc : List Value) (Ac : Arv Z h0 ca kc .char la vc (Value.int 0)) (kz : Int32) (xs : List Int32) (nn : Nat) (hN : nn ≤ 15) (hla : Int32.ofNat nn = la) (hkz : kz = Int32.ofNat (2 * nn)) (hnb : NB la kz (2 * nn)) (hvc : ∀ i, i < nn → vc.getD i (Value.int 0) = .int (xs.getD i 0)) (hl3 : la.toNatClampNeg = nn) (hl0 : ¬ la < 0) (hn3 : nn ≤ 3) (j : Nat) (hjn : j < nn) (hall : ∀ i, i < j → ¬ (255 : Int32) < xs.getD i 0) (hgt : (255 : Int32) < xs.getD j 0) (hc : own_c16 (xs.getD j 0)) (hu1 : (own_inf xs nn 0 0 (List.replicate (2 * nn) (Value.int 0))).getD (2 * j) (Value.int 0) = .int (StrChars.lo8 (xs.getD j 0))) (hu2 : (own_inf xs nn 0 0 (List.replicate (2 * nn) (Value.int 0))).getD (2 * j + 1) (Value.int 0) = .int (StrChars.hi8 (xs.getD j 0))) (dl : Int32) (hdl : (la - kz) = dl) (hdm : ((dl.toUInt32 >>> ((31 : Int32) &&& 31).toUInt32).toInt32) = (1 : Int32)) (hl1 : ¬ la = (0 : Int32))  :
    MFa l mN48 jdk_42_method_3_code 2 none ws (Room.mk 5 2 35 78) Z h0 n0 #[(.ref ra), (.ref ca)] (Qs Z ra kz (own_inf xs nn 0 0 (List.replicate (2 * nn) (Value.int 0))) (1 : Int32)) := by
  refine MetFree.of_bodySF (plainFor_of_name pn_13) hisR ?_
  intro p e s m args below meth c s₁ Bd hml0 hP hK
  obtain ⟨rfl, hZ, hh⟩ := hP
  have hx := Bd.exec
  have hby := Bd.bytes
  have hml : c.maxLocals = 2 := hml0
  have hown : s.vm.findClass "java/lang/String" = some m.cls := findClass_of_methodNamed Bd.named
  have X0 : Stand p l e (Room.mk 5 2 35 78) s m #[(.ref ra), (.ref ca)] below meth c s₁ [] 0 0 := Stand.of_body Bd
  have e0 : s₁.heap = h0 := by rw [← hh, Bd.state]; rfl
  have N0 := Fr.nil n0
  have pre0 : Pr p e below (s₁.setTop (mkF m 0 #[rv ra, rv ca] [])) (s₁.setTop (entryFrame m #[(.ref ra), (.ref ca)] 2)) := fun t k => castTop (by first | (simp [entryFrame, mkF, argsToLocals, Value.category]; done) | rfl) k
  obtain ⟨cl1, Ar1, -, Sz1, nz1, -, -⟩ := id Ac
  obtain ⟨_, _, ⟨T2, L2, k2, n2⟩, -, X2, ⟨Lc2, hQ2, l2, y2, z2⟩, st2⟩ := X0.specialBack hx (y := mN47) rfl hown (mw hZ hw 8 rfl) (mw hZ hw 9 rfl) (mw hZ hw 11 rfl) (by decide) (backOf (W := 0) (rm_ni l Z a0 hw [] ra ca la h0 n0 (own_old0 Y0) Y0 zc fm S Ea Fv Fc ga kc vc Ac kz xs nn hN hla hkz hnb hvc hl3 hl0 hn3 j hjn hall hgt hc hu1 hu2 dl hdl hdm hl1) hZ (ww hw 11 rfl) (ww hw 4 rfl) (by decide) (by decide)) (g := (mkF m 6 #[rv ra, rv ca] [.null, (.int la), (.int 0), (.ref ca), (.ref ra)])) rfl (by rw [hml]; rfl) (Steps.refl _) (a := ra) (argsL := [(.ref ca), (.int 0), (.int la), .null]) (rest := []) (lenOf pd_30 rfl) rfl own_z (hb hby d1_6) (fun _ _ => ⟨rfl, e0, (by decide : 0 + 2 ≤ _), (by decide : 0 + 35 ≤ _)⟩)
  dsimp only [Pt.U, Pt.locs, Pt.cells, Pt.slots] at X2 l2 y2 z2 st2 hQ2
  rw [y2, z2] at X2
  obtain ⟨u2, ku2, rfl, N2q, Kc2, zz2, Tc2⟩ := hQ2
  have N2 := own_fr l2 N0 N2q
  have K2k : Keep h0 T2.heap [ra] := Keep.trans (Keep.refl h0 [ra]) Kc2 (allS (Or.inl (List.mem_of_getElem? (i := 0) rfl)) all0)
  have z_u2 : h0.size ≤ u2 := Nat.le_trans (Nat.le_refl h0.size) zz2
  have pre3 : Pr p e below (T2.setTop (mkF m 9 #[rv ra, rv ca] [])) (s₁.setTop (entryFrame m #[(.ref ra), (.ref ca)] 2)) := fun t k => pre0 t (by
    show Steps _ _ _ (s₁.setTop (mkF m 0 #[rv ra, rv ca] [])) _
    refine XS.aloadN X0.here hx rfl (hb hby d1_0) rfl rfl ?_
    refine XS.aloadN X0.here hx rfl (hb hby d1_1) rfl rfl ?_
    refine XT.iconstV X0.here hx rfl (0 : Int32) (hb hby d1_2) (by decide) ?_
    refine XS.aloadN X0.here hx rfl (hb hby d1_3) rfl rfl ?_
    refine X0.arraylength hx (by rw [e0]; exact Ar1.1) (State.isArrayOf_alike hZ.alike Ar1.2.1) (g := (mkF m 4 #[rv ra, rv ca] [(.ref ca), (.int 0), (.ref ca), (.ref ra)])) rfl rfl (hb hby d1_4) _ ?_
    rw [len_of Sz1 nz1]
    refine XS.aconstNull X0.here hx rfl (hb hby d1_5) ?_
    refine st2.trans ?_
    exact k)
  obtain ⟨fs, hr, hrun, hended, hW, hsame⟩ := X2.leave (v := none) (fun _ => rfl)
  refine ⟨_, _, pre3 _ ?_, hrun, hended, _, _, rfl, ?_, ⟨_, rfl⟩, hW, hsame.mono (by decide) (by decide)⟩
  · show Steps _ _ _ (T2.setTop (mkF m 9 #[rv ra, rv ca] [])) _
    exact X2.returnOut hx Bd.returns (hb hby d1_9) hr
  · show (Qs Z ra kz (own_inf xs nn 0 0 (List.replicate (2 * nn) (Value.int 0))) (1 : Int32)) h0 n0 _ T2.heap _
    exact ⟨_, _, rfl, N2, K2k, z_u2, ⟨Tc2.1, Tc2.2.1, Tc2.2.2.1, Tc2.2.2.2⟩⟩
theorem own_so : ∀ i, i < 7 → (own_v1 : List Value).getD i (Value.int (0 : Int32)) = .int (StrChars.lo8 ((own_opt : List Int32).getD i 0)) ∧ own_ch ((own_opt : List Int32).getD i 0)
  | 0, _ => ⟨rfl, by decide, by decide⟩
  | 1, _ => ⟨rfl, by decide, by decide⟩
  | 2, _ => ⟨rfl, by decide, by decide⟩
  | 3, _ => ⟨rfl, by decide, by decide⟩
  | 4, _ => ⟨rfl, by decide, by decide⟩
  | 5, _ => ⟨rfl, by decide, by decide⟩
  | 6, _ => ⟨rfl, by decide, by decide⟩
  | n + 7, h => absurd h (by omega)
theorem own_ss : ∀ i, i < 15 → (own_vf : List Value).getD i (Value.int (0 : Int32)) = .int (StrChars.lo8 ((own_suf : List Int32).getD i 0)) ∧ own_ch ((own_suf : List Int32).getD i 0)
  | 0, _ => ⟨rfl, by decide, by decide⟩
  | 1, _ => ⟨rfl, by decide, by decide⟩
  | 2, _ => ⟨rfl, by decide, by decide⟩
  | 3, _ => ⟨rfl, by decide, by decide⟩
  | 4, _ => ⟨rfl, by decide, by decide⟩
  | 5, _ => ⟨rfl, by decide, by decide⟩
  | 6, _ => ⟨rfl, by decide, by decide⟩
  | 7, _ => ⟨rfl, by decide, by decide⟩
  | 8, _ => ⟨rfl, by decide, by decide⟩
  | 9, _ => ⟨rfl, by decide, by decide⟩
  | 10, _ => ⟨rfl, by decide, by decide⟩
  | 11, _ => ⟨rfl, by decide, by decide⟩
  | 12, _ => ⟨rfl, by decide, by decide⟩
  | 13, _ => ⟨rfl, by decide, by decide⟩
  | 14, _ => ⟨rfl, by decide, by decide⟩
  | n + 15, h => absurd h (by omega)
theorem own_infl (cs : List Int32) : ∀ (r k q : Nat) (vd : List Value), (own_inf cs r k q vd).length = vd.length
  | 0, _, _, _ => rfl
  | r + 1, k, q, vd => by rw [own_inf, own_infl cs r]; simp
abbrev own_ue : String := "com/example/tidegauge/tidegauge/UsageException"
def own_thr : List Jvm.Cond := [.initialized tN, .superclass tN "java/lang/Object", .instanceMethod tFill, .codeSync tFill LibCode.Throwable.Fill.code 1 (some (.object tN)), .instanceMethod tFill0, .native tFill0, .instanceMethod oInit, .code oInit ⟨#[0xb1]⟩ 1 none,
  .methodLink tN 1 oInit, .methodLink tN 27 tFill, .methodLink tN 202 tFill0, .fieldLink tN 7 tN "cause" "Ljava/lang/Throwable;", .lays tN tN "cause" "Ljava/lang/Throwable;", .fieldLink tN 17 tN "stackTrace" steD, .lays tN tN "stackTrace" steD,
  .fieldLink tN 24 tN "suppressedExceptions" listD, .lays own_ue tN "suppressedExceptions" listD, .fieldLink tN 13 tN "UNASSIGNED_STACK" steD, .laysStatic tN "UNASSIGNED_STACK" steD, .fieldLink tN 20 tN "SUPPRESSED_SENTINEL" listD, .laysStatic tN "SUPPRESSED_SENTINEL" listD, .lays tN tN "detailMessage" "Ljava/lang/String;", .lays own_ue tN "stackTrace" steD]
/-- the record of Throwable's parts out of this sheet's words: the word on suppressedExceptions is the one on UsageException (the library's bundle asks Throwable's own, which this sheet has not got) -/
theorem own_links {args : Array Value} {s : State} {pl : Platform} (howns : pl.frameOwnsMonitors = true) (hfin : pl.finalization = false) (hpl : pl.magicAccessors = ({} : Platform).magicAccessors) (a : ∀ c ∈ own_thr, c.before args s = true) :
    ∃ T : ThrowableC, T.Links pl s ∧ s.vm.findClass tN = some T.cT ∧ s.methodNamed? tFill = some T.fill ∧ s.methodNamed? tFill0 = some T.fill0 ∧ s.fieldFound? tN "stackTrace" steD = some (T.cT, T.kT, T.i17, T.fStack) ∧ s.fieldFound? tN "UNASSIGNED_STACK" steD = some (T.cT, T.kT, T.i13, T.fUnassigned) ∧ T.fStack.name = "stackTrace" ∧ T.fStack.type = .array (.object "java/lang/StackTraceElement") := by
  have w : ∀ (i : Nat) (d : Jvm.Cond), own_thr[i]? = some d → d.holds args s none s [] = true := fun i d h => a d (List.mem_of_getElem? h)
  obtain ⟨⟨c, i0⟩, M0, n0, m0, nat0, cd0, lk0, sg0⟩ := Cond.native_spec (w 5 _ rfl)
  have hc : s.vm.findClass tN = some c := findClass_of_methodNamed n0
  obtain ⟨k, hk, hname⟩ := Vm.findClass_spec hc
  obtain ⟨-, k1, -, -, hk1, -, -, -, -, hni⟩ := Cond.superclass_spec hc (w 1 _ rfl)
  cases hk.symm.trans hk1
  obtain ⟨iF, MF, nF, mF, atF, stF, abF, -, -⟩ := Cond.ownMethod (x := tFill) hc hk (w 2 _ rfl)
  obtain ⟨MF', cF, mF', gF, bF, lF, rF, lkF, -, sgF⟩ := Cond.codeSync_spec nF (w 3 _ rfl)
  cases mF.symm.trans mF'
  obtain ⟨j0, M0', q0, q0', at0, st0, ab0, nm0, ds0⟩ := Cond.ownMethod (x := tFill0) hc hk (w 4 _ rfl)
  cases n0.symm.trans q0
  cases m0.symm.trans q0'
  obtain ⟨mO, MO, nO, qO, stO, abO⟩ := Cond.instanceMethod_spec (w 6 _ rfl)
  obtain ⟨MO', cO, qO', gO, bO, lO, -, lkO, -, sgO⟩ := Cond.code_spec nO (w 7 _ rfl)
  cases qO.symm.trans qO'
  obtain ⟨kO, hkO, nmO⟩ := Vm.findClass_spec (findClass_of_methodNamed nO)
  obtain ⟨nmo, dso⟩ := name_of_methodNamed nO qO
  obtain ⟨c1, n1, f1, l1, r1, cf1, p1⟩ := Cond.linkedMethod hc hk nO (w 8 _ rfl) pl hpl
  obtain ⟨c27, n27, f27, l27, r27, cf27, p27⟩ := Cond.linkedMethod hc hk nF (w 9 _ rfl) pl hpl
  cases cf1.symm.trans cf27
  obtain ⟨c202, n202, f202, l202, r202, cf202, p202⟩ := Cond.linkedMethod hc hk n0 (w 10 _ rfl) pl hpl
  cases cf1.symm.trans cf202
  obtain ⟨c7, i7, F7, l7, r7, a7, s7, f7, -, -, -⟩ := Cond.ownField (t := .object tN) hc hk (by decide +kernel) (w 11 _ rfl) (w 12 _ rfl) pl hpl
  obtain ⟨c17, i17, F17, l17, r17, a17, s17, f17, nm17, ty17, ff17⟩ := Cond.ownField (t := .array (.object "java/lang/StackTraceElement")) hc hk (by decide +kernel) (w 13 _ rfl) (w 14 _ rfl) pl hpl
  obtain ⟨c24, i24, F24, l24, r24, a24, s24, f24, nm24, -, ff24⟩ := Cond.ownField (t := .object "java/util/List") hc hk (by decide +kernel) (w 15 _ rfl) (w 16 _ rfl) pl hpl
  obtain ⟨c13, i13, F13, aS, -, l13, r13, a13, s13, -, -, sta, -, -, -, -, ff13⟩ := Cond.ownStatic (t := .array (.object "java/lang/StackTraceElement")) hc hk (by decide +kernel) (w 17 _ rfl) (w 18 _ rfl) pl hpl
  obtain ⟨c20, i20, F20, -, -, l20, r20, a20, s20, -⟩ := Cond.ownStatic (t := .object "java/util/List") hc hk (by decide +kernel) (w 19 _ rfl) (w 20 _ rfl) pl hpl
  obtain ⟨-, -, -, -, -, FM, -, -, -, sM, fM, -⟩ := Cond.lays_spec (w 21 _ rfl)
  obtain ⟨cX, kX, -, -, -, -, hX, hkX, -⟩ := Cond.lays_spec (w 22 _ rfl)
  obtain ⟨-, d17, e17, g17⟩ := Cond.laysAt hX hkX ff17 (w 22 _ rfl)
  obtain ⟨-, d24, e24, g24⟩ := Cond.laysAt hX hkX ff24 (w 16 _ rfl)
  have apart := Cond.laysApart e17 e24 g17 g24 (by rw [nm17, nm24]; decide)
  have pF : MF.sig.parameters = [] := by
    have q : (parseMethodDescriptor tFill.desc).map (·.parameters) = some [] := by decide +kernel
    rw [sgF] at q; simpa using q
  have p0 : M0.sig.parameters = [.int] := by
    have q : (parseMethodDescriptor tFill0.desc).map (·.parameters) = some [.int] := by decide +kernel
    rw [sg0] at q; simpa using q
  have pO : MO.sig.parameters.length = 0 := by
    have q : (parseMethodDescriptor oInit.desc).map (fun x => x.parameters.length) = some 0 := by decide +kernel
    rw [sgO] at q; simpa using q
  refine ⟨{ cT := c, kT := k, cO := c, aS := aS, fillIdx := iF, fill0Idx := i0, initSIdx := iF, obj := mO, kObj := kO, methFill := MF, methFill0 := M0, methInitS := MF, methObj := MO, codeFill := cF, codeInitS := cF, codeObj := cO, fBack := F7, fDepth := F7, fStack := F17, fCause := F7, fSupp := F24, fMsg := FM, fUnassigned := F13, fSentinel := F20, cfT := f1, ci1 := c1, n1 := n1, ci27 := c27, n27 := n27, ci202 := c202, n202 := n202, ci7 := c7, i7 := i7, ci13 := c13, i13 := i13, ci17 := c17, i17 := i17, ci20 := c20, i20 := i20, ci24 := c24, i24 := i24 }, ?_, hc, nF, n0, ff17, ff13, nm17, ty17⟩
  constructor <;> first | assumption | rfl | skip
  · exact Vm.findClass_boot hc hk
  · exact Cond.initialized_spec hc hk (w 0 _ rfl)
  · show lookupSpecial s.vm mO.cls "<init>" MO.desc = .method mO
    rw [dso]; exact lookupSpecial_of_named nO qO stO
theorem own_keepA {p : Program} {l : Launch} {e : Env} {R : Room} {s : State} {m : MethodId} {args : Array Value} {below : List Frame} {meth : Method} {c : Code} {T : State} {locs : List Loc} {cells slots : Nat} {a : Addr} (X : Stand p l e R s m args below meth c T locs cells slots) (hL : ∀ y ∈ locs, y.base = a) : Keep s.heap T.heap [a] := by
  refine ⟨X.same.2.1, fun x cl q r => ?_, fun x cl q => ?_⟩
  · obtain ⟨c', h1, h2, -, h4⟩ := X.same.2.2.2.2.2 x cl q
    have hsl : c'.slots = cl.slots := Array.ext_getElem? fun i => h4 i fun hm => r (by rw [← hL _ hm]; exact List.mem_singleton.mpr rfl)
    have hcc : c' = cl := by rw [h2, hsl]
    rw [← hcc]; exact h1
  · obtain ⟨c', h1, h2, h3, -⟩ := X.same.2.2.2.2.2 x cl q
    exact ⟨c', h1, by rw [h2], by rw [h2], h3⟩
theorem own_fill {p : Program} {l : Launch} {e : Env} {R : Room} {s : State} {m : MethodId} {args : Array Value} {below : List Frame} {meth : Method} {c : Code} {T Z : State} {a0 : Array Value} {locs : List Loc} {cells slots : Nat} {h0 h : Heap} (hw : ∀ d ∈ tables_1, d.before a0 Z = true)
    (X : Stand p l e R s m args below meth c T locs cells slots) (hx : p.tables.exec = Jvm.exec) (hl : l.stackTraces = true) (hZ : Z.Warmed39 s.vm) (hown : s.vm.findClass "java/lang/Throwable" = some m.cls) (hTK : s.vm.MethodsKnown) (hBelow : s.vm.FramesKnown below) (hs0 : s.heap = h0) (hT0 : ThS Z h0) (eT : T.heap = h)
    {a ua : Addr} (E : Exa Z h a own_ue) (N : Unt h a) (Fs : Fld Z h a tN "stackTrace" steD (.ref ua)) (SU : Sta Z h tN "UNASSIGNED_STACK" steD (.ref ua)) (Fb : Fld Z h a tN "backtrace" "Ljava/lang/Object;" .null) (Fd : Fld Z h a tN "detailMessage" "Ljava/lang/String;" .null) (hL : ∀ y ∈ locs, y.base = a)
    {g : JFrame} (hg : g.method = m) (hsize : g.locals.size = c.maxLocals) {rest : List Value} (hs : g.stack = .ref a :: rest) (hd : decode c.code g.pc = .ok (.invokevirtual 27, 3)) {W : Nat} (hW : 2 * g.monitorRoom + (rest.map fun v => v.category).sum ≤ W) (hf : 2 < R.frames) (hlo : W + 42 ≤ R.locals) (hc : cells + 1 ≤ R.cells) (hsl : slots + 2752 ≤ R.slots) :
    ∃ (T' : State) (h' : Heap) (L : List Loc), Stand p l e R s m args below meth c T' L (cells + 1) (slots + 2752) ∧ T'.heap = h' ∧ (∀ y ∈ L, y.base = a) ∧ Exa Z h' a own_ue ∧ Fld Z h' a tN "detailMessage" "Ljava/lang/String;" .null ∧ ∀ target, Steps p.tables e below (T'.setTop { g with pc := g.pc + 3, stack := .ref a :: rest }) target → Steps p.tables e below (T.setTop g) target := by
  have hTs : ThS Z s.heap := by rw [hs0]; exact hT0
  have htr : e.platform.stackTraces = true := by rw [X.admits.platform]; exact hl
  have howns : e.platform.frameOwnsMonitors = true := by rw [X.admits.platform]
  have hfin : e.platform.finalization = false := by rw [X.admits.platform]
  have hpl : e.platform.magicAccessors = ({} : Platform).magicAccessors := by rw [X.admits.platform]
  have M : ∀ (i : Nat) (d : Jvm.Cond), tables_1[i]? = some d → xOk d = true → d.holds args s none s [] = true := fun i d h ok => mvX hTs hZ ok (ww hw i h)
  obtain ⟨TC, L, hcT, nF, n0, ffS, ffU, nmS, tyS⟩ := own_links (args := args) (s := s) howns hfin hpl (by
    intro d hd
    simp only [own_thr, List.mem_cons, List.not_mem_nil, or_false] at hd
    rcases hd with rfl | rfl | rfl | rfl | rfl | rfl | rfl | rfl | rfl | rfl | rfl | rfl | rfl | rfl | rfl | rfl | rfl | rfl | rfl | rfl | rfl | rfl | rfl
    · exact M 181 _ rfl rfl
    · exact M 199 _ rfl rfl
    · exact M 194 _ rfl rfl
    · exact M 200 _ rfl rfl
    · exact M 201 _ rfl rfl
    · exact M 202 _ rfl rfl
    · exact M 13 _ rfl rfl
    · exact M 14 _ rfl rfl
    · exact M 183 _ rfl rfl
    · exact M 192 _ rfl rfl
    · exact M 205 _ rfl rfl
    · exact M 184 _ rfl rfl
    · exact M 206 _ rfl rfl
    · exact M 187 _ rfl rfl
    · exact M 207 _ rfl rfl
    · exact M 190 _ rfl rfl
    · exact M 191 _ rfl rfl
    · exact M 186 _ rfl rfl
    · exact M 212 _ rfl rfl
    · exact M 189 _ rfl rfl
    · exact M 213 _ rfl rfl
    · exact M 208 _ rfl rfl
    · exact M 188 _ rfl rfl)
  obtain ⟨cell, k1, k2, k3⟩ := N
  obtain ⟨cE, kX, e1, e2, e3, -, e5⟩ := E
  cases k1.symm.trans e1
  have hal := hZ.alike
  have hfound : s.vm.findClass own_ue = some cell.cls := by rw [hal.findClass]; exact e2
  obtain ⟨kY, hkY, ekY⟩ := hal.2.2 _ _ e3
  obtain ⟨cI, kI, i1, i2, i3, -⟩ := Cond.instantiable_spec (hw _ (List.mem_of_getElem? (i := 36) rfl))
  cases e2.symm.trans i1
  cases e3.symm.trans i2
  have hord : kY.kind = .ordinary := by rw [ekY]; exact i3
  have hsz : cell.slots.size = kY.instanceTypes.size := by rw [ekY]; exact e5 i3
  have ff : ∀ {C n d : String} {cf i : Nat} {k : Class} {f : Field}, Z.fieldFound? C n d = some (cf, k, i, f) → ∃ k', s.fieldFound? C n d = some (cf, k', i, f) := fun q => by
    obtain ⟨k', q', -⟩ := State.fieldFound?_setVm (s := Z) hal q
    exact ⟨k', q'⟩
  -- the field stackTrace and the static
  obtain ⟨_, _, _, _, fS, a1, a2, -, -, -, -, a7⟩ := Fs
  cases k1.symm.trans a1
  obtain ⟨_, a2'⟩ := ff a2
  cases a2'.symm.trans ffS
  obtain ⟨_, _, kU, fU, stU, cellS, b1, -, -, b4, b5, b6, b7⟩ := SU
  obtain ⟨kU', b1', ekU⟩ := State.fieldFound?_setVm (s := Z) hal b1
  cases (show s.fieldFound? tN "UNASSIGNED_STACK" steD = _ from b1').symm.trans ffU
  have hst : TC.aS = stU := by
    have q := L.statics
    rw [ekU] at q
    exact Option.some.inj (q.symm.trans b4)
  have hneS : TC.aS ≠ a := fun q => by
    rw [hst] at q; subst q
    cases k1.symm.trans b5
    rw [k2] at b6; cases b6
  have hsel0 : selectMethod e.platform s.vm cell.cls TC.fill0 = .method TC.fill0 := by
    obtain ⟨c2, r2, m2, q1, q2, q3, q4, -⟩ := Cond.selects_spec (M 214 _ rfl rfl)
    cases Option.some.inj (q1.symm.trans hfound)
    cases Option.some.inj (q2.symm.trans (State.methodFound?_of_named n0 (by decide)))
    cases Option.some.inj (q3.symm.trans n0)
    rw [Launch.admits_selectMethod X.admits]; exact q4
  obtain ⟨ci198, i198, fB, hk198, hg198, ha198, hsB, -, hnB, htB, hffB⟩ := Cond.ownField (t := .object "java/lang/Object") hcT L.cls (by decide +kernel) (M 210 _ rfl rfl) (M 211 _ rfl rfl) e.platform hpl
  obtain ⟨_, _, _, _, fB', c1, c2, -, -, -, -, c7⟩ := Fb
  cases k1.symm.trans c1
  obtain ⟨_, c2'⟩ := ff c2
  cases c2'.symm.trans hffB
  obtain ⟨_, _, cD, kD, iD, fD, -, -, hffD, hstD, -⟩ := Cond.lays_spec (M 217 _ rfl rfl)
  cases Option.some.inj ((Cond.lays_declared (M 217 _ rfl rfl) hffD).symm.trans hcT)
  obtain ⟨hkD, hatD⟩ := State.fieldFound?_spec hffD
  cases Option.some.inj (hkD.symm.trans L.cls)
  obtain ⟨hnD, htD⟩ := State.fieldFound?_type hffD (t := .int) (by decide +kernel)
  have hfb := Cond.soleField_find hcT L.cls (M 197 _ rfl rfl) ha198 hnB hsB
  have hfd := Cond.soleField_find hcT L.cls (M 198 _ rfl rfl) hatD hnD hstD
  obtain ⟨comp, cO, kO, -, -, hkO, hkindO, hO⟩ := Cond.arrayOver_spec (M 196 _ rfl rfl)
  obtain ⟨tS, dS, gS, nS⟩ := Cond.laysAt hfound hkY ffS (M 188 _ rfl rfl)
  obtain ⟨tB, dB, gB, nB⟩ := Cond.laysAt hfound hkY hffB (M 216 _ rfl rfl)
  obtain ⟨tD, dD, gD, nD⟩ := Cond.laysAt hfound hkY hffD (M 217 _ rfl rfl)
  -- the field detailMessage
  obtain ⟨cM', cfM, kM, iM, fM, d1, d2, d3, d4, d5, d6, d7⟩ := Fd
  cases k1.symm.trans d1
  obtain ⟨kM', d2'⟩ := ff d2
  have nmM : fM.name = "detailMessage" := (State.fieldFound?_type d2' (t := .object "java/lang/String") (by decide +kernel)).1
  obtain ⟨tM, dM, gM, nM⟩ := Cond.laysAt hfound hkY d2' (M 215 _ rfl rfl)
  have mB := Cond.laysApart gM gB nM nB (by rw [nmM, hnB]; decide)
  have mD := Cond.laysApart gM gD nM nD (by rw [nmM, hnD]; decide)
  have mS := Cond.laysApart gM gS nM nS (by rw [nmM, nmS]; decide)
  have tk : ∀ {f : Field} {v : Value}, kY.instanceTypes[f.slot]? = some f.type → fits f.type v = true → Jvm.Takes s cell f v := fun {f v} q1 q2 => by
    obtain ⟨q3, q4⟩ := Takes.of_laid (v := v) hkY hord q1 q2
    exact ⟨by rw [hsz]; simpa using q3, by rw [k2]; exact q4⟩
  have hSE : (Jvm.Cond.selects own_ue tFill tFill).before args s = true := (M 195 _ rfl rfl)
  obtain ⟨v6, vm6, ⟨T6, L6, c6, n6⟩, -, X6, ⟨hv6, C6, n, hn, hD6, q1, q2, q3, q4, hL6, hc6, hn6⟩, st6⟩ := X.virtualBack hx (own := tN) (C := own_ue) (index := 27) (y := tFill) (z := tFill) hown (M 192 _ rfl rfl) (M 193 _ rfl rfl) (notFace_of_selects hSE) hSE (M 194 _ rfl rfl) (by decide)
    (Jvm.Free.Exc.fillPaysAny (l := l) (W := W) hx htr TC L nF (u0 := ⟨.ref ua, rfl⟩) (self := a) (cell := cell) (cellS := cellS) (fun _ => by rw [k2]; simp) (by rw [k2]; simp) (by rw [k3]) (by rw [k3]) a7 hsel0 hneS (fun q => by rw [q] at b6; cases b6) b7 (tk tS (by rw [tyS]; rfl))
      ⟨{ ci198 := ci198, i198 := i198, fBack := fB }, ⟨hk198, hg198, ha198, hsB⟩, c7⟩ hTK hBelow hcT hO hkO hkindO hfb hfd (fun x => tk tB (by rw [htB]; rfl)) (fun x => tk tD (by rw [htD]; rfl)) hf hlo)
    (b := a) (cB := cell.cls) hfound ⟨cell, by rw [eT]; exact k1, rfl, by rw [k2]; rfl⟩ (g := g) hg hsize (Steps.refl _) (argsL := []) (rest := rest)
    (fun sig q => by rw [show parseMethodDescriptor tFill.desc = some ⟨[], some (.object tN)⟩ from by decide +kernel] at q; rw [← Option.some.inj q]; rfl) hs hW hd
    (fun vmx hWx => ⟨rfl, hc, hsl, by show T.heap[a]? = _; rw [eT]; exact k1, by show T.heap[TC.aS]? = _; rw [eT, hst]; exact b5⟩)
  dsimp only [Pt.U, Pt.locs, Pt.cells, Pt.slots] at X6 hD6 hL6 hc6 hn6 st6
  subst hv6 hL6 hc6 hn6
  refine ⟨T6, T6.heap, _, X6.more (Nat.le_refl _) (Nat.add_le_add_left hn _), rfl, fun y hy => ?_, ?_, ?_, fun target q => st6.trans q⟩
  · rcases List.mem_append.mp hy with q | q
    · exact hL y q
    · simp only [List.mem_cons, List.not_mem_nil, or_false] at q
      rcases q with rfl | rfl | rfl <;> rfl
  · exact ⟨C6, kX, hD6, by rw [q1]; exact e2, by rw [q1]; exact e3, by rw [q2, k2]; rfl, fun o => by rw [q3]; exact e5 o⟩
  · exact ⟨C6, cfM, kM, iM, fM, hD6, d2, d3, by rw [q2]; exact d4, by rw [q2]; exact d5, by rw [q1]; exact d6, by rw [q4 _ mB mD mS]; exact d7⟩
theorem own_bsn {p : Program} {l : Launch} {e : Env} {R : Room} {s : State} {m : MethodId} {args : Array Value} {below : List Frame} {meth : Method} {c : Code} {T : State} {locs : List Loc} {cells slots sl : Nat} {a : Addr} (X : Stand p l e R s m args below meth c T (locs ++ [⟨a, sl⟩]) cells slots) (hb : ∀ y ∈ locs, y.base = a) : ∀ y ∈ locs ++ [⟨a, sl⟩], y.base = a := fun y hy => by
  rcases List.mem_append.mp hy with q | q
  · exact hb y q
  · cases List.mem_singleton.mp q; rfl
theorem pn_35 : plainName "java/lang/Throwable" = true := by first | (simp [plainName, overriddenIn]; done) | decide +kernel
theorem rm_ti (l : Launch) (Z : State) (a0 : Array Value) (hw : ∀ d ∈ tables_1, d.before a0 Z = true) (ws : List Jvm.Cond) (ea : Addr) (ma : Addr) (h0 : Heap) (n0 : Nat) (Z0 : n0 ≤ h0.size) (Y0 : Old Z n0 h0) (zc : Int32) (fm : Value) (S : Sts Z Z.heap zc fm) (hl : l.stackTraces = true) (ua us : Addr) (SU : Sta Z Z.heap "java/lang/Throwable" "UNASSIGNED_STACK" "[Ljava/lang/StackTraceElement;" (.ref ua)) (SS : Sta Z Z.heap "java/lang/Throwable" "SUPPRESSED_SENTINEL" "Ljava/util/List;" (.ref us)) (Ex : EX Z h0 ea) (ge : n0 ≤ ea)  :
    MetFree l mN49 (head1 (Jvm.Cond.code mN49 jdk_78_method_2_code 2 none :: ws) (Room.mk 3 1 2752 42)) (fun a U => a = #[(.ref ea), (.ref ma)] ∧ Z.Warmed39 U.vm ∧ U.heap = h0) (fun _ _ bl s _ => s.vm.MethodsKnown ∧ s.vm.FramesKnown bl) (fun _ U o U' => ∃ v L, o = .returned v ∧ (Qu Z ea ma) h0 n0 v U'.heap L ∧ FrameEnd U o U' L (Room.mk 3 1 2752 42).cells (Room.mk 3 1 2752 42).slots) := by
  refine MetFree.of_bodySF (plainFor_of_name pn_35) hisR ?_
  intro p e s m args below meth c s₁ Bd hml0 hP hK
  obtain ⟨rfl, hZ, hh⟩ := hP
  have hx := Bd.exec
  have hby := Bd.bytes
  have hml : c.maxLocals = 2 := hml0
  have hown : s.vm.findClass "java/lang/Throwable" = some m.cls := findClass_of_methodNamed Bd.named
  have X0 : Stand p l e (Room.mk 3 1 2752 42) s m #[(.ref ea), (.ref ma)] below meth c s₁ [] 0 0 := Stand.of_body Bd
  have e0 : s₁.heap = h0 := by rw [← hh, Bd.state]; rfl
  have pre0 : Pr p e below (s₁.setTop (mkF m 0 #[rv ea, rv ma] [])) (s₁.setTop (entryFrame m #[(.ref ea), (.ref ma)] 2)) := fun t k => castTop (by first | (simp [entryFrame, mkF, argsToLocals, Value.category]; done) | rfl) k
  have B0 : ∀ y ∈ ([] : List Loc), y.base = ea := fun _ q => nomatch q
  obtain ⟨T1, X1, e1, st1⟩ := initO X0 hx hZ hown (ww hw 183 rfl) (ww hw 13 rfl) (ww hw 14 rfl) e0 (g := (mkF m 1 #[rv ea, rv ma] [(.ref ea)])) rfl (by rw [hml]; rfl) rfl (hb hby d35_1) (by decide) (W := 0) own_z (by decide)
  obtain ⟨T2, h2, X2, e2, W2, st2⟩ := putF X1 hx hZ hown (host := "") (Or.inl (ww hw 184 rfl)) Via.refl e1 Ex.2.2.1 Ex.1 (Or.inl (ww hw 185 rfl)) (ww hw 36 rfl) (ty := (.object "java/lang/Throwable")) (by decide) rfl rfl (g := (mkF m 6 #[rv ea, rv ma] [(.ref ea), (.ref ea)])) rfl rfl (hb hby d35_6)
  have B2 := own_bsn X2 B0
  have U2 := Unt.wr W2 Ex.2.1
  have E2_ea := Ex.1.wr W2
  have F2_ea_stackTrace := Ex.2.2.2.1.other W2 (Or.inr (slot_ne (Or.inl (ww hw 188 rfl)) (Or.inl (ww hw 185 rfl)) (by decide) (t := (.array (.object "java/lang/StackTraceElement"))) (t' := (.object "java/lang/Throwable")) (by decide) (by decide)))
  have F2_ea_suppressedExceptions := Ex.2.2.2.2.1.other W2 (Or.inr (slot_ne (Or.inl (ww hw 191 rfl)) (Or.inl (ww hw 185 rfl)) (by decide) (t := (.object "java/util/List")) (t' := (.object "java/lang/Throwable")) (by decide) (by decide)))
  have F2_ea_backtrace := Ex.2.2.2.2.2.1.other W2 (Or.inr (slot_ne (Or.inl (ww hw 216 rfl)) (Or.inl (ww hw 185 rfl)) (by decide) (t := (.object "java/lang/Object")) (t' := (.object "java/lang/Throwable")) (by decide) (by decide)))
  have F2_ea_detailMessage := Ex.2.2.2.2.2.2.other W2 (Or.inr (slot_ne (Or.inl (ww hw 215 rfl)) (Or.inl (ww hw 185 rfl)) (by decide) (t := (.object "java/lang/String")) (t' := (.object "java/lang/Throwable")) (by decide) (by decide)))
  have Y2 := Old.wr Y0 W2 ge
  obtain ⟨T3, X3, e3, st3⟩ := getS2 X2 hx hZ hown (host := "") (Or.inl (ww hw 186 rfl)) Via.refl e2 (SU.ext Y2.2) (g := (mkF m 10 #[rv ea, rv ma] [(.ref ea)])) rfl (hb hby d35_10)
  obtain ⟨T4, h4, X4, e4, W4, st4⟩ := putF X3 hx hZ hown (host := "") (Or.inl (ww hw 187 rfl)) Via.refl e3 F2_ea_stackTrace E2_ea (Or.inl (ww hw 188 rfl)) (ww hw 36 rfl) (ty := (.array (.object "java/lang/StackTraceElement"))) (by decide) rfl rfl (g := (mkF m 13 #[rv ea, rv ma] [(.ref ua), (.ref ea)])) rfl rfl (hb hby d35_13)
  have B4 := own_bsn X4 B2
  have U4 := Unt.wr W4 U2
  have E4_ea := E2_ea.wr W4
  have F4_ea_stackTrace := F2_ea_stackTrace.same W4
  have F4_ea_suppressedExceptions := F2_ea_suppressedExceptions.other W4 (Or.inr (slot_ne (Or.inl (ww hw 191 rfl)) (Or.inl (ww hw 188 rfl)) (by decide) (t := (.object "java/util/List")) (t' := (.array (.object "java/lang/StackTraceElement"))) (by decide) (by decide)))
  have F4_ea_backtrace := F2_ea_backtrace.other W4 (Or.inr (slot_ne (Or.inl (ww hw 216 rfl)) (Or.inl (ww hw 188 rfl)) (by decide) (t := (.object "java/lang/Object")) (t' := (.array (.object "java/lang/StackTraceElement"))) (by decide) (by decide)))
  have F4_ea_detailMessage := F2_ea_detailMessage.other W4 (Or.inr (slot_ne (Or.inl (ww hw 215 rfl)) (Or.inl (ww hw 188 rfl)) (by decide) (t := (.object "java/lang/String")) (t' := (.array (.object "java/lang/StackTraceElement"))) (by decide) (by decide)))
  have Y4 := Old.wr Y2 W4 ge
  obtain ⟨T5, X5, e5, st5⟩ := getS2 X4 hx hZ hown (host := "") (Or.inl (ww hw 189 rfl)) Via.refl e4 (SS.ext Y4.2) (g := (mkF m 17 #[rv ea, rv ma] [(.ref ea)])) rfl (hb hby d35_17)
  obtain ⟨T6, h6, X6, e6, W6, st6⟩ := putF X5 hx hZ hown (host := "") (Or.inl (ww hw 190 rfl)) Via.refl e5 F4_ea_suppressedExceptions E4_ea (Or.inl (ww hw 191 rfl)) (ww hw 36 rfl) (ty := (.object "java/util/List")) (by decide) rfl rfl (g := (mkF m 20 #[rv ea, rv ma] [(.ref us), (.ref ea)])) rfl rfl (hb hby d35_20)
  have B6 := own_bsn X6 B4
  have U6 := Unt.wr W6 U4
  have E6_ea := E4_ea.wr W6
  have F6_ea_stackTrace := F4_ea_stackTrace.other W6 (Or.inr (slot_ne (Or.inl (ww hw 188 rfl)) (Or.inl (ww hw 191 rfl)) (by decide) (t := (.array (.object "java/lang/StackTraceElement"))) (t' := (.object "java/util/List")) (by decide) (by decide)))
  have F6_ea_backtrace := F4_ea_backtrace.other W6 (Or.inr (slot_ne (Or.inl (ww hw 216 rfl)) (Or.inl (ww hw 191 rfl)) (by decide) (t := (.object "java/lang/Object")) (t' := (.object "java/util/List")) (by decide) (by decide)))
  have F6_ea_detailMessage := F4_ea_detailMessage.other W6 (Or.inr (slot_ne (Or.inl (ww hw 215 rfl)) (Or.inl (ww hw 191 rfl)) (by decide) (t := (.object "java/lang/String")) (t' := (.object "java/util/List")) (by decide) (by decide)))
  have Y6 := Old.wr Y4 W6 ge
  obtain ⟨T7, h7, L7, X7, e7, B7, Ec7, Fc7, st7⟩ := own_fill (W := 0) hw X6 hx hl hZ hown hK.1 hK.2 hh (ThS.ext Y0.2 ThS.start) e6 E6_ea U6 F6_ea_stackTrace (SU.ext Y6.2) F6_ea_backtrace F6_ea_detailMessage B6 (g := (mkF m 24 #[rv ea, rv ma] [(.ref ea)])) rfl (by rw [hml]; rfl) rfl (hb hby d35_24) own_z (by decide) (by decide) (by decide) (by decide)
  have K7 : Keep h0 h7 [ea] := by rw [← e7, ← hh]; exact own_keepA X7 B7
  have N7 : Fr n0 L7 := fun y hy => by rw [B7 y hy]; exact ge
  have pre8 : Pr p e below (T7.setTop (mkF m 27 #[rv ea, rv ma] [(.ref ea)])) (s₁.setTop (entryFrame m #[(.ref ea), (.ref ma)] 2)) := fun t k => pre0 t (by
    show Steps _ _ _ (s₁.setTop (mkF m 0 #[rv ea, rv ma] [])) _
    refine XS.aloadN X0.here hx rfl (hb hby d35_0) rfl rfl ?_
    refine st1 _ ?_
    refine XS.aloadN X1.here hx rfl (hb hby d35_4) rfl rfl ?_
    refine XS.aloadN X1.here hx rfl (hb hby d35_5) rfl rfl ?_
    refine st2 _ ?_
    refine XS.aloadN X2.here hx rfl (hb hby d35_9) rfl rfl ?_
    refine st3 _ ?_
    refine st4 _ ?_
    refine XS.aloadN X4.here hx rfl (hb hby d35_16) rfl rfl ?_
    refine st5 _ ?_
    refine st6 _ ?_
    refine XS.aloadN X6.here hx rfl (hb hby d35_23) rfl rfl ?_
    refine st7 _ ?_
    exact k)
  obtain ⟨T9, h9, X9, e9, W9, st9⟩ := putF X7 hx hZ hown (host := "") (Or.inl (ww hw 219 rfl)) Via.refl e7 Fc7 Ec7 (Or.inl (ww hw 215 rfl)) (ww hw 36 rfl) (ty := (.object "java/lang/String")) (by decide) rfl rfl (g := (mkF m 30 #[rv ea, rv ma] [(.ref ma), (.ref ea)])) rfl rfl (hb hby d35_30)
  have E9_ea := Ec7.wr W9
  have F9_ea_detailMessage := Fc7.same W9
  have K9 : Keep h0 h9 [ea] := K7.wr W9 (Or.inl (List.mem_of_getElem? (i := 0) rfl))
  have N9 := Fr.snoc X9 N7 ge
  have pre10 : Pr p e below (T9.setTop (mkF m 33 #[rv ea, rv ma] [])) (s₁.setTop (entryFrame m #[(.ref ea), (.ref ma)] 2)) := fun t k => pre8 t (by
    show Steps _ _ _ (T7.setTop (mkF m 27 #[rv ea, rv ma] [(.ref ea)])) _
    refine XS.pop X7.here hx rfl (hb hby d35_27) rfl rfl ?_
    refine XS.aloadN X7.here hx rfl (hb hby d35_28) rfl rfl ?_
    refine XS.aloadN X7.here hx rfl (hb hby d35_29) rfl rfl ?_
    refine st9 _ ?_
    exact k)
  obtain ⟨fs, hr, hrun, hended, hW, hsame⟩ := X9.leave (v := none) (fun _ => rfl)
  refine ⟨_, _, pre10 _ ?_, hrun, hended, _, _, rfl, ?_, ⟨_, rfl⟩, hW, hsame.mono (by decide) (by decide)⟩
  · show Steps _ _ _ (T9.setTop (mkF m 33 #[rv ea, rv ma] [])) _
    exact X9.returnOut hx Bd.returns (hb hby d35_33) hr
  · show (Qu Z ea ma) h0 n0 _ T9.heap _
    rw [e9]
    exact ⟨rfl, N9, K9, E9_ea, F9_ea_detailMessage⟩
theorem pn_34 : plainName "java/lang/Exception" = true := by first | (simp [plainName, overriddenIn]; done) | decide +kernel
theorem rm_xi (l : Launch) (Z : State) (a0 : Array Value) (hw : ∀ d ∈ tables_1, d.before a0 Z = true) (ws : List Jvm.Cond) (ea : Addr) (ma : Addr) (h0 : Heap) (n0 : Nat) (Z0 : n0 ≤ h0.size) (Y0 : Old Z n0 h0) (zc : Int32) (fm : Value) (S : Sts Z Z.heap zc fm) (hl : l.stackTraces = true) (ua us : Addr) (SU : Sta Z Z.heap "java/lang/Throwable" "UNASSIGNED_STACK" "[Ljava/lang/StackTraceElement;" (.ref ua)) (SS : Sta Z Z.heap "java/lang/Throwable" "SUPPRESSED_SENTINEL" "Ljava/util/List;" (.ref us)) (Ex : EX Z h0 ea) (ge : n0 ≤ ea)  :
    MetFree l mN50 (head1 (Jvm.Cond.code mN50 jdk_59_method_2_code 2 none :: ws) (Room.mk 4 1 2752 55)) (fun a U => a = #[(.ref ea), (.ref ma)] ∧ Z.Warmed39 U.vm ∧ U.heap = h0) (fun _ _ bl s _ => s.vm.MethodsKnown ∧ s.vm.FramesKnown bl) (fun _ U o U' => ∃ v L, o = .returned v ∧ (Qu Z ea ma) h0 n0 v U'.heap L ∧ FrameEnd U o U' L (Room.mk 4 1 2752 55).cells (Room.mk 4 1 2752 55).slots) := by
  refine MetFree.of_bodySF (plainFor_of_name pn_34) hisR ?_
  intro p e s m args below meth c s₁ Bd hml0 hP hK
  obtain ⟨rfl, hZ, hh⟩ := hP
  have hx := Bd.exec
  have hby := Bd.bytes
  have hml : c.maxLocals = 2 := hml0
  have hown : s.vm.findClass "java/lang/Exception" = some m.cls := findClass_of_methodNamed Bd.named
  have X0 : Stand p l e (Room.mk 4 1 2752 55) s m #[(.ref ea), (.ref ma)] below meth c s₁ [] 0 0 := Stand.of_body Bd
  have e0 : s₁.heap = h0 := by rw [← hh, Bd.state]; rfl
  have N0 := Fr.nil n0
  have pre0 : Pr p e below (s₁.setTop (mkF m 0 #[rv ea, rv ma] [])) (s₁.setTop (entryFrame m #[(.ref ea), (.ref ma)] 2)) := fun t k => castTop (by first | (simp [entryFrame, mkF, argsToLocals, Value.category]; done) | rfl) k
  obtain ⟨_, _, ⟨T1, L1, k1, n1⟩, -, X1, ⟨Lc1, hQ1, l1, y1, z1⟩, st1⟩ := X0.specialBack hx (y := mN49) rfl hown (mw hZ hw 177 rfl) (mw hZ hw 178 rfl) (mw hZ hw 182 rfl) (by decide) (backOfKL (W := 0) (rm_ti l Z a0 hw [] ea ma h0 n0 (own_old0 Y0) Y0 zc fm S hl ua us SU SS Ex ge) hZ (ww hw 182 rfl) (ww hw 181 rfl) (by decide) (by decide) hK.1 hK.2) (g := (mkF m 2 #[rv ea, rv ma] [(.ref ma), (.ref ea)])) rfl (by rw [hml]; rfl) (Steps.refl _) (a := ea) (argsL := [(.ref ma)]) (rest := []) (lenOf pd_18 rfl) rfl own_z (hb hby d34_2) (fun _ _ => ⟨rfl, e0, (by decide : 0 + 1 ≤ _), (by decide : 0 + 2752 ≤ _)⟩)
  dsimp only [Pt.U, Pt.locs, Pt.cells, Pt.slots] at X1 l1 y1 z1 st1 hQ1
  rw [y1, z1] at X1
  obtain ⟨rfl, N1q, Kc1, Ec1, Fc1⟩ := hQ1
  have N1 := own_fr l1 N0 N1q
  have K1k : Keep h0 T1.heap [ea] := Keep.trans (Keep.refl h0 [ea]) Kc1 (allS (Or.inl (List.mem_of_getElem? (i := 0) rfl)) all0)
  have pre2 : Pr p e below (T1.setTop (mkF m 5 #[rv ea, rv ma] [])) (s₁.setTop (entryFrame m #[(.ref ea), (.ref ma)] 2)) := fun t k => pre0 t (by
    show Steps _ _ _ (s₁.setTop (mkF m 0 #[rv ea, rv ma] [])) _
    refine XS.aloadN X0.here hx rfl (hb hby d34_0) rfl rfl ?_
    refine XS.aloadN X0.here hx rfl (hb hby d34_1) rfl rfl ?_
    refine st1.trans ?_
    exact k)
  obtain ⟨fs, hr, hrun, hended, hW, hsame⟩ := X1.leave (v := none) (fun _ => rfl)
  refine ⟨_, _, pre2 _ ?_, hrun, hended, _, _, rfl, ?_, ⟨_, rfl⟩, hW, hsame.mono (by decide) (by decide)⟩
  · show Steps _ _ _ (T1.setTop (mkF m 5 #[rv ea, rv ma] [])) _
    exact X1.returnOut hx Bd.returns (hb hby d34_5) hr
  · show (Qu Z ea ma) h0 n0 _ T1.heap _
    exact ⟨rfl, N1, K1k, Ec1, Fc1⟩
theorem pn_33 : plainName "com/example/tidegauge/tidegauge/UsageException" = true := by first | (simp [plainName, overriddenIn]; done) | decide +kernel
theorem rm_ue (l : Launch) (Z : State) (a0 : Array Value) (hw : ∀ d ∈ tables_1, d.before a0 Z = true) (ws : List Jvm.Cond) (ea : Addr) (ma : Addr) (h0 : Heap) (n0 : Nat) (Z0 : n0 ≤ h0.size) (Y0 : Old Z n0 h0) (zc : Int32) (fm : Value) (S : Sts Z Z.heap zc fm) (hl : l.stackTraces = true) (ua us : Addr) (SU : Sta Z Z.heap "java/lang/Throwable" "UNASSIGNED_STACK" "[Ljava/lang/StackTraceElement;" (.ref ua)) (SS : Sta Z Z.heap "java/lang/Throwable" "SUPPRESSED_SENTINEL" "Ljava/util/List;" (.ref us)) (Ex : EX Z h0 ea) (ge : n0 ≤ ea)  :
    MetFree l mN51 (head1 (Jvm.Cond.code mN51 prog_43_method_1_code 2 none :: ws) (Room.mk 5 1 2752 68)) (fun a U => a = #[(.ref ea), (.ref ma)] ∧ Z.Warmed39 U.vm ∧ U.heap = h0) (fun _ _ bl s _ => s.vm.MethodsKnown ∧ s.vm.FramesKnown bl) (fun _ U o U' => ∃ v L, o = .returned v ∧ (Qu Z ea ma) h0 n0 v U'.heap L ∧ FrameEnd U o U' L (Room.mk 5 1 2752 68).cells (Room.mk 5 1 2752 68).slots) := by
  refine MetFree.of_bodySF (plainFor_of_name pn_33) hisR ?_
  intro p e s m args below meth c s₁ Bd hml0 hP hK
  obtain ⟨rfl, hZ, hh⟩ := hP
  have hx := Bd.exec
  have hby := Bd.bytes
  have hml : c.maxLocals = 2 := hml0
  have hown : s.vm.findClass "com/example/tidegauge/tidegauge/UsageException" = some m.cls := findClass_of_methodNamed Bd.named
  have X0 : Stand p l e (Room.mk 5 1 2752 68) s m #[(.ref ea), (.ref ma)] below meth c s₁ [] 0 0 := Stand.of_body Bd
  have e0 : s₁.heap = h0 := by rw [← hh, Bd.state]; rfl
  have N0 := Fr.nil n0
  have pre0 : Pr p e below (s₁.setTop (mkF m 0 #[rv ea, rv ma] [])) (s₁.setTop (entryFrame m #[(.ref ea), (.ref ma)] 2)) := fun t k => castTop (by first | (simp [entryFrame, mkF, argsToLocals, Value.category]; done) | rfl) k
  obtain ⟨_, _, ⟨T1, L1, k1, n1⟩, -, X1, ⟨Lc1, hQ1, l1, y1, z1⟩, st1⟩ := X0.specialBack hx (y := mN50) rfl hown (mw hZ hw 172 rfl) (mw hZ hw 173 rfl) (mw hZ hw 176 rfl) (by decide) (backOfKL (W := 0) (rm_xi l Z a0 hw [] ea ma h0 n0 (own_old0 Y0) Y0 zc fm S hl ua us SU SS Ex ge) hZ (ww hw 176 rfl) (ww hw 175 rfl) (by decide) (by decide) hK.1 hK.2) (g := (mkF m 2 #[rv ea, rv ma] [(.ref ma), (.ref ea)])) rfl (by rw [hml]; rfl) (Steps.refl _) (a := ea) (argsL := [(.ref ma)]) (rest := []) (lenOf pd_18 rfl) rfl own_z (hb hby d33_2) (fun _ _ => ⟨rfl, e0, (by decide : 0 + 1 ≤ _), (by decide : 0 + 2752 ≤ _)⟩)
  dsimp only [Pt.U, Pt.locs, Pt.cells, Pt.slots] at X1 l1 y1 z1 st1 hQ1
  rw [y1, z1] at X1
  obtain ⟨rfl, N1q, Kc1, Ec1, Fc1⟩ := hQ1
  have N1 := own_fr l1 N0 N1q
  have K1k : Keep h0 T1.heap [ea] := Keep.trans (Keep.refl h0 [ea]) Kc1 (allS (Or.inl (List.mem_of_getElem? (i := 0) rfl)) all0)
  have pre2 : Pr p e below (T1.setTop (mkF m 5 #[rv ea, rv ma] [])) (s₁.setTop (entryFrame m #[(.ref ea), (.ref ma)] 2)) := fun t k => pre0 t (by
    show Steps _ _ _ (s₁.setTop (mkF m 0 #[rv ea, rv ma] [])) _
    refine XS.aloadN X0.here hx rfl (hb hby d33_0) rfl rfl ?_
    refine XS.aloadN X0.here hx rfl (hb hby d33_1) rfl rfl ?_
    refine st1.trans ?_
    exact k)
  obtain ⟨fs, hr, hrun, hended, hW, hsame⟩ := X1.leave (v := none) (fun _ => rfl)
  refine ⟨_, _, pre2 _ ?_, hrun, hended, _, _, rfl, ?_, ⟨_, rfl⟩, hW, hsame.mono (by decide) (by decide)⟩
  · show Steps _ _ _ (T1.setTop (mkF m 5 #[rv ea, rv ma] [])) _
    exact X1.returnOut hx Bd.returns (hb hby d33_5) hr
  · show (Qu Z ea ma) h0 n0 _ T1.heap _
    exact ⟨rfl, N1, K1k, Ec1, Fc1⟩
theorem pn_7 : plainName "com/example/tidegauge/tidegauge/Options" = true := by first | (simp [plainName, overriddenIn]; done) | decide +kernel
theorem rm_gtL (l : Launch) (Z : State) (a0 : Array Value) (hw : ∀ d ∈ tables_1, d.before a0 Z = true) (ws : List Jvm.Cond) (sa : Addr) (h0 : Heap) (n0 : Nat) (Z0 : n0 ≤ h0.size) (Y0 : Old Z n0 h0) (zc : Int32) (fm : Value) (S : Sts Z Z.heap zc fm) (ta : Addr) (ka : ClassId) (Na : Int32) (va : List Value) (Xa : TX Z h0 sa ta ka Na va (0 : Int32)) (hl : l.stackTraces = true) (ua us : Addr) (SU : Sta Z Z.heap "java/lang/Throwable" "UNASSIGNED_STACK" "[Ljava/lang/StackTraceElement;" (.ref ua)) (SS : Sta Z Z.heap "java/lang/Throwable" "SUPPRESSED_SENTINEL" "Ljava/util/List;" (.ref us)) (nl mb mc gw : Int32) (nk : Nat) (hgt : GTL Na nl mb mc gw nk) (hva : va.length = nk)  :
    MetFree l mN52 (head1 (Jvm.Cond.code mN52 prog_29_method_14_code 1 (some (.object "com/example/tidegauge/tidegauge/UsageException")) :: ws) (Room.mk 10 12 3028 145)) (fun a U => a = #[(.ref sa)] ∧ Z.Warmed39 U.vm ∧ U.heap = h0 ∧ CHv Z consts_1 U.vm h0) (fun _ _ bl s _ => s.vm.MethodsKnown ∧ s.vm.FramesKnown bl) (fun _ U o U' => ∃ v L, o = .returned v ∧ (Qt Z mc ((((own_v1.take 7 ++ va ++ own_v1.drop (7 + nk)) ++ List.replicate (34 - 16) (Value.int 0)).take (7 + nk) ++ own_vf ++ ((own_v1.take 7 ++ va ++ own_v1.drop (7 + nk)) ++ List.replicate (34 - 16) (Value.int 0)).drop ((7 + nk) + 15)).take (22 + nk)) (0 : Int32)) h0 n0 v U'.heap L ∧ CHr Z consts_1 U.vm U.heap U'.vm U'.heap ∧ ReturnedEndW U o U' L (Room.mk 10 12 3028 145).cells (Room.mk 10 12 3028 145).slots) := by
  refine MetFree.of_bodySF (plainFor_of_name pn_7) hisR ?_
  intro p e s m args below meth c s₁ Bd hml0 hP hK
  obtain ⟨rfl, hZ, hh, hG⟩ := hP
  have hx := Bd.exec
  have hby := Bd.bytes
  have hml : c.maxLocals = 1 := hml0
  have hown : s.vm.findClass "com/example/tidegauge/tidegauge/Options" = some m.cls := findClass_of_methodNamed Bd.named
  have X0 : Stand p l e (Room.mk 10 12 3028 145) s m #[(.ref sa)] below meth c s₁ [] 0 0 := Stand.of_body Bd
  have e0 : s₁.heap = h0 := by rw [← hh, Bd.state]; rfl
  have N0 := Fr.nil n0
  have pre0 : Pr p e below (s₁.setTop (mkF m 0 #[rv sa] [])) (s₁.setTop (entryFrame m #[(.ref sa)] 1)) := fun t k => castTop (by first | (simp [entryFrame, mkF, argsToLocals, Value.category]; done) | rfl) k
  have hEL := own_EW hw
  have R0 : CHr Z consts_1 s.vm h0 s.vm h0 := CHr.refl hG
  have wSa : ∀ d ∈ Bundle.stringAtoms, d.before a0 Z = true := own_wSa hw
  obtain ⟨T1, h1, X1, e1, E1, A1, D1, U1, st1⟩ := newO X0 hx hZ hown (ww hw 35 rfl) (ww hw 36 rfl) (ww hw 37 rfl) e0 (g := (mkF m 0 #[rv sa] [])) rfl (hb hby d7_0) (by decide) (by decide)
  obtain ⟨b1, g1⟩ : ∃ z, z = h0.size := ⟨_, rfl⟩
  rw [← g1] at A1 D1 U1 st1
  have z_b1 : h0.size ≤ b1 := Nat.le_trans (Nat.le_refl h0.size) (Nat.le_of_eq g1.symm)
  have g_b1 : n0 ≤ b1 := Nat.le_trans Z0 z_b1
  have sf_b1 : Safe Z consts_1 _ _ b1 := Safe.new (vm := s.vm) (h := h0) (Nat.le_of_eq g1.symm)
  have Xa_1 := Xa.ext E1
  have Y1 := Old.ext Y0 E1
  have sz1 : h0.size ≤ h1.size := Nat.le_trans (Nat.le_refl h0.size) E1.1
  have K1 : Keep h0 h1 [] := (Keep.refl h0 []).ext E1
  have sf1_b1 := Safe.ext E1 R0.1 sf_b1
  have R1 := CHr.trans R0 (CHr.ext E1 R0.1)
  have Ex : EX Z h1 b1 := ⟨A1, U1, D1 (Or.inl (ww hw 185 rfl)) (ty := (.object "java/lang/Throwable")) (by decide), D1 (Or.inl (ww hw 188 rfl)) (ty := (.array (.object "java/lang/StackTraceElement"))) (by decide), D1 (Or.inl (ww hw 191 rfl)) (ty := (.object "java/util/List")) (by decide), D1 (Or.inl (ww hw 216 rfl)) (ty := (.object "java/lang/Object")) (by decide), D1 (Or.inl (ww hw 215 rfl)) (ty := (.object "java/lang/String")) (by decide)⟩
  obtain ⟨T2, h2, X2, e2, E2, A2, D2, -, st2⟩ := newO X1 hx hZ hown (ww hw 38 rfl) (ww hw 39 rfl) (ww hw 40 rfl) e1 (g := (mkF m 4 #[rv sa] [(.ref b1), (.ref b1)])) rfl (hb hby d7_4) (by decide) (by decide)
  obtain ⟨b2, g2⟩ : ∃ z, z = h1.size := ⟨_, rfl⟩
  rw [← g2] at A2 D2 st2
  have ne_sa_b2 : sa ≠ b2 := Nat.ne_of_lt (Nat.lt_of_lt_of_le Xa_1.lt0 (Nat.le_of_eq g2.symm))
  have ne_ta_b2 : ta ≠ b2 := Nat.ne_of_lt (Nat.lt_of_lt_of_le Xa_1.lt1 (Nat.le_of_eq g2.symm))
  have ne_b1_b2 : b1 ≠ b2 := Nat.ne_of_lt (Nat.lt_of_lt_of_le Ex.lt0 (Nat.le_of_eq g2.symm))
  have z_b2 : h0.size ≤ b2 := Nat.le_trans sz1 (Nat.le_of_eq g2.symm)
  have g_b2 : n0 ≤ b2 := Nat.le_trans Z0 z_b2
  have sf_b2 : Safe Z consts_1 _ _ b2 := Safe.new (vm := s.vm) (h := h1) (Nat.le_of_eq g2.symm)
  have Xa_2 := Xa_1.ext E2
  have Ex_2 := Ex.ext E2
  have Y2 := Old.ext Y1 E2
  have sz2 : h0.size ≤ h2.size := Nat.le_trans sz1 E2.1
  have K2 : Keep h0 h2 [] := K1.ext E2
  have sf2_b1 := Safe.ext E2 R1.1 sf1_b1
  have sf2_b2 := Safe.ext E2 R1.1 sf_b2
  have R2 := CHr.trans R1 (CHr.ext E2 R1.1)
  have F2_b2_value : Fld Z h2 b2 "java/lang/AbstractStringBuilder" "value" "[B" .null := D2 (Or.inl (ww hw 53 rfl)) (ty := (.array .byte)) (by decide)
  have F2_b2_coder : Fld Z h2 b2 "java/lang/AbstractStringBuilder" "coder" "B" (.int 0) := D2 (Or.inl (ww hw 55 rfl)) (ty := .byte) (by decide)
  have F2_b2_count : Fld Z h2 b2 "java/lang/AbstractStringBuilder" "count" "I" (.int 0) := D2 (Or.inl (ww hw 80 rfl)) (ty := .int) (by decide)
  have F2_b2_maybeLatin1 : Fld Z h2 b2 "java/lang/AbstractStringBuilder" "maybeLatin1" "Z" (.int 0) := D2 (Or.inl (ww hw 305 rfl)) (ty := .boolean) (by decide)
  obtain ⟨_, _, ⟨T3, L3, k3, n3⟩, -, X3, ⟨Lc3, hQ3, l3, y3, z3⟩, st3⟩ := X2.specialBack hx (y := mN36) rfl hown (mw hZ hw 41 rfl) (mw hZ hw 42 rfl) (mw hZ hw 43 rfl) (by decide) (backOf (W := 3) (rm_sn l Z a0 hw [] b2 h2 n0 (own_old0 Y2) Y2 zc fm S A2 F2_b2_value F2_b2_coder F2_b2_count F2_b2_maybeLatin1 g_b2) hZ (ww hw 43 rfl) (ww hw 40 rfl) (by decide) (by decide)) (g := (mkF m 8 #[rv sa] [(.ref b2), (.ref b2), (.ref b1), (.ref b1)])) rfl (by rw [hml]; rfl) (Steps.refl _) (a := b2) (argsL := []) (rest := [(.ref b2), (.ref b1), (.ref b1)]) (lenOf pd_16 rfl) rfl own_z (hb hby d7_8) (fun _ _ => ⟨rfl, e2, (by decide : 2 + 1 ≤ _), (by decide : 10 + 16 ≤ _)⟩)
  dsimp only [Pt.U, Pt.locs, Pt.cells, Pt.slots] at X3 l3 y3 z3 st3 hQ3
  rw [y3, z3] at X3
  obtain ⟨u3, ku3, rfl, N3q, Kc3, zz3, Bc3⟩ := hQ3
  have N3 := own_fr l3 N0 N3q
  have ne_sa_u3 : sa ≠ u3 := Nat.ne_of_lt (Nat.lt_of_lt_of_le Xa_2.lt0 zz3)
  have ne_ta_u3 : ta ≠ u3 := Nat.ne_of_lt (Nat.lt_of_lt_of_le Xa_2.lt1 zz3)
  have ne_b1_u3 : b1 ≠ u3 := Nat.ne_of_lt (Nat.lt_of_lt_of_le Ex_2.lt0 zz3)
  have z_u3 : h0.size ≤ u3 := Nat.le_trans sz2 zz3
  have g_u3 : n0 ≤ u3 := Nat.le_trans Z0 z_u3
  have sf_u3 : Safe Z consts_1 _ _ u3 := Safe.new (vm := s.vm) (h := h2) zz3
  have Xa_3 := Xa_2.keep Kc3 (ninS ne_sa_b2 nin0) (ninS ne_ta_b2 nin0)
  have Ex_3 := Ex_2.keep Kc3 (ninS ne_b1_b2 nin0)
  have Y3 := Old.keep Y2 Kc3 (allS g_b2 all0)
  have sz3 : h0.size ≤ T3.heap.size := Nat.le_trans sz2 Kc3.1
  have K3k : Keep h0 T3.heap [] := Keep.trans K2 Kc3 (allS (Or.inr z_b2) all0)
  have sf3_b1 := Safe.keep Kc3 (allS sf2_b2 all0) R2.1 sf2_b1
  have sf3_b2 := Safe.keep Kc3 (allS sf2_b2 all0) R2.1 sf2_b2
  have sf3_u3 := Safe.keep Kc3 (allS sf2_b2 all0) R2.1 sf_u3
  have R3 := CHr.trans R2 (CHr.keep Kc3 (allS sf2_b2 all0) R2.1)
  obtain ⟨a4, T4, h4, kk4, b4, kb4, X4, e4, E4, hS4, hk4q, hZ4, hown4, Ea4, Ca4, Va4, Ab4, la4, lb4, hC4, Li4, hsf4, st4⟩ := ldcCH (s := s) (vm0 := s.vm) (EL := consts_1) X3 hx hZ hown (ww hw 56 rfl) wSa rfl ((State.WarmedH.refl s).since T3.heap.size) (Nat.le_refl _) hEL (List.mem_of_getElem? (i := 0) rfl) R3.1 (vs := [(.int (StrChars.lo8 (111 : Int32))), (.int (StrChars.lo8 (112 : Int32))), (.int (StrChars.lo8 (116 : Int32))), (.int (StrChars.lo8 (105 : Int32))), (.int (StrChars.lo8 (111 : Int32))), (.int (StrChars.lo8 (110 : Int32))), (.int (StrChars.lo8 (32 : Int32)))]) (z := (7 : Int32)) ⟨by decide, by first | rfl | decide⟩ (by decide) (by first | rfl | decide) (g := (mkF m 11 #[rv sa] [(.ref b2), (.ref b1), (.ref b1)])) rfl (hb hby d7_11) (n := 28) (by first | decide | simp) (by decide) (by decide) (by decide)
  have sf4_b1 := CHr.safe hC4 Ex_3.lt0 sf3_b1
  have sf4_b2 := CHr.safe hC4 Bc3.lt0 sf3_b2
  have sf4_u3 := CHr.safe hC4 Bc3.lt1 sf3_u3
  have Xa_4 := Xa_3.ext E4
  have Ex_4 := Ex_3.ext E4
  have Bb_4 := Bc3.ext E4
  have Y4 := Old.ext Y3 E4
  have sz4 : h0.size ≤ h4.size := Nat.le_trans sz3 E4.1
  have K4 : Keep h0 h4 [] := K3k.ext E4
  have R4 := CHr.trans R3 hC4
  have ne_b4_u3 := (hsf4 u3 sf4_u3).2.symm
  have tx4 : TX Z h4 a4 b4 kb4 (7 : Int32) [(.int (StrChars.lo8 (111 : Int32))), (.int (StrChars.lo8 (112 : Int32))), (.int (StrChars.lo8 (116 : Int32))), (.int (StrChars.lo8 (105 : Int32))), (.int (StrChars.lo8 (111 : Int32))), (.int (StrChars.lo8 (110 : Int32))), (.int (StrChars.lo8 (32 : Int32)))] (0 : Int32) := ⟨Ea4, Ca4, Va4, Ab4⟩
  obtain ⟨cq5, kq5, q5a, q5b, q5c⟩ := isOf hZ4 e4 Bb_4.1
  obtain ⟨_, _, ⟨T5, L5, k5, n5⟩, -, X5, ⟨Lc5, hQ5, l5, y5, z5⟩, st5⟩ := X4.virtualBack hx (y := mN34) (z := mN34) hown4 (mw hZ4 hw 59 rfl) (mw hZ4 hw 60 rfl) (notFace_of_selects (args := #[]) (mw hZ4 hw 62 rfl)) (mw hZ4 hw 62 rfl) (mw hZ4 hw 61 rfl) (by decide) (backOf (W := 2) (rm_sbN l Z a0 hw [] b2 a4 h4 n0 (own_old0 Y4) Y4 zc fm S (0 : Int32) u3 ku3 [(Value.int 0), (Value.int 0), (Value.int 0), (Value.int 0), (Value.int 0), (Value.int 0), (Value.int 0), (Value.int 0), (Value.int 0), (Value.int 0), (Value.int 0), (Value.int 0), (Value.int 0), (Value.int 0), (Value.int 0), (Value.int 0)] Bb_4 g_b2 g_u3 b4 kb4 (7 : Int32) own_vo tx4 ne_b4_u3 (7 : Int32) (7 : Int32) (by decide) (by decide) (by decide) (0 : Int32) 0 7 (by decide) (by decide) rfl) hZ4 (ww hw 63 rfl) (ww hw 40 rfl) (by decide) (by decide)) q5a q5c (g := (mkF m 13 #[rv sa] [(.ref a4), (.ref b2), (.ref b1), (.ref b1)])) rfl (by rw [hml]; rfl) (Steps.refl _) (argsL := [(.ref a4)]) (rest := [(.ref b1), (.ref b1)]) (lenOf pd_31 rfl) rfl own_z (hb hby d7_13) (fun _ _ => ⟨rfl, e4, (by decide : 5 + 0 ≤ _), (by decide : 58 + 0 ≤ _)⟩)
  dsimp only [Pt.U, Pt.locs, Pt.cells, Pt.slots] at X5 l5 y5 z5 st5 hQ5
  rw [y5, z5] at X5
  obtain ⟨rfl, N5q, Kc5, Bc5⟩ := hQ5
  have N5 := own_fr l5 N3 N5q
  have Xa_5 := Xa_4.keep Kc5 (ninS ne_sa_b2 (ninS ne_sa_u3 nin0)) (ninS ne_ta_b2 (ninS ne_ta_u3 nin0))
  have Ex_5 := Ex_4.keep Kc5 (ninS ne_b1_b2 (ninS ne_b1_u3 nin0))
  have Y5 := Old.keep Y4 Kc5 (allS g_b2 (allS g_u3 all0))
  have sz5 : h0.size ≤ T5.heap.size := Nat.le_trans sz4 Kc5.1
  have K5k : Keep h0 T5.heap [] := Keep.trans K4 Kc5 (allS (Or.inr z_b2) (allS (Or.inr z_u3) all0))
  have sf5_b1 := Safe.keep Kc5 (allS sf4_b2 (allS sf4_u3 all0)) R4.1 sf4_b1
  have sf5_b2 := Safe.keep Kc5 (allS sf4_b2 (allS sf4_u3 all0)) R4.1 sf4_b2
  have sf5_u3 := Safe.keep Kc5 (allS sf4_b2 (allS sf4_u3 all0)) R4.1 sf4_u3
  have R5 := CHr.trans R4 (CHr.keep Kc5 (allS sf4_b2 (allS sf4_u3 all0)) R4.1)
  have hk5 : kk4 ≤ T5.heap.size := Nat.le_trans hk4q Kc5.1
  have Bd5 : SB Z T5.heap b2 u3 ku3 (16 : Int32) own_v1 (0 : Int32) (7 : Int32) := Bc5
  obtain ⟨cq6, kq6, q6a, q6b, q6c⟩ := isOf hZ4 rfl Bd5.1
  obtain ⟨_, _, ⟨T6, L6, k6, n6⟩, -, X6, ⟨Lc6, hQ6, l6, y6, z6⟩, st6⟩ := X5.virtualBack hx (y := mN34) (z := mN34) hown4 (mw hZ4 hw 59 rfl) (mw hZ4 hw 60 rfl) (notFace_of_selects (args := #[]) (mw hZ4 hw 62 rfl)) (mw hZ4 hw 62 rfl) (mw hZ4 hw 61 rfl) (by decide) (backOf (W := 2) (rm_sbN l Z a0 hw [] b2 sa T5.heap n0 (own_old0 Y5) Y5 zc fm S (7 : Int32) u3 ku3 own_v1 Bd5 g_b2 g_u3 ta ka Na va Xa_5 ne_ta_u3 nl mb hgt.1 hgt.2.1 hgt.2.2.1 (7 : Int32) 7 nk hgt.2.2.2.1 (by have := hgt.2.2.2.2.2.2.2.2; simp; omega) hva) hZ4 (ww hw 63 rfl) (ww hw 40 rfl) (by decide) (by decide)) q6a q6c (g := (mkF m 17 #[rv sa] [(.ref sa), (.ref b2), (.ref b1), (.ref b1)])) rfl (by rw [hml]; rfl) (Steps.refl _) (argsL := [(.ref sa)]) (rest := [(.ref b1), (.ref b1)]) (lenOf pd_31 rfl) rfl own_z (hb hby d7_17) (fun _ _ => ⟨rfl, rfl, (by decide : 5 + 0 ≤ _), (by decide : 58 + 0 ≤ _)⟩)
  dsimp only [Pt.U, Pt.locs, Pt.cells, Pt.slots] at X6 l6 y6 z6 st6 hQ6
  rw [y6, z6] at X6
  obtain ⟨rfl, N6q, Kc6, Bc6⟩ := hQ6
  have N6 := own_fr l6 N5 N6q
  have Ex_6 := Ex_5.keep Kc6 (ninS ne_b1_b2 (ninS ne_b1_u3 nin0))
  have Y6 := Old.keep Y5 Kc6 (allS g_b2 (allS g_u3 all0))
  have sz6 : h0.size ≤ T6.heap.size := Nat.le_trans sz5 Kc6.1
  have K6k : Keep h0 T6.heap [] := Keep.trans K5k Kc6 (allS (Or.inr z_b2) (allS (Or.inr z_u3) all0))
  have sf6_b1 := Safe.keep Kc6 (allS sf5_b2 (allS sf5_u3 all0)) R5.1 sf5_b1
  have sf6_b2 := Safe.keep Kc6 (allS sf5_b2 (allS sf5_u3 all0)) R5.1 sf5_b2
  have sf6_u3 := Safe.keep Kc6 (allS sf5_b2 (allS sf5_u3 all0)) R5.1 sf5_u3
  have R6 := CHr.trans R5 (CHr.keep Kc6 (allS sf5_b2 (allS sf5_u3 all0)) R5.1)
  have hk6 : kk4 ≤ T6.heap.size := Nat.le_trans hk5 Kc6.1
  obtain ⟨a7, T7, h7, kk7, b7, kb7, X7, e7, E7, hS7, hk7q, hZ7, hown7, Ea7, Ca7, Va7, Ab7, la7, lb7, hC7, Li7, hsf7, st7⟩ := ldcCH (s := s) (vm0 := T4.vm) (EL := consts_1) X6 hx hZ4 hown4 (ww hw 106 rfl) wSa rfl hS4 hk6 hEL (List.mem_of_getElem? (i := 1) rfl) R6.1 (vs := [(.int (StrChars.lo8 (32 : Int32))), (.int (StrChars.lo8 (105 : Int32))), (.int (StrChars.lo8 (115 : Int32))), (.int (StrChars.lo8 (32 : Int32))), (.int (StrChars.lo8 (103 : Int32))), (.int (StrChars.lo8 (105 : Int32))), (.int (StrChars.lo8 (118 : Int32))), (.int (StrChars.lo8 (101 : Int32))), (.int (StrChars.lo8 (110 : Int32))), (.int (StrChars.lo8 (32 : Int32))), (.int (StrChars.lo8 (116 : Int32))), (.int (StrChars.lo8 (119 : Int32))), (.int (StrChars.lo8 (105 : Int32))), (.int (StrChars.lo8 (99 : Int32))), (.int (StrChars.lo8 (101 : Int32)))]) (z := (15 : Int32)) ⟨by decide, by first | rfl | decide⟩ (by decide) (by first | rfl | decide) (g := (mkF m 20 #[rv sa] [(.ref b2), (.ref b1), (.ref b1)])) rfl (hb hby d7_20) (n := 60) (by first | decide | simp) (by decide) (by decide) (by decide)
  have sf7_b1 := CHr.safe hC7 Ex_6.lt0 sf6_b1
  have sf7_b2 := CHr.safe hC7 Bc6.lt0 sf6_b2
  have sf7_u3 := CHr.safe hC7 Bc6.lt1 sf6_u3
  have Ex_7 := Ex_6.ext E7
  have Bb_7 := Bc6.ext E7
  have Y7 := Old.ext Y6 E7
  have sz7 : h0.size ≤ h7.size := Nat.le_trans sz6 E7.1
  have K7 : Keep h0 h7 [] := K6k.ext E7
  have R7 := CHr.trans R6 hC7
  have ne_b7_u3 := (hsf7 u3 sf7_u3).2.symm
  have tx7 : TX Z h7 a7 b7 kb7 (15 : Int32) [(.int (StrChars.lo8 (32 : Int32))), (.int (StrChars.lo8 (105 : Int32))), (.int (StrChars.lo8 (115 : Int32))), (.int (StrChars.lo8 (32 : Int32))), (.int (StrChars.lo8 (103 : Int32))), (.int (StrChars.lo8 (105 : Int32))), (.int (StrChars.lo8 (118 : Int32))), (.int (StrChars.lo8 (101 : Int32))), (.int (StrChars.lo8 (110 : Int32))), (.int (StrChars.lo8 (32 : Int32))), (.int (StrChars.lo8 (116 : Int32))), (.int (StrChars.lo8 (119 : Int32))), (.int (StrChars.lo8 (105 : Int32))), (.int (StrChars.lo8 (99 : Int32))), (.int (StrChars.lo8 (101 : Int32)))] (0 : Int32) := ⟨Ea7, Ca7, Va7, Ab7⟩
  obtain ⟨cq8, kq8, q8a, q8b, q8c⟩ := isOf hZ7 e7 Bb_7.1
  obtain ⟨_, _, ⟨T8, L8, k8, n8⟩, -, X8, ⟨Lc8, hQ8, l8, y8, z8⟩, st8⟩ := X7.virtualBack hx (y := mN34) (z := mN34) hown7 (mw hZ7 hw 59 rfl) (mw hZ7 hw 60 rfl) (notFace_of_selects (args := #[]) (mw hZ7 hw 62 rfl)) (mw hZ7 hw 62 rfl) (mw hZ7 hw 61 rfl) (by decide) (backOf (W := 2) (rm_sbG l Z a0 hw [] b2 a7 h7 n0 (own_old0 Y7) Y7 zc fm S mb (16 : Int32) gw (18 : Int32) (34 : Int32) (34 : Int32) (16 : Int32) 16 34 u3 ku3 (own_v1.take 7 ++ va ++ own_v1.drop (7 + nk)) Bb_7 g_b2 g_u3 b7 kb7 (15 : Int32) own_vf tx7 ne_b7_u3 (15 : Int32) mc (by decide) hgt.2.2.2.2.1 hgt.2.2.2.2.2.1 (by have := hgt.2.2.2.2.2.2.2.2; simp [hva]; omega) mb (7 + nk) 15 hgt.2.2.2.2.2.2.1 (by have := hgt.2.2.2.2.2.2.2.2; simp [hva]; omega) rfl) hZ7 (ww hw 63 rfl) (ww hw 40 rfl) (by decide) (by decide)) q8a q8c (g := (mkF m 22 #[rv sa] [(.ref a7), (.ref b2), (.ref b1), (.ref b1)])) rfl (by rw [hml]; rfl) (Steps.refl _) (argsL := [(.ref a7)]) (rest := [(.ref b1), (.ref b1)]) (lenOf pd_31 rfl) rfl own_z (hb hby d7_22) (fun _ _ => ⟨rfl, e7, (by decide : 7 + 1 ≤ _), (by decide : 122 + 68 ≤ _)⟩)
  dsimp only [Pt.U, Pt.locs, Pt.cells, Pt.slots] at X8 l8 y8 z8 st8 hQ8
  rw [y8, z8] at X8
  obtain ⟨u8, ku8, rfl, N8q, Kc8, zz8, Bc8⟩ := hQ8
  have N8 := own_fr l8 N6 N8q
  have z_u8 : h0.size ≤ u8 := Nat.le_trans sz7 zz8
  have g_u8 : n0 ≤ u8 := Nat.le_trans Z0 z_u8
  have Ex_8 := Ex_7.keep Kc8 (ninS ne_b1_b2 nin0)
  have Y8 := Old.keep Y7 Kc8 (allS g_b2 all0)
  have K8k : Keep h0 T8.heap [] := Keep.trans K7 Kc8 (allS (Or.inr z_b2) all0)
  have sf8_b1 := Safe.keep Kc8 (allS sf7_b2 all0) R7.1 sf7_b1
  have R8 := CHr.trans R7 (CHr.keep Kc8 (allS sf7_b2 all0) R7.1)
  have hk8 : kk7 ≤ T8.heap.size := Nat.le_trans hk7q Kc8.1
  obtain ⟨cq9, kq9, q9a, q9b, q9c⟩ := isOf hZ7 rfl Bc8.1
  obtain ⟨_, _, ⟨T9, L9, k9, n9⟩, -, X9, ⟨Lc9, hQ9, l9, y9, z9⟩, st9⟩ := X8.virtualBack hx (y := mN42) (z := mN42) hown7 (mw hZ7 hw 130 rfl) (mw hZ7 hw 131 rfl) (notFace_of_selects (args := #[]) (mw hZ7 hw 133 rfl)) (mw hZ7 hw 133 rfl) (mw hZ7 hw 132 rfl) (by decide) (backOf (W := 2) (rm_tsL l Z a0 hw [] b2 T8.heap n0 (own_old0 Y8) Y8 zc fm S (34 : Int32) mc u8 ku8 (((own_v1.take 7 ++ va ++ own_v1.drop (7 + nk)) ++ List.replicate (34 - 16) (Value.int 0)).take (7 + nk) ++ own_vf ++ ((own_v1.take 7 ++ va ++ own_v1.drop (7 + nk)) ++ List.replicate (34 - 16) (Value.int 0)).drop ((7 + nk) + 15)) Bc8 g_b2 g_u8 (22 + nk) hgt.2.2.2.2.2.2.2.1 (by have := hgt.2.2.2.2.2.2.2.2; simp [hva]; omega)) hZ7 (ww hw 134 rfl) (ww hw 40 rfl) (by decide) (by decide)) q9a q9c (g := (mkF m 25 #[rv sa] [(.ref b2), (.ref b1), (.ref b1)])) rfl (by rw [hml]; rfl) (Steps.refl _) (argsL := []) (rest := [(.ref b1), (.ref b1)]) (lenOf pd_32 rfl) rfl own_z (hb hby d7_25) (fun _ _ => ⟨rfl, rfl, (by decide : 8 + 2 ≤ _), (by decide : 190 + 54 ≤ _)⟩)
  dsimp only [Pt.U, Pt.locs, Pt.cells, Pt.slots] at X9 l9 y9 z9 st9 hQ9
  rw [y9, z9] at X9
  obtain ⟨m9, u9, ku9, rfl, N9q, E9, zm9, zu9, Xm9⟩ := hQ9
  have N9 := own_fr l9 N8 N9q
  have ne_m9_b1 : m9 ≠ b1 := Nat.ne_of_gt (Nat.lt_of_lt_of_le Ex_8.lt0 zm9)
  have ne_u9_b1 : u9 ≠ b1 := Nat.ne_of_gt (Nat.lt_of_lt_of_le Ex_8.lt0 zu9)
  have Ex_9 := Ex_8.ext E9
  have Y9 := Old.ext Y8 E9
  have K9 : Keep h0 T9.heap [] := K8k.ext E9
  have sf9_b1 := Safe.ext E9 R8.1 sf8_b1
  have R9 := CHr.trans R8 (CHr.ext E9 R8.1)
  have hk9 : kk7 ≤ T9.heap.size := Nat.le_trans hk8 E9.1
  obtain ⟨_, _, ⟨T10, L10, k10, n10⟩, -, X10, ⟨Lc10, hQ10, l10, y10, z10⟩, st10⟩ := X9.specialBack hx (y := mN51) rfl hown7 (mw hZ7 hw 169 rfl) (mw hZ7 hw 170 rfl) (mw hZ7 hw 171 rfl) (by decide) (backOfKL (W := 1) (rm_ue l Z a0 hw [] b1 m9 T9.heap n0 (own_old0 Y9) Y9 zc fm S hl ua us SU SS Ex_9 g_b1) hZ7 (ww hw 171 rfl) (ww hw 37 rfl) (by decide) (by decide) (Vm.MethodsKnown.alikeC hS7.1.alike hK.1) (Vm.FramesKnown.alikeC hS7.1.alike hK.2)) (g := (mkF m 28 #[rv sa] [(.ref m9), (.ref b1), (.ref b1)])) rfl (by rw [hml]; rfl) (Steps.refl _) (a := b1) (argsL := [(.ref m9)]) (rest := [(.ref b1)]) (lenOf pd_18 rfl) rfl own_z (hb hby d7_28) (fun _ _ => ⟨rfl, rfl, (by decide : 10 + 1 ≤ _), (by decide : 244 + 2752 ≤ _)⟩)
  dsimp only [Pt.U, Pt.locs, Pt.cells, Pt.slots] at X10 l10 y10 z10 st10 hQ10
  rw [y10, z10] at X10
  obtain ⟨rfl, N10q, Kc10, Ec10, Fc10⟩ := hQ10
  have N10 := own_fr l10 N9 N10q
  have Xm_10 := Xm9.keep Kc10 (ninS ne_m9_b1 nin0) (ninS ne_u9_b1 nin0)
  have K10k : Keep h0 T10.heap [] := Keep.trans K9 Kc10 (allS (Or.inr z_b1) all0)
  have R10 := CHr.trans R9 (CHr.keep Kc10 (allS sf9_b1 all0) R9.1)
  have hk10 : kk7 ≤ T10.heap.size := Nat.le_trans hk9 Kc10.1
  have pre11 : Pr p e below (T10.setTop (mkF m 31 #[rv sa] [(.ref b1)])) (s₁.setTop (entryFrame m #[(.ref sa)] 1)) := fun t k => pre0 t (by
    show Steps _ _ _ (s₁.setTop (mkF m 0 #[rv sa] [])) _
    refine st1 _ ?_
    refine XS.dup X1.here hx rfl (hb hby d7_3) rfl rfl ?_
    refine st2 _ ?_
    refine XS.dup X2.here hx rfl (hb hby d7_7) rfl rfl ?_
    refine st3.trans ?_
    refine st4 _ ?_
    refine st5.trans ?_
    refine XS.aloadN X5.here hx rfl (hb hby d7_16) rfl rfl ?_
    refine st6.trans ?_
    refine st7 _ ?_
    refine st8.trans ?_
    refine st9.trans ?_
    refine st10.trans ?_
    exact k)
  obtain ⟨fs, hr, hrun, hended, hEnd⟩ := X10.leaveW hS7 hk10 (v := some (.ref b1)) (fun h => by rw [Bd.returns] at h; cases h) (hlocks := Bd.notSynchronized)
  refine ⟨_, _, pre11 _ ?_, hrun, hended, _, _, rfl, ?_, ?_, own_endW hEnd (by decide) (by decide)⟩
  · show Steps _ _ _ (T10.setTop (mkF m 31 #[rv sa] [(.ref b1)])) _
    exact retOut X10 hx Bd.returns rfl (Or.inr (Or.inr (Or.inr (Or.inr ⟨rfl, rfl, rfl⟩)))) (hb hby d7_31) hr
  · show (Qt Z mc ((((own_v1.take 7 ++ va ++ own_v1.drop (7 + nk)) ++ List.replicate (34 - 16) (Value.int 0)).take (7 + nk) ++ own_vf ++ ((own_v1.take 7 ++ va ++ own_v1.drop (7 + nk)) ++ List.replicate (34 - 16) (Value.int 0)).drop ((7 + nk) + 15)).take (22 + nk)) (0 : Int32)) h0 n0 _ T10.heap _
    exact ⟨_, _, _, _, rfl, N10, own_ext_of K10k, Ec10, Fc10, Xm_10⟩
  · show CHr Z consts_1 s.vm s.heap T10.vm T10.heap
    rw [hh]
    exact CHr.trans R10 (CHv.at (s := s) (vm0 := T7.vm) X10 hZ7 hEL R10.1)
theorem rm_gtW (l : Launch) (Z : State) (a0 : Array Value) (hw : ∀ d ∈ tables_1, d.before a0 Z = true) (ws : List Jvm.Cond) (sa : Addr) (h0 : Heap) (n0 : Nat) (Z0 : n0 ≤ h0.size) (Y0 : Old Z n0 h0) (zc : Int32) (fm : Value) (S : Sts Z Z.heap zc fm) (ta : Addr) (ka : ClassId) (Na : Int32) (va : List Value) (Xa : TX Z h0 sa ta ka Na va (1 : Int32)) (hl : l.stackTraces = true) (ua us : Addr) (SU : Sta Z Z.heap "java/lang/Throwable" "UNASSIGNED_STACK" "[Ljava/lang/StackTraceElement;" (.ref ua)) (SS : Sta Z Z.heap "java/lang/Throwable" "SUPPRESSED_SENTINEL" "Ljava/util/List;" (.ref us)) (nl mb mc gw kz : Int32) (nk : Nat) (hgt : GTW Na nl mb mc gw kz nk) (hva : va.length = 2 * nk)  :
    MetFree l mN52 (head1 (Jvm.Cond.code mN52 prog_29_method_14_code 1 (some (.object "com/example/tidegauge/tidegauge/UsageException")) :: ws) (Room.mk 10 12 3028 145)) (fun a U => a = #[(.ref sa)] ∧ Z.Warmed39 U.vm ∧ U.heap = h0 ∧ CHv Z consts_1 U.vm h0) (fun _ _ bl s _ => s.vm.MethodsKnown ∧ s.vm.FramesKnown bl) (fun _ U o U' => ∃ v L, o = .returned v ∧ (Qt Z kz ((own_inf own_suf 15 0 (7 + nk) (((own_inf own_opt 7 0 0 (List.replicate 32 (Value.int 0))).take 14 ++ va ++ (own_inf own_opt 7 0 0 (List.replicate 32 (Value.int 0))).drop (14 + (2 * nk))) ++ List.replicate (68 - 32) (Value.int 0))).take (2 * (22 + nk))) (1 : Int32)) h0 n0 v U'.heap L ∧ CHr Z consts_1 U.vm U.heap U'.vm U'.heap ∧ ReturnedEndW U o U' L (Room.mk 10 12 3028 145).cells (Room.mk 10 12 3028 145).slots) := by
  refine MetFree.of_bodySF (plainFor_of_name pn_7) hisR ?_
  intro p e s m args below meth c s₁ Bd hml0 hP hK
  obtain ⟨rfl, hZ, hh, hG⟩ := hP
  have hx := Bd.exec
  have hby := Bd.bytes
  have hml : c.maxLocals = 1 := hml0
  have hown : s.vm.findClass "com/example/tidegauge/tidegauge/Options" = some m.cls := findClass_of_methodNamed Bd.named
  have X0 : Stand p l e (Room.mk 10 12 3028 145) s m #[(.ref sa)] below meth c s₁ [] 0 0 := Stand.of_body Bd
  have e0 : s₁.heap = h0 := by rw [← hh, Bd.state]; rfl
  have N0 := Fr.nil n0
  have pre0 : Pr p e below (s₁.setTop (mkF m 0 #[rv sa] [])) (s₁.setTop (entryFrame m #[(.ref sa)] 1)) := fun t k => castTop (by first | (simp [entryFrame, mkF, argsToLocals, Value.category]; done) | rfl) k
  have hEL := own_EW hw
  have R0 : CHr Z consts_1 s.vm h0 s.vm h0 := CHr.refl hG
  have wSa : ∀ d ∈ Bundle.stringAtoms, d.before a0 Z = true := own_wSa hw
  obtain ⟨T1, h1, X1, e1, E1, A1, D1, U1, st1⟩ := newO X0 hx hZ hown (ww hw 35 rfl) (ww hw 36 rfl) (ww hw 37 rfl) e0 (g := (mkF m 0 #[rv sa] [])) rfl (hb hby d7_0) (by decide) (by decide)
  obtain ⟨b1, g1⟩ : ∃ z, z = h0.size := ⟨_, rfl⟩
  rw [← g1] at A1 D1 U1 st1
  have z_b1 : h0.size ≤ b1 := Nat.le_trans (Nat.le_refl h0.size) (Nat.le_of_eq g1.symm)
  have g_b1 : n0 ≤ b1 := Nat.le_trans Z0 z_b1
  have sf_b1 : Safe Z consts_1 _ _ b1 := Safe.new (vm := s.vm) (h := h0) (Nat.le_of_eq g1.symm)
  have Xa_1 := Xa.ext E1
  have Y1 := Old.ext Y0 E1
  have sz1 : h0.size ≤ h1.size := Nat.le_trans (Nat.le_refl h0.size) E1.1
  have K1 : Keep h0 h1 [] := (Keep.refl h0 []).ext E1
  have sf1_b1 := Safe.ext E1 R0.1 sf_b1
  have R1 := CHr.trans R0 (CHr.ext E1 R0.1)
  have Ex : EX Z h1 b1 := ⟨A1, U1, D1 (Or.inl (ww hw 185 rfl)) (ty := (.object "java/lang/Throwable")) (by decide), D1 (Or.inl (ww hw 188 rfl)) (ty := (.array (.object "java/lang/StackTraceElement"))) (by decide), D1 (Or.inl (ww hw 191 rfl)) (ty := (.object "java/util/List")) (by decide), D1 (Or.inl (ww hw 216 rfl)) (ty := (.object "java/lang/Object")) (by decide), D1 (Or.inl (ww hw 215 rfl)) (ty := (.object "java/lang/String")) (by decide)⟩
  obtain ⟨T2, h2, X2, e2, E2, A2, D2, -, st2⟩ := newO X1 hx hZ hown (ww hw 38 rfl) (ww hw 39 rfl) (ww hw 40 rfl) e1 (g := (mkF m 4 #[rv sa] [(.ref b1), (.ref b1)])) rfl (hb hby d7_4) (by decide) (by decide)
  obtain ⟨b2, g2⟩ : ∃ z, z = h1.size := ⟨_, rfl⟩
  rw [← g2] at A2 D2 st2
  have ne_sa_b2 : sa ≠ b2 := Nat.ne_of_lt (Nat.lt_of_lt_of_le Xa_1.lt0 (Nat.le_of_eq g2.symm))
  have ne_ta_b2 : ta ≠ b2 := Nat.ne_of_lt (Nat.lt_of_lt_of_le Xa_1.lt1 (Nat.le_of_eq g2.symm))
  have ne_b1_b2 : b1 ≠ b2 := Nat.ne_of_lt (Nat.lt_of_lt_of_le Ex.lt0 (Nat.le_of_eq g2.symm))
  have z_b2 : h0.size ≤ b2 := Nat.le_trans sz1 (Nat.le_of_eq g2.symm)
  have g_b2 : n0 ≤ b2 := Nat.le_trans Z0 z_b2
  have sf_b2 : Safe Z consts_1 _ _ b2 := Safe.new (vm := s.vm) (h := h1) (Nat.le_of_eq g2.symm)
  have Xa_2 := Xa_1.ext E2
  have Ex_2 := Ex.ext E2
  have Y2 := Old.ext Y1 E2
  have sz2 : h0.size ≤ h2.size := Nat.le_trans sz1 E2.1
  have K2 : Keep h0 h2 [] := K1.ext E2
  have sf2_b1 := Safe.ext E2 R1.1 sf1_b1
  have sf2_b2 := Safe.ext E2 R1.1 sf_b2
  have R2 := CHr.trans R1 (CHr.ext E2 R1.1)
  have F2_b2_value : Fld Z h2 b2 "java/lang/AbstractStringBuilder" "value" "[B" .null := D2 (Or.inl (ww hw 53 rfl)) (ty := (.array .byte)) (by decide)
  have F2_b2_coder : Fld Z h2 b2 "java/lang/AbstractStringBuilder" "coder" "B" (.int 0) := D2 (Or.inl (ww hw 55 rfl)) (ty := .byte) (by decide)
  have F2_b2_count : Fld Z h2 b2 "java/lang/AbstractStringBuilder" "count" "I" (.int 0) := D2 (Or.inl (ww hw 80 rfl)) (ty := .int) (by decide)
  have F2_b2_maybeLatin1 : Fld Z h2 b2 "java/lang/AbstractStringBuilder" "maybeLatin1" "Z" (.int 0) := D2 (Or.inl (ww hw 305 rfl)) (ty := .boolean) (by decide)
  obtain ⟨_, _, ⟨T3, L3, k3, n3⟩, -, X3, ⟨Lc3, hQ3, l3, y3, z3⟩, st3⟩ := X2.specialBack hx (y := mN36) rfl hown (mw hZ hw 41 rfl) (mw hZ hw 42 rfl) (mw hZ hw 43 rfl) (by decide) (backOf (W := 3) (rm_sn l Z a0 hw [] b2 h2 n0 (own_old0 Y2) Y2 zc fm S A2 F2_b2_value F2_b2_coder F2_b2_count F2_b2_maybeLatin1 g_b2) hZ (ww hw 43 rfl) (ww hw 40 rfl) (by decide) (by decide)) (g := (mkF m 8 #[rv sa] [(.ref b2), (.ref b2), (.ref b1), (.ref b1)])) rfl (by rw [hml]; rfl) (Steps.refl _) (a := b2) (argsL := []) (rest := [(.ref b2), (.ref b1), (.ref b1)]) (lenOf pd_16 rfl) rfl own_z (hb hby d7_8) (fun _ _ => ⟨rfl, e2, (by decide : 2 + 1 ≤ _), (by decide : 10 + 16 ≤ _)⟩)
  dsimp only [Pt.U, Pt.locs, Pt.cells, Pt.slots] at X3 l3 y3 z3 st3 hQ3
  rw [y3, z3] at X3
  obtain ⟨u3, ku3, rfl, N3q, Kc3, zz3, Bc3⟩ := hQ3
  have N3 := own_fr l3 N0 N3q
  have ne_sa_u3 : sa ≠ u3 := Nat.ne_of_lt (Nat.lt_of_lt_of_le Xa_2.lt0 zz3)
  have ne_ta_u3 : ta ≠ u3 := Nat.ne_of_lt (Nat.lt_of_lt_of_le Xa_2.lt1 zz3)
  have ne_b1_u3 : b1 ≠ u3 := Nat.ne_of_lt (Nat.lt_of_lt_of_le Ex_2.lt0 zz3)
  have z_u3 : h0.size ≤ u3 := Nat.le_trans sz2 zz3
  have g_u3 : n0 ≤ u3 := Nat.le_trans Z0 z_u3
  have sf_u3 : Safe Z consts_1 _ _ u3 := Safe.new (vm := s.vm) (h := h2) zz3
  have Xa_3 := Xa_2.keep Kc3 (ninS ne_sa_b2 nin0) (ninS ne_ta_b2 nin0)
  have Ex_3 := Ex_2.keep Kc3 (ninS ne_b1_b2 nin0)
  have Y3 := Old.keep Y2 Kc3 (allS g_b2 all0)
  have sz3 : h0.size ≤ T3.heap.size := Nat.le_trans sz2 Kc3.1
  have K3k : Keep h0 T3.heap [] := Keep.trans K2 Kc3 (allS (Or.inr z_b2) all0)
  have sf3_b1 := Safe.keep Kc3 (allS sf2_b2 all0) R2.1 sf2_b1
  have sf3_b2 := Safe.keep Kc3 (allS sf2_b2 all0) R2.1 sf2_b2
  have sf3_u3 := Safe.keep Kc3 (allS sf2_b2 all0) R2.1 sf_u3
  have R3 := CHr.trans R2 (CHr.keep Kc3 (allS sf2_b2 all0) R2.1)
  obtain ⟨a4, T4, h4, kk4, b4, kb4, X4, e4, E4, hS4, hk4q, hZ4, hown4, Ea4, Ca4, Va4, Ab4, la4, lb4, hC4, Li4, hsf4, st4⟩ := ldcCH (s := s) (vm0 := s.vm) (EL := consts_1) X3 hx hZ hown (ww hw 56 rfl) wSa rfl ((State.WarmedH.refl s).since T3.heap.size) (Nat.le_refl _) hEL (List.mem_of_getElem? (i := 0) rfl) R3.1 (vs := [(.int (StrChars.lo8 (111 : Int32))), (.int (StrChars.lo8 (112 : Int32))), (.int (StrChars.lo8 (116 : Int32))), (.int (StrChars.lo8 (105 : Int32))), (.int (StrChars.lo8 (111 : Int32))), (.int (StrChars.lo8 (110 : Int32))), (.int (StrChars.lo8 (32 : Int32)))]) (z := (7 : Int32)) ⟨by decide, by first | rfl | decide⟩ (by decide) (by first | rfl | decide) (g := (mkF m 11 #[rv sa] [(.ref b2), (.ref b1), (.ref b1)])) rfl (hb hby d7_11) (n := 28) (by first | decide | simp) (by decide) (by decide) (by decide)
  have sf4_b1 := CHr.safe hC4 Ex_3.lt0 sf3_b1
  have sf4_b2 := CHr.safe hC4 Bc3.lt0 sf3_b2
  have sf4_u3 := CHr.safe hC4 Bc3.lt1 sf3_u3
  have Xa_4 := Xa_3.ext E4
  have Ex_4 := Ex_3.ext E4
  have Bb_4 := Bc3.ext E4
  have Y4 := Old.ext Y3 E4
  have sz4 : h0.size ≤ h4.size := Nat.le_trans sz3 E4.1
  have K4 : Keep h0 h4 [] := K3k.ext E4
  have R4 := CHr.trans R3 hC4
  have ne_b4_u3 := (hsf4 u3 sf4_u3).2.symm
  have tx4 : TX Z h4 a4 b4 kb4 (7 : Int32) [(.int (StrChars.lo8 (111 : Int32))), (.int (StrChars.lo8 (112 : Int32))), (.int (StrChars.lo8 (116 : Int32))), (.int (StrChars.lo8 (105 : Int32))), (.int (StrChars.lo8 (111 : Int32))), (.int (StrChars.lo8 (110 : Int32))), (.int (StrChars.lo8 (32 : Int32)))] (0 : Int32) := ⟨Ea4, Ca4, Va4, Ab4⟩
  obtain ⟨cq5, kq5, q5a, q5b, q5c⟩ := isOf hZ4 e4 Bb_4.1
  obtain ⟨_, _, ⟨T5, L5, k5, n5⟩, -, X5, ⟨Lc5, hQ5, l5, y5, z5⟩, st5⟩ := X4.virtualBack hx (y := mN34) (z := mN34) hown4 (mw hZ4 hw 59 rfl) (mw hZ4 hw 60 rfl) (notFace_of_selects (args := #[]) (mw hZ4 hw 62 rfl)) (mw hZ4 hw 62 rfl) (mw hZ4 hw 61 rfl) (by decide) (backOf (W := 2) (rm_sbN l Z a0 hw [] b2 a4 h4 n0 (own_old0 Y4) Y4 zc fm S (0 : Int32) u3 ku3 [(Value.int 0), (Value.int 0), (Value.int 0), (Value.int 0), (Value.int 0), (Value.int 0), (Value.int 0), (Value.int 0), (Value.int 0), (Value.int 0), (Value.int 0), (Value.int 0), (Value.int 0), (Value.int 0), (Value.int 0), (Value.int 0)] Bb_4 g_b2 g_u3 b4 kb4 (7 : Int32) own_vo tx4 ne_b4_u3 (7 : Int32) (7 : Int32) (by decide) (by decide) (by decide) (0 : Int32) 0 7 (by decide) (by decide) rfl) hZ4 (ww hw 63 rfl) (ww hw 40 rfl) (by decide) (by decide)) q5a q5c (g := (mkF m 13 #[rv sa] [(.ref a4), (.ref b2), (.ref b1), (.ref b1)])) rfl (by rw [hml]; rfl) (Steps.refl _) (argsL := [(.ref a4)]) (rest := [(.ref b1), (.ref b1)]) (lenOf pd_31 rfl) rfl own_z (hb hby d7_13) (fun _ _ => ⟨rfl, e4, (by decide : 5 + 0 ≤ _), (by decide : 58 + 0 ≤ _)⟩)
  dsimp only [Pt.U, Pt.locs, Pt.cells, Pt.slots] at X5 l5 y5 z5 st5 hQ5
  rw [y5, z5] at X5
  obtain ⟨rfl, N5q, Kc5, Bc5⟩ := hQ5
  have N5 := own_fr l5 N3 N5q
  have Xa_5 := Xa_4.keep Kc5 (ninS ne_sa_b2 (ninS ne_sa_u3 nin0)) (ninS ne_ta_b2 (ninS ne_ta_u3 nin0))
  have Ex_5 := Ex_4.keep Kc5 (ninS ne_b1_b2 (ninS ne_b1_u3 nin0))
  have Y5 := Old.keep Y4 Kc5 (allS g_b2 (allS g_u3 all0))
  have sz5 : h0.size ≤ T5.heap.size := Nat.le_trans sz4 Kc5.1
  have K5k : Keep h0 T5.heap [] := Keep.trans K4 Kc5 (allS (Or.inr z_b2) (allS (Or.inr z_u3) all0))
  have sf5_b1 := Safe.keep Kc5 (allS sf4_b2 (allS sf4_u3 all0)) R4.1 sf4_b1
  have sf5_b2 := Safe.keep Kc5 (allS sf4_b2 (allS sf4_u3 all0)) R4.1 sf4_b2
  have R5 := CHr.trans R4 (CHr.keep Kc5 (allS sf4_b2 (allS sf4_u3 all0)) R4.1)
  have hk5 : kk4 ≤ T5.heap.size := Nat.le_trans hk4q Kc5.1
  have Bd5 : SB Z T5.heap b2 u3 ku3 (16 : Int32) own_v1 (0 : Int32) (7 : Int32) := Bc5
  obtain ⟨cq6, kq6, q6a, q6b, q6c⟩ := isOf hZ4 rfl Bd5.1
  obtain ⟨_, _, ⟨T6, L6, k6, n6⟩, -, X6, ⟨Lc6, hQ6, l6, y6, z6⟩, st6⟩ := X5.virtualBack hx (y := mN34) (z := mN34) hown4 (mw hZ4 hw 59 rfl) (mw hZ4 hw 60 rfl) (notFace_of_selects (args := #[]) (mw hZ4 hw 62 rfl)) (mw hZ4 hw 62 rfl) (mw hZ4 hw 61 rfl) (by decide) (backOf (W := 2) (rm_sbM l Z a0 hw [] b2 sa T5.heap n0 (own_old0 Y5) Y5 zc fm S (7 : Int32) u3 ku3 own_v1 Bd5 g_b2 g_u3 ta ka Na va Xa_5 ne_ta_u3 nl mb hgt.1 hgt.2.1 hgt.2.2.1 own_opt 7 (by decide) own_so (14 : Int32) 14 (2 * nk) hgt.2.2.2.1 (by have := hgt.2.2.2.2.2.2.2.2.2; rw [own_infl]; simp; omega) hva) hZ4 (ww hw 63 rfl) (ww hw 40 rfl) (by decide) (by decide)) q6a q6c (g := (mkF m 17 #[rv sa] [(.ref sa), (.ref b2), (.ref b1), (.ref b1)])) rfl (by rw [hml]; rfl) (Steps.refl _) (argsL := [(.ref sa)]) (rest := [(.ref b1), (.ref b1)]) (lenOf pd_31 rfl) rfl own_z (hb hby d7_17) (fun _ _ => ⟨rfl, rfl, (by decide : 5 + 1 ≤ _), (by decide : 58 + 32 ≤ _)⟩)
  dsimp only [Pt.U, Pt.locs, Pt.cells, Pt.slots] at X6 l6 y6 z6 st6 hQ6
  rw [y6, z6] at X6
  obtain ⟨u6, ku6, rfl, N6q, Kc6, zz6, Bc6⟩ := hQ6
  have N6 := own_fr l6 N5 N6q
  have z_u6 : h0.size ≤ u6 := Nat.le_trans sz5 zz6
  have g_u6 : n0 ≤ u6 := Nat.le_trans Z0 z_u6
  have sf_u6 : Safe Z consts_1 _ _ u6 := Safe.new (vm := T4.vm) (h := T5.heap) zz6
  have Ex_6 := Ex_5.keep Kc6 (ninS ne_b1_b2 nin0)
  have Y6 := Old.keep Y5 Kc6 (allS g_b2 all0)
  have sz6 : h0.size ≤ T6.heap.size := Nat.le_trans sz5 Kc6.1
  have K6k : Keep h0 T6.heap [] := Keep.trans K5k Kc6 (allS (Or.inr z_b2) all0)
  have sf6_b1 := Safe.keep Kc6 (allS sf5_b2 all0) R5.1 sf5_b1
  have sf6_b2 := Safe.keep Kc6 (allS sf5_b2 all0) R5.1 sf5_b2
  have sf6_u6 := Safe.keep Kc6 (allS sf5_b2 all0) R5.1 sf_u6
  have R6 := CHr.trans R5 (CHr.keep Kc6 (allS sf5_b2 all0) R5.1)
  have hk6 : kk4 ≤ T6.heap.size := Nat.le_trans hk5 Kc6.1
  obtain ⟨a7, T7, h7, kk7, b7, kb7, X7, e7, E7, hS7, hk7q, hZ7, hown7, Ea7, Ca7, Va7, Ab7, la7, lb7, hC7, Li7, hsf7, st7⟩ := ldcCH (s := s) (vm0 := T4.vm) (EL := consts_1) X6 hx hZ4 hown4 (ww hw 106 rfl) wSa rfl hS4 hk6 hEL (List.mem_of_getElem? (i := 1) rfl) R6.1 (vs := [(.int (StrChars.lo8 (32 : Int32))), (.int (StrChars.lo8 (105 : Int32))), (.int (StrChars.lo8 (115 : Int32))), (.int (StrChars.lo8 (32 : Int32))), (.int (StrChars.lo8 (103 : Int32))), (.int (StrChars.lo8 (105 : Int32))), (.int (StrChars.lo8 (118 : Int32))), (.int (StrChars.lo8 (101 : Int32))), (.int (StrChars.lo8 (110 : Int32))), (.int (StrChars.lo8 (32 : Int32))), (.int (StrChars.lo8 (116 : Int32))), (.int (StrChars.lo8 (119 : Int32))), (.int (StrChars.lo8 (105 : Int32))), (.int (StrChars.lo8 (99 : Int32))), (.int (StrChars.lo8 (101 : Int32)))]) (z := (15 : Int32)) ⟨by decide, by first | rfl | decide⟩ (by decide) (by first | rfl | decide) (g := (mkF m 20 #[rv sa] [(.ref b2), (.ref b1), (.ref b1)])) rfl (hb hby d7_20) (n := 60) (by first | decide | simp) (by decide) (by decide) (by decide)
  have sf7_b1 := CHr.safe hC7 Ex_6.lt0 sf6_b1
  have sf7_b2 := CHr.safe hC7 Bc6.lt0 sf6_b2
  have sf7_u6 := CHr.safe hC7 Bc6.lt1 sf6_u6
  have Ex_7 := Ex_6.ext E7
  have Bb_7 := Bc6.ext E7
  have Y7 := Old.ext Y6 E7
  have sz7 : h0.size ≤ h7.size := Nat.le_trans sz6 E7.1
  have K7 : Keep h0 h7 [] := K6k.ext E7
  have R7 := CHr.trans R6 hC7
  have ne_b7_u6 := (hsf7 u6 sf7_u6).2.symm
  have tx7 : TX Z h7 a7 b7 kb7 (15 : Int32) [(.int (StrChars.lo8 (32 : Int32))), (.int (StrChars.lo8 (105 : Int32))), (.int (StrChars.lo8 (115 : Int32))), (.int (StrChars.lo8 (32 : Int32))), (.int (StrChars.lo8 (103 : Int32))), (.int (StrChars.lo8 (105 : Int32))), (.int (StrChars.lo8 (118 : Int32))), (.int (StrChars.lo8 (101 : Int32))), (.int (StrChars.lo8 (110 : Int32))), (.int (StrChars.lo8 (32 : Int32))), (.int (StrChars.lo8 (116 : Int32))), (.int (StrChars.lo8 (119 : Int32))), (.int (StrChars.lo8 (105 : Int32))), (.int (StrChars.lo8 (99 : Int32))), (.int (StrChars.lo8 (101 : Int32)))] (0 : Int32) := ⟨Ea7, Ca7, Va7, Ab7⟩
  obtain ⟨cq8, kq8, q8a, q8b, q8c⟩ := isOf hZ7 e7 Bb_7.1
  obtain ⟨_, _, ⟨T8, L8, k8, n8⟩, -, X8, ⟨Lc8, hQ8, l8, y8, z8⟩, st8⟩ := X7.virtualBack hx (y := mN34) (z := mN34) hown7 (mw hZ7 hw 59 rfl) (mw hZ7 hw 60 rfl) (notFace_of_selects (args := #[]) (mw hZ7 hw 62 rfl)) (mw hZ7 hw 62 rfl) (mw hZ7 hw 61 rfl) (by decide) (backOf (W := 2) (rm_sbW l Z a0 hw [] b2 a7 h7 n0 (own_old0 Y7) Y7 zc fm S mb (32 : Int32) gw (36 : Int32) (68 : Int32) (34 : Int32) (16 : Int32) 32 68 u6 ku6 ((own_inf own_opt 7 0 0 (List.replicate 32 (Value.int 0))).take 14 ++ va ++ (own_inf own_opt 7 0 0 (List.replicate 32 (Value.int 0))).drop (14 + (2 * nk))) Bb_7 g_b2 g_u6 b7 kb7 (15 : Int32) own_vf tx7 ne_b7_u6 (15 : Int32) mc (by decide) hgt.2.2.2.2.1 hgt.2.2.2.2.2.1 (by have := hgt.2.2.2.2.2.2.2.2.2; simp [hva, own_infl]; omega) own_suf (34 : Int32) (7 + nk) 15 68 hgt.2.2.2.2.2.2.1 (by have := hgt.2.2.2.2.2.2.2.2.2; simp [hva, own_infl]; omega) own_ss) hZ7 (ww hw 63 rfl) (ww hw 40 rfl) (by decide) (by decide)) q8a q8c (g := (mkF m 22 #[rv sa] [(.ref a7), (.ref b2), (.ref b1), (.ref b1)])) rfl (by rw [hml]; rfl) (Steps.refl _) (argsL := [(.ref a7)]) (rest := [(.ref b1), (.ref b1)]) (lenOf pd_31 rfl) rfl own_z (hb hby d7_22) (fun _ _ => ⟨rfl, e7, (by decide : 8 + 1 ≤ _), (by decide : 154 + 68 ≤ _)⟩)
  dsimp only [Pt.U, Pt.locs, Pt.cells, Pt.slots] at X8 l8 y8 z8 st8 hQ8
  rw [y8, z8] at X8
  obtain ⟨u8, ku8, rfl, N8q, Kc8, zz8, Bc8⟩ := hQ8
  have N8 := own_fr l8 N6 N8q
  have z_u8 : h0.size ≤ u8 := Nat.le_trans sz7 zz8
  have g_u8 : n0 ≤ u8 := Nat.le_trans Z0 z_u8
  have Ex_8 := Ex_7.keep Kc8 (ninS ne_b1_b2 nin0)
  have Y8 := Old.keep Y7 Kc8 (allS g_b2 all0)
  have K8k : Keep h0 T8.heap [] := Keep.trans K7 Kc8 (allS (Or.inr z_b2) all0)
  have sf8_b1 := Safe.keep Kc8 (allS sf7_b2 all0) R7.1 sf7_b1
  have R8 := CHr.trans R7 (CHr.keep Kc8 (allS sf7_b2 all0) R7.1)
  have hk8 : kk7 ≤ T8.heap.size := Nat.le_trans hk7q Kc8.1
  obtain ⟨cq9, kq9, q9a, q9b, q9c⟩ := isOf hZ7 rfl Bc8.1
  obtain ⟨_, _, ⟨T9, L9, k9, n9⟩, -, X9, ⟨Lc9, hQ9, l9, y9, z9⟩, st9⟩ := X8.virtualBack hx (y := mN42) (z := mN42) hown7 (mw hZ7 hw 130 rfl) (mw hZ7 hw 131 rfl) (notFace_of_selects (args := #[]) (mw hZ7 hw 133 rfl)) (mw hZ7 hw 133 rfl) (mw hZ7 hw 132 rfl) (by decide) (backOf (W := 2) (rm_tsW l Z a0 hw [] b2 T8.heap n0 (own_old0 Y8) Y8 zc fm S (68 : Int32) mc kz u8 ku8 (own_inf own_suf 15 0 (7 + nk) (((own_inf own_opt 7 0 0 (List.replicate 32 (Value.int 0))).take 14 ++ va ++ (own_inf own_opt 7 0 0 (List.replicate 32 (Value.int 0))).drop (14 + (2 * nk))) ++ List.replicate (68 - 32) (Value.int 0))) Bc8 g_b2 g_u8 (2 * (22 + nk)) hgt.2.2.2.2.2.2.2.2.1 (by have := hgt.2.2.2.2.2.2.2.2.2; simp [hva, own_infl]; omega) hgt.2.2.2.2.2.2.2.1) hZ7 (ww hw 134 rfl) (ww hw 40 rfl) (by decide) (by decide)) q9a q9c (g := (mkF m 25 #[rv sa] [(.ref b2), (.ref b1), (.ref b1)])) rfl (by rw [hml]; rfl) (Steps.refl _) (argsL := []) (rest := [(.ref b1), (.ref b1)]) (lenOf pd_32 rfl) rfl own_z (hb hby d7_25) (fun _ _ => ⟨rfl, rfl, (by decide : 9 + 2 ≤ _), (by decide : 222 + 54 ≤ _)⟩)
  dsimp only [Pt.U, Pt.locs, Pt.cells, Pt.slots] at X9 l9 y9 z9 st9 hQ9
  rw [y9, z9] at X9
  obtain ⟨m9, u9, ku9, rfl, N9q, E9, zm9, zu9, Xm9⟩ := hQ9
  have N9 := own_fr l9 N8 N9q
  have ne_m9_b1 : m9 ≠ b1 := Nat.ne_of_gt (Nat.lt_of_lt_of_le Ex_8.lt0 zm9)
  have ne_u9_b1 : u9 ≠ b1 := Nat.ne_of_gt (Nat.lt_of_lt_of_le Ex_8.lt0 zu9)
  have Ex_9 := Ex_8.ext E9
  have Y9 := Old.ext Y8 E9
  have K9 : Keep h0 T9.heap [] := K8k.ext E9
  have sf9_b1 := Safe.ext E9 R8.1 sf8_b1
  have R9 := CHr.trans R8 (CHr.ext E9 R8.1)
  have hk9 : kk7 ≤ T9.heap.size := Nat.le_trans hk8 E9.1
  obtain ⟨_, _, ⟨T10, L10, k10, n10⟩, -, X10, ⟨Lc10, hQ10, l10, y10, z10⟩, st10⟩ := X9.specialBack hx (y := mN51) rfl hown7 (mw hZ7 hw 169 rfl) (mw hZ7 hw 170 rfl) (mw hZ7 hw 171 rfl) (by decide) (backOfKL (W := 1) (rm_ue l Z a0 hw [] b1 m9 T9.heap n0 (own_old0 Y9) Y9 zc fm S hl ua us SU SS Ex_9 g_b1) hZ7 (ww hw 171 rfl) (ww hw 37 rfl) (by decide) (by decide) (Vm.MethodsKnown.alikeC hS7.1.alike hK.1) (Vm.FramesKnown.alikeC hS7.1.alike hK.2)) (g := (mkF m 28 #[rv sa] [(.ref m9), (.ref b1), (.ref b1)])) rfl (by rw [hml]; rfl) (Steps.refl _) (a := b1) (argsL := [(.ref m9)]) (rest := [(.ref b1)]) (lenOf pd_18 rfl) rfl own_z (hb hby d7_28) (fun _ _ => ⟨rfl, rfl, (by decide : 11 + 1 ≤ _), (by decide : 276 + 2752 ≤ _)⟩)
  dsimp only [Pt.U, Pt.locs, Pt.cells, Pt.slots] at X10 l10 y10 z10 st10 hQ10
  rw [y10, z10] at X10
  obtain ⟨rfl, N10q, Kc10, Ec10, Fc10⟩ := hQ10
  have N10 := own_fr l10 N9 N10q
  have Xm_10 := Xm9.keep Kc10 (ninS ne_m9_b1 nin0) (ninS ne_u9_b1 nin0)
  have K10k : Keep h0 T10.heap [] := Keep.trans K9 Kc10 (allS (Or.inr z_b1) all0)
  have R10 := CHr.trans R9 (CHr.keep Kc10 (allS sf9_b1 all0) R9.1)
  have hk10 : kk7 ≤ T10.heap.size := Nat.le_trans hk9 Kc10.1
  have pre11 : Pr p e below (T10.setTop (mkF m 31 #[rv sa] [(.ref b1)])) (s₁.setTop (entryFrame m #[(.ref sa)] 1)) := fun t k => pre0 t (by
    show Steps _ _ _ (s₁.setTop (mkF m 0 #[rv sa] [])) _
    refine st1 _ ?_
    refine XS.dup X1.here hx rfl (hb hby d7_3) rfl rfl ?_
    refine st2 _ ?_
    refine XS.dup X2.here hx rfl (hb hby d7_7) rfl rfl ?_
    refine st3.trans ?_
    refine st4 _ ?_
    refine st5.trans ?_
    refine XS.aloadN X5.here hx rfl (hb hby d7_16) rfl rfl ?_
    refine st6.trans ?_
    refine st7 _ ?_
    refine st8.trans ?_
    refine st9.trans ?_
    refine st10.trans ?_
    exact k)
  obtain ⟨fs, hr, hrun, hended, hEnd⟩ := X10.leaveW hS7 hk10 (v := some (.ref b1)) (fun h => by rw [Bd.returns] at h; cases h) (hlocks := Bd.notSynchronized)
  refine ⟨_, _, pre11 _ ?_, hrun, hended, _, _, rfl, ?_, ?_, own_endW hEnd (by decide) (by decide)⟩
  · show Steps _ _ _ (T10.setTop (mkF m 31 #[rv sa] [(.ref b1)])) _
    exact retOut X10 hx Bd.returns rfl (Or.inr (Or.inr (Or.inr (Or.inr ⟨rfl, rfl, rfl⟩)))) (hb hby d7_31) hr
  · show (Qt Z kz ((own_inf own_suf 15 0 (7 + nk) (((own_inf own_opt 7 0 0 (List.replicate 32 (Value.int 0))).take 14 ++ va ++ (own_inf own_opt 7 0 0 (List.replicate 32 (Value.int 0))).drop (14 + (2 * nk))) ++ List.replicate (68 - 32) (Value.int 0))).take (2 * (22 + nk))) (1 : Int32)) h0 n0 _ T10.heap _
    exact ⟨_, _, _, _, rfl, N10, own_ext_of K10k, Ec10, Fc10, Xm_10⟩
  · show CHr Z consts_1 s.vm s.heap T10.vm T10.heap
    rw [hh]
    exact CHr.trans R10 (CHv.at (s := s) (vm0 := T7.vm) X10 hZ7 hEL R10.1)
theorem rm_ca (l : Launch) (Z : State) (a0 : Array Value) (hw : ∀ d ∈ tables_1, d.before a0 Z = true) (ws : List Jvm.Cond) (sa : Addr) (ia : Int32) (h0 : Heap) (n0 : Nat) (Z0 : n0 ≤ h0.size) (Y0 : Old Z n0 h0) (zc : Int32) (fm : Value) (S : Sts Z Z.heap zc fm) (ms : List Int32) (M : TM Z h0 sa ms) (q : Nat) (hq : q < ms.length) (hi : ia = Int32.ofNat q) (cc : Int32) (hcq : ms.getD q 0 = cc) :
    MFa l mN26 jdk_42_method_56_code 2 (some .char) ws (Room.mk 5 0 0 90) Z h0 n0 #[.ref sa, .int ia] (Qp (some (.int cc))) := by
  obtain ⟨t, k, N, vs, cd, X, hd, h32⟩ := M
  subst hi hcq
  rcases hd with ⟨rfl, rfl, rfl, hall⟩ | ⟨rfl, rfl, rfl, hall⟩
  · exact rm_ca0 l Z a0 hw ws sa _ h0 n0 Z0 Y0 zc fm S t k _ _ X (own_o0 (by omega)) (own_ol hq (by omega)) _ (by rw [own_on (by omega)]; exact own_lb0 _ _ _ hq) (hall _ (own_mem hq))
  · have e2 : Int32.ofNat (2 * q) + (1 : Int32) = Int32.ofNat (2 * q + 1) := own_oa (by omega)
    exact rm_ca1 l Z a0 hw ws sa _ h0 n0 Z0 Y0 zc fm S t k _ _ X (Int32.ofNat ms.length) (own_or (by omega)) (own_o0 (by omega)) (own_ol hq (by omega)) (Int32.ofNat (2 * q)) (own_os (by omega)) ⟨own_o0 (by omega), own_ol (by omega) (by omega)⟩ (by rw [e2]; exact ⟨own_o0 (by omega), own_ol (by omega) (by omega)⟩) _ (by rw [own_on (by omega)]; exact (own_wb0 _ _ _ hq).1) (by rw [e2, own_on (by omega)]; exact (own_wb0 _ _ _ hq).2) (hall _ (own_mem hq))
theorem rm_lenM (l : Launch) (Z : State) (a0 : Array Value) (hw : ∀ d ∈ tables_1, d.before a0 Z = true) (ws : List Jvm.Cond) (sa : Addr) (h0 : Heap) (n0 : Nat) (Z0 : n0 ≤ h0.size) (Y0 : Old Z n0 h0) (zc : Int32) (fm : Value) (S : Sts Z Z.heap zc fm) (ms : List Int32) (M : TM Z h0 sa ms) (ln : Int32) (hln : Int32.ofNat ms.length = ln) :
    MFa l mN1 jdk_42_method_54_code 1 (some .int) ws (Room.mk 1 0 0 13) Z h0 n0 #[.ref sa] (Qp (some (.int ln))) := by
  obtain ⟨t, k, N, vs, cd, X, hd, h32⟩ := M
  subst hln
  rcases hd with ⟨rfl, rfl, rfl, hall⟩ | ⟨rfl, rfl, rfl, hall⟩
  · exact rm_len l Z a0 hw ws sa h0 n0 Z0 Y0 zc fm S _ (Or.inl rfl) t k _ _ X _ (own_or0 (by omega))
  · exact rm_len l Z a0 hw ws sa h0 n0 Z0 Y0 zc fm S _ (Or.inr rfl) t k _ _ X _ (own_or (by omega))
theorem pn_39 : plainName "com/example/tidegauge/tidegauge/OptionsGivenTwicePinLaw" = true := by first | (simp [plainName, overriddenIn]; done) | decide +kernel
theorem rm_px (l : Launch) (Z : State) (a0 : Array Value) (hw : ∀ d ∈ tables_1, d.before a0 Z = true) (ws : List Jvm.Cond) (sa : Addr) (h0 : Heap) (n0 : Nat) (Z0 : n0 ≤ h0.size) (Y0 : Old Z n0 h0) (zc : Int32) (fm : Value) (S : Sts Z Z.heap zc fm) (ms : List Int32) (M : TM Z h0 sa ms) (h7 : 7 ≤ ms.length) (hs0 : ms.getD 0 0 = (111 : Int32)) (hs1 : ms.getD 1 0 = (112 : Int32)) (hs2 : ms.getD 2 0 = (116 : Int32)) (hs3 : ms.getD 3 0 = (105 : Int32)) (hs4 : ms.getD 4 0 = (111 : Int32)) (hs5 : ms.getD 5 0 = (110 : Int32)) (hs6 : ms.getD 6 0 = (32 : Int32))  :
    MetFree l mN53 (head1 (Jvm.Cond.code mN53 method_2_code 2 (some .boolean) :: ws) (Room.mk 6 2 32 104)) (fun a U => a = #[(.ref sa)] ∧ Z.Warmed39 U.vm ∧ U.heap = h0 ∧ CHv Z consts_1 U.vm h0) (fun _ _ _ _ _ => True) (fun _ U o U' => ∃ v L, o = .returned v ∧ Qok h0 n0 v U'.heap L ∧ CHr Z consts_1 U.vm U.heap U'.vm U'.heap ∧ ReturnedEndW U o U' L (Room.mk 6 2 32 104).cells (Room.mk 6 2 32 104).slots) := by
  refine MetFree.of_bodySF (plainFor_of_name pn_39) hisR ?_
  intro p e s m args below meth c s₁ Bd hml0 hP hK
  obtain ⟨rfl, hZ, hh, hG⟩ := hP
  have hx := Bd.exec
  have hby := Bd.bytes
  have hml : c.maxLocals = 2 := hml0
  have hown : s.vm.findClass "com/example/tidegauge/tidegauge/OptionsGivenTwicePinLaw" = some m.cls := findClass_of_methodNamed Bd.named
  have X0 : Stand p l e (Room.mk 6 2 32 104) s m #[(.ref sa)] below meth c s₁ [] 0 0 := Stand.of_body Bd
  have e0 : s₁.heap = h0 := by rw [← hh, Bd.state]; rfl
  have N0 := Fr.nil n0
  have pre0 : Pr p e below (s₁.setTop (mkF m 0 #[rv sa, .unset] [])) (s₁.setTop (entryFrame m #[(.ref sa)] 2)) := fun t k => castTop (by first | (simp [entryFrame, mkF, argsToLocals, Value.category]; done) | rfl) k
  have hEL := own_EW hw
  have R0 : CHr Z consts_1 s.vm h0 s.vm h0 := CHr.refl hG
  have wSa : ∀ d ∈ Bundle.stringAtoms, d.before a0 Z = true := own_wSa hw
  obtain ⟨a1, T1, h1, kk1, b1, kb1, X1, e1, E1, hS1, hk1q, hZ1, hown1, Ea1, Ca1, Va1, Ab1, la1, lb1, hC1, Li1, hsf1, st1⟩ := ldcCH (s := s) (vm0 := s.vm) (EL := consts_1) X0 hx hZ hown (ww hw 231 rfl) wSa e0 ((State.WarmedH.refl s).since h0.size) (Nat.le_refl _) hEL (List.mem_of_getElem? (i := 2) rfl) R0.1 (vs := [(.int (StrChars.lo8 (111 : Int32))), (.int (StrChars.lo8 (112 : Int32))), (.int (StrChars.lo8 (116 : Int32))), (.int (StrChars.lo8 (105 : Int32))), (.int (StrChars.lo8 (111 : Int32))), (.int (StrChars.lo8 (110 : Int32))), (.int (StrChars.lo8 (32 : Int32)))]) (z := (7 : Int32)) ⟨by decide, by first | rfl | decide⟩ (by decide) (by first | rfl | decide) (g := (mkF m 0 #[rv sa, .unset] [])) rfl (hb hby d39_0) (n := 28) (by first | decide | simp) (by decide) (by decide) (by decide)
  have M_1 := M.ext E1
  have Y1 := Old.ext Y0 E1
  have K1 : Keep h0 h1 [] := (Keep.refl h0 []).ext E1
  have R1 := CHr.trans R0 hC1
  have tx1 : TX Z h1 a1 b1 kb1 (7 : Int32) [(.int (StrChars.lo8 (111 : Int32))), (.int (StrChars.lo8 (112 : Int32))), (.int (StrChars.lo8 (116 : Int32))), (.int (StrChars.lo8 (105 : Int32))), (.int (StrChars.lo8 (111 : Int32))), (.int (StrChars.lo8 (110 : Int32))), (.int (StrChars.lo8 (32 : Int32)))] (0 : Int32) := ⟨Ea1, Ca1, Va1, Ab1⟩
  have Ml : TM Z h1 a1 own_opt := ⟨_, _, _, _, _, tx1, Or.inl ⟨rfl, rfl, rfl, by unfold own_ch; decide⟩, by decide⟩
  obtain ⟨cq2, kq2, q2a, q2b, q2c⟩ := isOf hZ1 e1 M_1.exa
  obtain ⟨_, _, ⟨T2, L2, k2, n2⟩, -, X2, ⟨Lc2, hQ2, l2, y2, z2⟩, st2⟩ := X1.virtualBack hx (y := mN26) (z := mN26) hown1 (mw hZ1 hw 232 rfl) (mw hZ1 hw 233 rfl) (notFace_of_selects (args := #[]) (mw hZ1 hw 235 rfl)) (mw hZ1 hw 235 rfl) (mw hZ1 hw 234 rfl) (by decide) (backOf (W := 0) (rm_ca l Z a0 hw [] sa (0 : Int32) h1 n0 (own_old0 Y1) Y1 zc fm S ms M_1 0 (by omega) rfl (111 : Int32) hs0) hZ1 (ww hw 236 rfl) (ww hw 4 rfl) (by decide) (by decide)) q2a q2c (g := (mkF m 5 #[rv sa, rv a1] [(.int 0), (.ref sa)])) rfl (by rw [hml]; rfl) (Steps.refl _) (argsL := [(.int 0)]) (rest := []) (lenOf pd_33 rfl) rfl own_z (hb hby d39_5) (fun _ _ => ⟨rfl, e1, (by decide : 2 + 0 ≤ _), (by decide : 32 + 0 ≤ _)⟩)
  dsimp only [Pt.U, Pt.locs, Pt.cells, Pt.slots] at X2 l2 y2 z2 st2 hQ2
  rw [y2, z2] at X2
  obtain ⟨rfl, N2q, e2⟩ := hQ2
  have N2 := own_fr l2 N0 N2q
  obtain ⟨cq3, kq3, q3a, q3b, q3c⟩ := isOf hZ1 e2 Ml.exa
  obtain ⟨_, _, ⟨T3, L3, k3, n3⟩, -, X3, ⟨Lc3, hQ3, l3, y3, z3⟩, st3⟩ := X2.virtualBack hx (y := mN26) (z := mN26) hown1 (mw hZ1 hw 232 rfl) (mw hZ1 hw 233 rfl) (notFace_of_selects (args := #[]) (mw hZ1 hw 235 rfl)) (mw hZ1 hw 235 rfl) (mw hZ1 hw 234 rfl) (by decide) (backOf (W := 1) (rm_ca l Z a0 hw [] a1 (0 : Int32) h1 n0 (own_old0 Y1) Y1 zc fm S _ Ml 0 (by decide) rfl (111 : Int32) rfl) hZ1 (ww hw 236 rfl) (ww hw 4 rfl) (by decide) (by decide)) q3a q3c (g := (mkF m 10 #[rv sa, rv a1] [(.int 0), (.ref a1), (.int 111)])) rfl (by rw [hml]; rfl) (Steps.refl _) (argsL := [(.int 0)]) (rest := [(.int 111)]) (lenOf pd_33 rfl) rfl own_z (hb hby d39_10) (fun _ _ => ⟨rfl, e2, (by decide : 2 + 0 ≤ _), (by decide : 32 + 0 ≤ _)⟩)
  dsimp only [Pt.U, Pt.locs, Pt.cells, Pt.slots] at X3 l3 y3 z3 st3 hQ3
  rw [y3, z3] at X3
  obtain ⟨rfl, N3q, e3⟩ := hQ3
  have N3 := own_fr l3 N2 N3q
  obtain ⟨cq4, kq4, q4a, q4b, q4c⟩ := isOf hZ1 e3 M_1.exa
  obtain ⟨_, _, ⟨T4, L4, k4, n4⟩, -, X4, ⟨Lc4, hQ4, l4, y4, z4⟩, st4⟩ := X3.virtualBack hx (y := mN26) (z := mN26) hown1 (mw hZ1 hw 232 rfl) (mw hZ1 hw 233 rfl) (notFace_of_selects (args := #[]) (mw hZ1 hw 235 rfl)) (mw hZ1 hw 235 rfl) (mw hZ1 hw 234 rfl) (by decide) (backOf (W := 0) (rm_ca l Z a0 hw [] sa (1 : Int32) h1 n0 (own_old0 Y1) Y1 zc fm S ms M_1 1 (by omega) rfl (112 : Int32) hs1) hZ1 (ww hw 236 rfl) (ww hw 4 rfl) (by decide) (by decide)) q4a q4c (g := (mkF m 18 #[rv sa, rv a1] [(.int 1), (.ref sa)])) rfl (by rw [hml]; rfl) (Steps.refl _) (argsL := [(.int 1)]) (rest := []) (lenOf pd_33 rfl) rfl own_z (hb hby d39_18) (fun _ _ => ⟨rfl, e3, (by decide : 2 + 0 ≤ _), (by decide : 32 + 0 ≤ _)⟩)
  dsimp only [Pt.U, Pt.locs, Pt.cells, Pt.slots] at X4 l4 y4 z4 st4 hQ4
  rw [y4, z4] at X4
  obtain ⟨rfl, N4q, e4⟩ := hQ4
  have N4 := own_fr l4 N3 N4q
  have pre5 : Pr p e below (T4.setTop (mkF m 22 #[rv sa, rv a1] [(.ref a1), (.int 112)])) (s₁.setTop (entryFrame m #[(.ref sa)] 2)) := fun t k => pre0 t (by
    show Steps _ _ _ (s₁.setTop (mkF m 0 #[rv sa, .unset] [])) _
    refine st1 _ ?_
    refine XS.astoreN X1.here hx rfl (hb hby d39_2) rfl rfl (l' := #[rv sa, rv a1]) rfl ?_
    refine XS.aloadN X1.here hx rfl (hb hby d39_3) rfl rfl ?_
    refine XT.iconstV X1.here hx rfl (0 : Int32) (hb hby d39_4) (by decide) ?_
    refine st2.trans ?_
    refine XS.aloadN X2.here hx rfl (hb hby d39_8) rfl rfl ?_
    refine XT.iconstV X2.here hx rfl (0 : Int32) (hb hby d39_9) (by decide) ?_
    refine st3.trans ?_
    show Steps _ _ _ (T3.setTop (mkF m 13 #[rv sa, rv a1] [(.int 111), (.int 111)])) _
    refine XS.icmpNo X3.here hx rfl (hb hby d39_13) rfl (teq (by decide : ((111 : Int32) = (111 : Int32)))).2 ?_
    refine XS.aloadN X3.here hx rfl (hb hby d39_16) rfl rfl ?_
    refine XT.iconstV X3.here hx rfl (1 : Int32) (hb hby d39_17) (by decide) ?_
    refine st4.trans ?_
    refine XS.aloadN X4.here hx rfl (hb hby d39_21) rfl rfl ?_
    exact k)
  obtain ⟨cq6, kq6, q6a, q6b, q6c⟩ := isOf hZ1 e4 Ml.exa
  obtain ⟨_, _, ⟨T6, L6, k6, n6⟩, -, X6, ⟨Lc6, hQ6, l6, y6, z6⟩, st6⟩ := X4.virtualBack hx (y := mN26) (z := mN26) hown1 (mw hZ1 hw 232 rfl) (mw hZ1 hw 233 rfl) (notFace_of_selects (args := #[]) (mw hZ1 hw 235 rfl)) (mw hZ1 hw 235 rfl) (mw hZ1 hw 234 rfl) (by decide) (backOf (W := 1) (rm_ca l Z a0 hw [] a1 (1 : Int32) h1 n0 (own_old0 Y1) Y1 zc fm S _ Ml 1 (by decide) rfl (112 : Int32) rfl) hZ1 (ww hw 236 rfl) (ww hw 4 rfl) (by decide) (by decide)) q6a q6c (g := (mkF m 23 #[rv sa, rv a1] [(.int 1), (.ref a1), (.int 112)])) rfl (by rw [hml]; rfl) (Steps.refl _) (argsL := [(.int 1)]) (rest := [(.int 112)]) (lenOf pd_33 rfl) rfl own_z (hb hby d39_23) (fun _ _ => ⟨rfl, e4, (by decide : 2 + 0 ≤ _), (by decide : 32 + 0 ≤ _)⟩)
  dsimp only [Pt.U, Pt.locs, Pt.cells, Pt.slots] at X6 l6 y6 z6 st6 hQ6
  rw [y6, z6] at X6
  obtain ⟨rfl, N6q, e6⟩ := hQ6
  have N6 := own_fr l6 N4 N6q
  obtain ⟨cq7, kq7, q7a, q7b, q7c⟩ := isOf hZ1 e6 M_1.exa
  obtain ⟨_, _, ⟨T7, L7, k7, n7⟩, -, X7, ⟨Lc7, hQ7, l7, y7, z7⟩, st7⟩ := X6.virtualBack hx (y := mN26) (z := mN26) hown1 (mw hZ1 hw 232 rfl) (mw hZ1 hw 233 rfl) (notFace_of_selects (args := #[]) (mw hZ1 hw 235 rfl)) (mw hZ1 hw 235 rfl) (mw hZ1 hw 234 rfl) (by decide) (backOf (W := 0) (rm_ca l Z a0 hw [] sa (2 : Int32) h1 n0 (own_old0 Y1) Y1 zc fm S ms M_1 2 (by omega) rfl (116 : Int32) hs2) hZ1 (ww hw 236 rfl) (ww hw 4 rfl) (by decide) (by decide)) q7a q7c (g := (mkF m 31 #[rv sa, rv a1] [(.int 2), (.ref sa)])) rfl (by rw [hml]; rfl) (Steps.refl _) (argsL := [(.int 2)]) (rest := []) (lenOf pd_33 rfl) rfl own_z (hb hby d39_31) (fun _ _ => ⟨rfl, e6, (by decide : 2 + 0 ≤ _), (by decide : 32 + 0 ≤ _)⟩)
  dsimp only [Pt.U, Pt.locs, Pt.cells, Pt.slots] at X7 l7 y7 z7 st7 hQ7
  rw [y7, z7] at X7
  obtain ⟨rfl, N7q, e7⟩ := hQ7
  have N7 := own_fr l7 N6 N7q
  obtain ⟨cq8, kq8, q8a, q8b, q8c⟩ := isOf hZ1 e7 Ml.exa
  obtain ⟨_, _, ⟨T8, L8, k8, n8⟩, -, X8, ⟨Lc8, hQ8, l8, y8, z8⟩, st8⟩ := X7.virtualBack hx (y := mN26) (z := mN26) hown1 (mw hZ1 hw 232 rfl) (mw hZ1 hw 233 rfl) (notFace_of_selects (args := #[]) (mw hZ1 hw 235 rfl)) (mw hZ1 hw 235 rfl) (mw hZ1 hw 234 rfl) (by decide) (backOf (W := 1) (rm_ca l Z a0 hw [] a1 (2 : Int32) h1 n0 (own_old0 Y1) Y1 zc fm S _ Ml 2 (by decide) rfl (116 : Int32) rfl) hZ1 (ww hw 236 rfl) (ww hw 4 rfl) (by decide) (by decide)) q8a q8c (g := (mkF m 36 #[rv sa, rv a1] [(.int 2), (.ref a1), (.int 116)])) rfl (by rw [hml]; rfl) (Steps.refl _) (argsL := [(.int 2)]) (rest := [(.int 116)]) (lenOf pd_33 rfl) rfl own_z (hb hby d39_36) (fun _ _ => ⟨rfl, e7, (by decide : 2 + 0 ≤ _), (by decide : 32 + 0 ≤ _)⟩)
  dsimp only [Pt.U, Pt.locs, Pt.cells, Pt.slots] at X8 l8 y8 z8 st8 hQ8
  rw [y8, z8] at X8
  obtain ⟨rfl, N8q, e8⟩ := hQ8
  have N8 := own_fr l8 N7 N8q
  obtain ⟨cq9, kq9, q9a, q9b, q9c⟩ := isOf hZ1 e8 M_1.exa
  obtain ⟨_, _, ⟨T9, L9, k9, n9⟩, -, X9, ⟨Lc9, hQ9, l9, y9, z9⟩, st9⟩ := X8.virtualBack hx (y := mN26) (z := mN26) hown1 (mw hZ1 hw 232 rfl) (mw hZ1 hw 233 rfl) (notFace_of_selects (args := #[]) (mw hZ1 hw 235 rfl)) (mw hZ1 hw 235 rfl) (mw hZ1 hw 234 rfl) (by decide) (backOf (W := 0) (rm_ca l Z a0 hw [] sa (3 : Int32) h1 n0 (own_old0 Y1) Y1 zc fm S ms M_1 3 (by omega) rfl (105 : Int32) hs3) hZ1 (ww hw 236 rfl) (ww hw 4 rfl) (by decide) (by decide)) q9a q9c (g := (mkF m 44 #[rv sa, rv a1] [(.int 3), (.ref sa)])) rfl (by rw [hml]; rfl) (Steps.refl _) (argsL := [(.int 3)]) (rest := []) (lenOf pd_33 rfl) rfl own_z (hb hby d39_44) (fun _ _ => ⟨rfl, e8, (by decide : 2 + 0 ≤ _), (by decide : 32 + 0 ≤ _)⟩)
  dsimp only [Pt.U, Pt.locs, Pt.cells, Pt.slots] at X9 l9 y9 z9 st9 hQ9
  rw [y9, z9] at X9
  obtain ⟨rfl, N9q, e9⟩ := hQ9
  have N9 := own_fr l9 N8 N9q
  have pre10 : Pr p e below (T9.setTop (mkF m 47 #[rv sa, rv a1] [(.int 105)])) (s₁.setTop (entryFrame m #[(.ref sa)] 2)) := fun t k => pre5 t (by
    show Steps _ _ _ (T4.setTop (mkF m 22 #[rv sa, rv a1] [(.ref a1), (.int 112)])) _
    refine XT.iconstV X4.here hx rfl (1 : Int32) (hb hby d39_22) (by decide) ?_
    refine st6.trans ?_
    show Steps _ _ _ (T6.setTop (mkF m 26 #[rv sa, rv a1] [(.int 112), (.int 112)])) _
    refine XS.icmpNo X6.here hx rfl (hb hby d39_26) rfl (teq (by decide : ((112 : Int32) = (112 : Int32)))).2 ?_
    refine XS.aloadN X6.here hx rfl (hb hby d39_29) rfl rfl ?_
    refine XT.iconstV X6.here hx rfl (2 : Int32) (hb hby d39_30) (by decide) ?_
    refine st7.trans ?_
    refine XS.aloadN X7.here hx rfl (hb hby d39_34) rfl rfl ?_
    refine XT.iconstV X7.here hx rfl (2 : Int32) (hb hby d39_35) (by decide) ?_
    refine st8.trans ?_
    show Steps _ _ _ (T8.setTop (mkF m 39 #[rv sa, rv a1] [(.int 116), (.int 116)])) _
    refine XS.icmpNo X8.here hx rfl (hb hby d39_39) rfl (teq (by decide : ((116 : Int32) = (116 : Int32)))).2 ?_
    refine XS.aloadN X8.here hx rfl (hb hby d39_42) rfl rfl ?_
    refine XT.iconstV X8.here hx rfl (3 : Int32) (hb hby d39_43) (by decide) ?_
    refine st9.trans ?_
    exact k)
  obtain ⟨cq11, kq11, q11a, q11b, q11c⟩ := isOf hZ1 e9 Ml.exa
  obtain ⟨_, _, ⟨T11, L11, k11, n11⟩, -, X11, ⟨Lc11, hQ11, l11, y11, z11⟩, st11⟩ := X9.virtualBack hx (y := mN26) (z := mN26) hown1 (mw hZ1 hw 232 rfl) (mw hZ1 hw 233 rfl) (notFace_of_selects (args := #[]) (mw hZ1 hw 235 rfl)) (mw hZ1 hw 235 rfl) (mw hZ1 hw 234 rfl) (by decide) (backOf (W := 1) (rm_ca l Z a0 hw [] a1 (3 : Int32) h1 n0 (own_old0 Y1) Y1 zc fm S _ Ml 3 (by decide) rfl (105 : Int32) rfl) hZ1 (ww hw 236 rfl) (ww hw 4 rfl) (by decide) (by decide)) q11a q11c (g := (mkF m 49 #[rv sa, rv a1] [(.int 3), (.ref a1), (.int 105)])) rfl (by rw [hml]; rfl) (Steps.refl _) (argsL := [(.int 3)]) (rest := [(.int 105)]) (lenOf pd_33 rfl) rfl own_z (hb hby d39_49) (fun _ _ => ⟨rfl, e9, (by decide : 2 + 0 ≤ _), (by decide : 32 + 0 ≤ _)⟩)
  dsimp only [Pt.U, Pt.locs, Pt.cells, Pt.slots] at X11 l11 y11 z11 st11 hQ11
  rw [y11, z11] at X11
  obtain ⟨rfl, N11q, e11⟩ := hQ11
  have N11 := own_fr l11 N9 N11q
  obtain ⟨cq12, kq12, q12a, q12b, q12c⟩ := isOf hZ1 e11 M_1.exa
  obtain ⟨_, _, ⟨T12, L12, k12, n12⟩, -, X12, ⟨Lc12, hQ12, l12, y12, z12⟩, st12⟩ := X11.virtualBack hx (y := mN26) (z := mN26) hown1 (mw hZ1 hw 232 rfl) (mw hZ1 hw 233 rfl) (notFace_of_selects (args := #[]) (mw hZ1 hw 235 rfl)) (mw hZ1 hw 235 rfl) (mw hZ1 hw 234 rfl) (by decide) (backOf (W := 0) (rm_ca l Z a0 hw [] sa (4 : Int32) h1 n0 (own_old0 Y1) Y1 zc fm S ms M_1 4 (by omega) rfl (111 : Int32) hs4) hZ1 (ww hw 236 rfl) (ww hw 4 rfl) (by decide) (by decide)) q12a q12c (g := (mkF m 57 #[rv sa, rv a1] [(.int 4), (.ref sa)])) rfl (by rw [hml]; rfl) (Steps.refl _) (argsL := [(.int 4)]) (rest := []) (lenOf pd_33 rfl) rfl own_z (hb hby d39_57) (fun _ _ => ⟨rfl, e11, (by decide : 2 + 0 ≤ _), (by decide : 32 + 0 ≤ _)⟩)
  dsimp only [Pt.U, Pt.locs, Pt.cells, Pt.slots] at X12 l12 y12 z12 st12 hQ12
  rw [y12, z12] at X12
  obtain ⟨rfl, N12q, e12⟩ := hQ12
  have N12 := own_fr l12 N11 N12q
  obtain ⟨cq13, kq13, q13a, q13b, q13c⟩ := isOf hZ1 e12 Ml.exa
  obtain ⟨_, _, ⟨T13, L13, k13, n13⟩, -, X13, ⟨Lc13, hQ13, l13, y13, z13⟩, st13⟩ := X12.virtualBack hx (y := mN26) (z := mN26) hown1 (mw hZ1 hw 232 rfl) (mw hZ1 hw 233 rfl) (notFace_of_selects (args := #[]) (mw hZ1 hw 235 rfl)) (mw hZ1 hw 235 rfl) (mw hZ1 hw 234 rfl) (by decide) (backOf (W := 1) (rm_ca l Z a0 hw [] a1 (4 : Int32) h1 n0 (own_old0 Y1) Y1 zc fm S _ Ml 4 (by decide) rfl (111 : Int32) rfl) hZ1 (ww hw 236 rfl) (ww hw 4 rfl) (by decide) (by decide)) q13a q13c (g := (mkF m 62 #[rv sa, rv a1] [(.int 4), (.ref a1), (.int 111)])) rfl (by rw [hml]; rfl) (Steps.refl _) (argsL := [(.int 4)]) (rest := [(.int 111)]) (lenOf pd_33 rfl) rfl own_z (hb hby d39_62) (fun _ _ => ⟨rfl, e12, (by decide : 2 + 0 ≤ _), (by decide : 32 + 0 ≤ _)⟩)
  dsimp only [Pt.U, Pt.locs, Pt.cells, Pt.slots] at X13 l13 y13 z13 st13 hQ13
  rw [y13, z13] at X13
  obtain ⟨rfl, N13q, e13⟩ := hQ13
  have N13 := own_fr l13 N12 N13q
  have pre14 : Pr p e below (T13.setTop (mkF m 70 #[rv sa, rv a1] [(.int 5), (.ref sa)])) (s₁.setTop (entryFrame m #[(.ref sa)] 2)) := fun t k => pre10 t (by
    show Steps _ _ _ (T9.setTop (mkF m 47 #[rv sa, rv a1] [(.int 105)])) _
    refine XS.aloadN X9.here hx rfl (hb hby d39_47) rfl rfl ?_
    refine XT.iconstV X9.here hx rfl (3 : Int32) (hb hby d39_48) (by decide) ?_
    refine st11.trans ?_
    show Steps _ _ _ (T11.setTop (mkF m 52 #[rv sa, rv a1] [(.int 105), (.int 105)])) _
    refine XS.icmpNo X11.here hx rfl (hb hby d39_52) rfl (teq (by decide : ((105 : Int32) = (105 : Int32)))).2 ?_
    refine XS.aloadN X11.here hx rfl (hb hby d39_55) rfl rfl ?_
    refine XT.iconstV X11.here hx rfl (4 : Int32) (hb hby d39_56) (by decide) ?_
    refine st12.trans ?_
    refine XS.aloadN X12.here hx rfl (hb hby d39_60) rfl rfl ?_
    refine XT.iconstV X12.here hx rfl (4 : Int32) (hb hby d39_61) (by decide) ?_
    refine st13.trans ?_
    show Steps _ _ _ (T13.setTop (mkF m 65 #[rv sa, rv a1] [(.int 111), (.int 111)])) _
    refine XS.icmpNo X13.here hx rfl (hb hby d39_65) rfl (teq (by decide : ((111 : Int32) = (111 : Int32)))).2 ?_
    refine XS.aloadN X13.here hx rfl (hb hby d39_68) rfl rfl ?_
    refine XT.iconstV X13.here hx rfl (5 : Int32) (hb hby d39_69) (by decide) ?_
    exact k)
  obtain ⟨cq15, kq15, q15a, q15b, q15c⟩ := isOf hZ1 e13 M_1.exa
  obtain ⟨_, _, ⟨T15, L15, k15, n15⟩, -, X15, ⟨Lc15, hQ15, l15, y15, z15⟩, st15⟩ := X13.virtualBack hx (y := mN26) (z := mN26) hown1 (mw hZ1 hw 232 rfl) (mw hZ1 hw 233 rfl) (notFace_of_selects (args := #[]) (mw hZ1 hw 235 rfl)) (mw hZ1 hw 235 rfl) (mw hZ1 hw 234 rfl) (by decide) (backOf (W := 0) (rm_ca l Z a0 hw [] sa (5 : Int32) h1 n0 (own_old0 Y1) Y1 zc fm S ms M_1 5 (by omega) rfl (110 : Int32) hs5) hZ1 (ww hw 236 rfl) (ww hw 4 rfl) (by decide) (by decide)) q15a q15c (g := (mkF m 70 #[rv sa, rv a1] [(.int 5), (.ref sa)])) rfl (by rw [hml]; rfl) (Steps.refl _) (argsL := [(.int 5)]) (rest := []) (lenOf pd_33 rfl) rfl own_z (hb hby d39_70) (fun _ _ => ⟨rfl, e13, (by decide : 2 + 0 ≤ _), (by decide : 32 + 0 ≤ _)⟩)
  dsimp only [Pt.U, Pt.locs, Pt.cells, Pt.slots] at X15 l15 y15 z15 st15 hQ15
  rw [y15, z15] at X15
  obtain ⟨rfl, N15q, e15⟩ := hQ15
  have N15 := own_fr l15 N13 N15q
  obtain ⟨cq16, kq16, q16a, q16b, q16c⟩ := isOf hZ1 e15 Ml.exa
  obtain ⟨_, _, ⟨T16, L16, k16, n16⟩, -, X16, ⟨Lc16, hQ16, l16, y16, z16⟩, st16⟩ := X15.virtualBack hx (y := mN26) (z := mN26) hown1 (mw hZ1 hw 232 rfl) (mw hZ1 hw 233 rfl) (notFace_of_selects (args := #[]) (mw hZ1 hw 235 rfl)) (mw hZ1 hw 235 rfl) (mw hZ1 hw 234 rfl) (by decide) (backOf (W := 1) (rm_ca l Z a0 hw [] a1 (5 : Int32) h1 n0 (own_old0 Y1) Y1 zc fm S _ Ml 5 (by decide) rfl (110 : Int32) rfl) hZ1 (ww hw 236 rfl) (ww hw 4 rfl) (by decide) (by decide)) q16a q16c (g := (mkF m 75 #[rv sa, rv a1] [(.int 5), (.ref a1), (.int 110)])) rfl (by rw [hml]; rfl) (Steps.refl _) (argsL := [(.int 5)]) (rest := [(.int 110)]) (lenOf pd_33 rfl) rfl own_z (hb hby d39_75) (fun _ _ => ⟨rfl, e15, (by decide : 2 + 0 ≤ _), (by decide : 32 + 0 ≤ _)⟩)
  dsimp only [Pt.U, Pt.locs, Pt.cells, Pt.slots] at X16 l16 y16 z16 st16 hQ16
  rw [y16, z16] at X16
  obtain ⟨rfl, N16q, e16⟩ := hQ16
  have N16 := own_fr l16 N15 N16q
  obtain ⟨cq17, kq17, q17a, q17b, q17c⟩ := isOf hZ1 e16 M_1.exa
  obtain ⟨_, _, ⟨T17, L17, k17, n17⟩, -, X17, ⟨Lc17, hQ17, l17, y17, z17⟩, st17⟩ := X16.virtualBack hx (y := mN26) (z := mN26) hown1 (mw hZ1 hw 232 rfl) (mw hZ1 hw 233 rfl) (notFace_of_selects (args := #[]) (mw hZ1 hw 235 rfl)) (mw hZ1 hw 235 rfl) (mw hZ1 hw 234 rfl) (by decide) (backOf (W := 0) (rm_ca l Z a0 hw [] sa (6 : Int32) h1 n0 (own_old0 Y1) Y1 zc fm S ms M_1 6 (by omega) rfl (32 : Int32) hs6) hZ1 (ww hw 236 rfl) (ww hw 4 rfl) (by decide) (by decide)) q17a q17c (g := (mkF m 84 #[rv sa, rv a1] [(.int 6), (.ref sa)])) rfl (by rw [hml]; rfl) (Steps.refl _) (argsL := [(.int 6)]) (rest := []) (lenOf pd_33 rfl) rfl own_z (hb hby d39_84) (fun _ _ => ⟨rfl, e16, (by decide : 2 + 0 ≤ _), (by decide : 32 + 0 ≤ _)⟩)
  dsimp only [Pt.U, Pt.locs, Pt.cells, Pt.slots] at X17 l17 y17 z17 st17 hQ17
  rw [y17, z17] at X17
  obtain ⟨rfl, N17q, e17⟩ := hQ17
  have N17 := own_fr l17 N16 N17q
  obtain ⟨cq18, kq18, q18a, q18b, q18c⟩ := isOf hZ1 e17 Ml.exa
  obtain ⟨_, _, ⟨T18, L18, k18, n18⟩, -, X18, ⟨Lc18, hQ18, l18, y18, z18⟩, st18⟩ := X17.virtualBack hx (y := mN26) (z := mN26) hown1 (mw hZ1 hw 232 rfl) (mw hZ1 hw 233 rfl) (notFace_of_selects (args := #[]) (mw hZ1 hw 235 rfl)) (mw hZ1 hw 235 rfl) (mw hZ1 hw 234 rfl) (by decide) (backOf (W := 1) (rm_ca l Z a0 hw [] a1 (6 : Int32) h1 n0 (own_old0 Y1) Y1 zc fm S _ Ml 6 (by decide) rfl (32 : Int32) rfl) hZ1 (ww hw 236 rfl) (ww hw 4 rfl) (by decide) (by decide)) q18a q18c (g := (mkF m 90 #[rv sa, rv a1] [(.int 6), (.ref a1), (.int 32)])) rfl (by rw [hml]; rfl) (Steps.refl _) (argsL := [(.int 6)]) (rest := [(.int 32)]) (lenOf pd_33 rfl) rfl own_z (hb hby d39_90) (fun _ _ => ⟨rfl, e17, (by decide : 2 + 0 ≤ _), (by decide : 32 + 0 ≤ _)⟩)
  dsimp only [Pt.U, Pt.locs, Pt.cells, Pt.slots] at X18 l18 y18 z18 st18 hQ18
  rw [y18, z18] at X18
  obtain ⟨rfl, N18q, e18⟩ := hQ18
  have N18 := own_fr l18 N17 N18q
  have pre19 : Pr p e below (T18.setTop (mkF m 97 #[rv sa, rv a1] [(.int 1)])) (s₁.setTop (entryFrame m #[(.ref sa)] 2)) := fun t k => pre14 t (by
    show Steps _ _ _ (T13.setTop (mkF m 70 #[rv sa, rv a1] [(.int 5), (.ref sa)])) _
    refine st15.trans ?_
    refine XS.aloadN X15.here hx rfl (hb hby d39_73) rfl rfl ?_
    refine XT.iconstV X15.here hx rfl (5 : Int32) (hb hby d39_74) (by decide) ?_
    refine st16.trans ?_
    show Steps _ _ _ (T16.setTop (mkF m 78 #[rv sa, rv a1] [(.int 110), (.int 110)])) _
    refine XS.icmpNo X16.here hx rfl (hb hby d39_78) rfl (teq (by decide : ((110 : Int32) = (110 : Int32)))).2 ?_
    refine XS.aloadN X16.here hx rfl (hb hby d39_81) rfl rfl ?_
    refine XT.bipushV X16.here hx rfl (6 : Int32) (hb hby d39_82) (by decide) ?_
    refine st17.trans ?_
    refine XS.aloadN X17.here hx rfl (hb hby d39_87) rfl rfl ?_
    refine XT.bipushV X17.here hx rfl (6 : Int32) (hb hby d39_88) (by decide) ?_
    refine st18.trans ?_
    show Steps _ _ _ (T18.setTop (mkF m 93 #[rv sa, rv a1] [(.int 32), (.int 32)])) _
    refine XS.icmpNo X18.here hx rfl (hb hby d39_93) rfl (teq (by decide : ((32 : Int32) = (32 : Int32)))).2 ?_
    refine XT.iconstV X18.here hx rfl (1 : Int32) (hb hby d39_96) (by decide) ?_
    exact k)
  have pre20 : Pr p e below (T18.setTop (mkF m 101 #[rv sa, rv a1] [(.int 1)])) (s₁.setTop (entryFrame m #[(.ref sa)] 2)) := fun t k => pre19 t (by
    show Steps _ _ _ (T18.setTop (mkF m 97 #[rv sa, rv a1] [(.int 1)])) _
    refine XS.goto X18.here hx rfl (pc0 := 97) (pc' := 101) rfl (hb hby d39_97) (by decide) (by decide) ?_
    exact k)
  obtain ⟨fs, hr, hrun, hended, hEnd⟩ := X18.leaveW hS1 (by rw [e18]; exact hk1q) (v := some (.int 1)) (fun h => by rw [Bd.returns] at h; cases h) (hlocks := Bd.notSynchronized)
  refine ⟨_, _, pre20 _ ?_, hrun, hended, _, _, rfl, ?_, ?_, own_endW hEnd (by decide) (by decide)⟩
  · show Steps _ _ _ (T18.setTop (mkF m 101 #[rv sa, rv a1] [(.int 1)])) _
    exact retOut X18 hx Bd.returns rfl (Or.inl ⟨rfl, by simp, _, rfl⟩) (hb hby d39_101) hr
  · show Qok h0 n0 _ T18.heap _
    rw [e18]
    exact ⟨rfl, N18, own_ext_of K1⟩
  · show CHr Z consts_1 s.vm s.heap T18.vm T18.heap
    rw [hh, e18]
    exact CHr.trans R1 (CHv.at (s := s) (vm0 := T1.vm) X18 hZ1 hEL R1.1)
theorem rm_sx (l : Launch) (Z : State) (a0 : Array Value) (hw : ∀ d ∈ tables_1, d.before a0 Z = true) (ws : List Jvm.Cond) (sa : Addr) (oa : Int32) (h0 : Heap) (n0 : Nat) (Z0 : n0 ≤ h0.size) (Y0 : Old Z n0 h0) (zc : Int32) (fm : Value) (S : Sts Z Z.heap zc fm) (ms : List Int32) (M : TM Z h0 sa ms) (pn : Nat) (hp : pn ≤ 15) (ho : oa = Int32.ofNat pn) (hl : ms.length = pn + 15) (hs0 : ms.getD (pn + 0) 0 = (32 : Int32)) (hs1 : ms.getD (pn + 1) 0 = (105 : Int32)) (hs2 : ms.getD (pn + 2) 0 = (115 : Int32)) (hs3 : ms.getD (pn + 3) 0 = (32 : Int32)) (hs4 : ms.getD (pn + 4) 0 = (103 : Int32)) (hs5 : ms.getD (pn + 5) 0 = (105 : Int32)) (hs6 : ms.getD (pn + 6) 0 = (118 : Int32)) (hs7 : ms.getD (pn + 7) 0 = (101 : Int32)) (hs8 : ms.getD (pn + 8) 0 = (110 : Int32)) (hs9 : ms.getD (pn + 9) 0 = (32 : Int32)) (hs10 : ms.getD (pn + 10) 0 = (116 : Int32)) (hs11 : ms.getD (pn + 11) 0 = (119 : Int32)) (hs12 : ms.getD (pn + 12) 0 = (105 : Int32)) (hs13 : ms.getD (pn + 13) 0 = (99 : Int32)) (hs14 : ms.getD (pn + 14) 0 = (101 : Int32))  :
    MetFree l mN54 (head1 (Jvm.Cond.code mN54 method_3_code 3 (some .boolean) :: ws) (Room.mk 6 2 64 104)) (fun a U => a = #[(.ref sa), (.int oa)] ∧ Z.Warmed39 U.vm ∧ U.heap = h0 ∧ CHv Z consts_1 U.vm h0) (fun _ _ _ _ _ => True) (fun _ U o U' => ∃ v L, o = .returned v ∧ Qok h0 n0 v U'.heap L ∧ CHr Z consts_1 U.vm U.heap U'.vm U'.heap ∧ ReturnedEndW U o U' L (Room.mk 6 2 64 104).cells (Room.mk 6 2 64 104).slots) := by
  refine MetFree.of_bodySF (plainFor_of_name pn_39) hisR ?_
  intro p e s m args below meth c s₁ Bd hml0 hP hK
  obtain ⟨rfl, hZ, hh, hG⟩ := hP
  have hx := Bd.exec
  have hby := Bd.bytes
  have hml : c.maxLocals = 3 := hml0
  have hown : s.vm.findClass "com/example/tidegauge/tidegauge/OptionsGivenTwicePinLaw" = some m.cls := findClass_of_methodNamed Bd.named
  have X0 : Stand p l e (Room.mk 6 2 64 104) s m #[(.ref sa), (.int oa)] below meth c s₁ [] 0 0 := Stand.of_body Bd
  have e0 : s₁.heap = h0 := by rw [← hh, Bd.state]; rfl
  have N0 := Fr.nil n0
  have pre0 : Pr p e below (s₁.setTop (mkF m 0 #[rv sa, iv oa, .unset] [])) (s₁.setTop (entryFrame m #[(.ref sa), (.int oa)] 3)) := fun t k => castTop (by first | (simp [entryFrame, mkF, argsToLocals, Value.category]; done) | rfl) k
  have hEL := own_EW hw
  have R0 : CHr Z consts_1 s.vm h0 s.vm h0 := CHr.refl hG
  have wSa : ∀ d ∈ Bundle.stringAtoms, d.before a0 Z = true := own_wSa hw
  obtain ⟨a1, T1, h1, kk1, b1, kb1, X1, e1, E1, hS1, hk1q, hZ1, hown1, Ea1, Ca1, Va1, Ab1, la1, lb1, hC1, Li1, hsf1, st1⟩ := ldcCH (s := s) (vm0 := s.vm) (EL := consts_1) X0 hx hZ hown (ww hw 257 rfl) wSa e0 ((State.WarmedH.refl s).since h0.size) (Nat.le_refl _) hEL (List.mem_of_getElem? (i := 3) rfl) R0.1 (vs := [(.int (StrChars.lo8 (32 : Int32))), (.int (StrChars.lo8 (105 : Int32))), (.int (StrChars.lo8 (115 : Int32))), (.int (StrChars.lo8 (32 : Int32))), (.int (StrChars.lo8 (103 : Int32))), (.int (StrChars.lo8 (105 : Int32))), (.int (StrChars.lo8 (118 : Int32))), (.int (StrChars.lo8 (101 : Int32))), (.int (StrChars.lo8 (110 : Int32))), (.int (StrChars.lo8 (32 : Int32))), (.int (StrChars.lo8 (116 : Int32))), (.int (StrChars.lo8 (119 : Int32))), (.int (StrChars.lo8 (105 : Int32))), (.int (StrChars.lo8 (99 : Int32))), (.int (StrChars.lo8 (101 : Int32)))]) (z := (15 : Int32)) ⟨by decide, by first | rfl | decide⟩ (by decide) (by first | rfl | decide) (g := (mkF m 0 #[rv sa, iv oa, .unset] [])) rfl (hb hby d45_0) (n := 60) (by first | decide | simp) (by decide) (by decide) (by decide)
  have M_1 := M.ext E1
  have Y1 := Old.ext Y0 E1
  have K1 : Keep h0 h1 [] := (Keep.refl h0 []).ext E1
  have R1 := CHr.trans R0 hC1
  have tx1 : TX Z h1 a1 b1 kb1 (15 : Int32) [(.int (StrChars.lo8 (32 : Int32))), (.int (StrChars.lo8 (105 : Int32))), (.int (StrChars.lo8 (115 : Int32))), (.int (StrChars.lo8 (32 : Int32))), (.int (StrChars.lo8 (103 : Int32))), (.int (StrChars.lo8 (105 : Int32))), (.int (StrChars.lo8 (118 : Int32))), (.int (StrChars.lo8 (101 : Int32))), (.int (StrChars.lo8 (110 : Int32))), (.int (StrChars.lo8 (32 : Int32))), (.int (StrChars.lo8 (116 : Int32))), (.int (StrChars.lo8 (119 : Int32))), (.int (StrChars.lo8 (105 : Int32))), (.int (StrChars.lo8 (99 : Int32))), (.int (StrChars.lo8 (101 : Int32)))] (0 : Int32) := ⟨Ea1, Ca1, Va1, Ab1⟩
  have Ml : TM Z h1 a1 own_suf := ⟨_, _, _, _, _, tx1, Or.inl ⟨rfl, rfl, rfl, by unfold own_ch; decide⟩, by decide⟩
  obtain ⟨cq2, kq2, q2a, q2b, q2c⟩ := isOf hZ1 e1 M_1.exa
  obtain ⟨_, _, ⟨T2, L2, k2, n2⟩, -, X2, ⟨Lc2, hQ2, l2, y2, z2⟩, st2⟩ := X1.virtualBack hx (y := mN26) (z := mN26) hown1 (mw hZ1 hw 232 rfl) (mw hZ1 hw 233 rfl) (notFace_of_selects (args := #[]) (mw hZ1 hw 235 rfl)) (mw hZ1 hw 235 rfl) (mw hZ1 hw 234 rfl) (by decide) (backOf (W := 0) (rm_ca l Z a0 hw [] sa oa h1 n0 (own_old0 Y1) Y1 zc fm S ms M_1 (pn + 0) (by omega) ho (32 : Int32) hs0) hZ1 (ww hw 236 rfl) (ww hw 4 rfl) (by decide) (by decide)) q2a q2c (g := (mkF m 5 #[rv sa, iv oa, rv a1] [(.int oa), (.ref sa)])) rfl (by rw [hml]; rfl) (Steps.refl _) (argsL := [(.int oa)]) (rest := []) (lenOf pd_33 rfl) rfl own_z (hb hby d45_5) (fun _ _ => ⟨rfl, e1, (by decide : 2 + 0 ≤ _), (by decide : 64 + 0 ≤ _)⟩)
  dsimp only [Pt.U, Pt.locs, Pt.cells, Pt.slots] at X2 l2 y2 z2 st2 hQ2
  rw [y2, z2] at X2
  obtain ⟨rfl, N2q, e2⟩ := hQ2
  have N2 := own_fr l2 N0 N2q
  obtain ⟨cq3, kq3, q3a, q3b, q3c⟩ := isOf hZ1 e2 Ml.exa
  obtain ⟨_, _, ⟨T3, L3, k3, n3⟩, -, X3, ⟨Lc3, hQ3, l3, y3, z3⟩, st3⟩ := X2.virtualBack hx (y := mN26) (z := mN26) hown1 (mw hZ1 hw 232 rfl) (mw hZ1 hw 233 rfl) (notFace_of_selects (args := #[]) (mw hZ1 hw 235 rfl)) (mw hZ1 hw 235 rfl) (mw hZ1 hw 234 rfl) (by decide) (backOf (W := 1) (rm_ca l Z a0 hw [] a1 (0 : Int32) h1 n0 (own_old0 Y1) Y1 zc fm S _ Ml 0 (by decide) rfl (32 : Int32) rfl) hZ1 (ww hw 236 rfl) (ww hw 4 rfl) (by decide) (by decide)) q3a q3c (g := (mkF m 10 #[rv sa, iv oa, rv a1] [(.int 0), (.ref a1), (.int 32)])) rfl (by rw [hml]; rfl) (Steps.refl _) (argsL := [(.int 0)]) (rest := [(.int 32)]) (lenOf pd_33 rfl) rfl own_z (hb hby d45_10) (fun _ _ => ⟨rfl, e2, (by decide : 2 + 0 ≤ _), (by decide : 64 + 0 ≤ _)⟩)
  dsimp only [Pt.U, Pt.locs, Pt.cells, Pt.slots] at X3 l3 y3 z3 st3 hQ3
  rw [y3, z3] at X3
  obtain ⟨rfl, N3q, e3⟩ := hQ3
  have N3 := own_fr l3 N2 N3q
  have pre4 : Pr p e below (T3.setTop (mkF m 20 #[rv sa, iv oa, rv a1] [(.int (oa + (1 : Int32))), (.ref sa)])) (s₁.setTop (entryFrame m #[(.ref sa), (.int oa)] 3)) := fun t k => pre0 t (by
    show Steps _ _ _ (s₁.setTop (mkF m 0 #[rv sa, iv oa, .unset] [])) _
    refine st1 _ ?_
    refine XS.astoreN X1.here hx rfl (hb hby d45_2) rfl rfl (l' := #[rv sa, iv oa, rv a1]) rfl ?_
    refine XS.aloadN X1.here hx rfl (hb hby d45_3) rfl rfl ?_
    refine XS.iloadN X1.here hx rfl (hb hby d45_4) rfl ?_
    refine st2.trans ?_
    refine XS.aloadN X2.here hx rfl (hb hby d45_8) rfl rfl ?_
    refine XT.iconstV X2.here hx rfl (0 : Int32) (hb hby d45_9) (by decide) ?_
    refine st3.trans ?_
    show Steps _ _ _ (T3.setTop (mkF m 13 #[rv sa, iv oa, rv a1] [(.int 32), (.int 32)])) _
    refine XS.icmpNo X3.here hx rfl (hb hby d45_13) rfl (teq (by decide : ((32 : Int32) = (32 : Int32)))).2 ?_
    refine XS.aloadN X3.here hx rfl (hb hby d45_16) rfl rfl ?_
    refine XS.iloadN X3.here hx rfl (hb hby d45_17) rfl ?_
    refine XT.iconstV X3.here hx rfl (1 : Int32) (hb hby d45_18) (by decide) ?_
    refine XS.iadd X3.here hx rfl (hb hby d45_19) rfl ?_
    exact k)
  obtain ⟨cq5, kq5, q5a, q5b, q5c⟩ := isOf hZ1 e3 M_1.exa
  obtain ⟨_, _, ⟨T5, L5, k5, n5⟩, -, X5, ⟨Lc5, hQ5, l5, y5, z5⟩, st5⟩ := X3.virtualBack hx (y := mN26) (z := mN26) hown1 (mw hZ1 hw 232 rfl) (mw hZ1 hw 233 rfl) (notFace_of_selects (args := #[]) (mw hZ1 hw 235 rfl)) (mw hZ1 hw 235 rfl) (mw hZ1 hw 234 rfl) (by decide) (backOf (W := 0) (rm_ca l Z a0 hw [] sa (oa + (1 : Int32)) h1 n0 (own_old0 Y1) Y1 zc fm S ms M_1 (pn + 1) (by omega) (by rw [ho]; exact own_ad (k := 1) (by omega) (by omega)) (105 : Int32) hs1) hZ1 (ww hw 236 rfl) (ww hw 4 rfl) (by decide) (by decide)) q5a q5c (g := (mkF m 20 #[rv sa, iv oa, rv a1] [(.int (oa + (1 : Int32))), (.ref sa)])) rfl (by rw [hml]; rfl) (Steps.refl _) (argsL := [(.int (oa + (1 : Int32)))]) (rest := []) (lenOf pd_33 rfl) rfl own_z (hb hby d45_20) (fun _ _ => ⟨rfl, e3, (by decide : 2 + 0 ≤ _), (by decide : 64 + 0 ≤ _)⟩)
  dsimp only [Pt.U, Pt.locs, Pt.cells, Pt.slots] at X5 l5 y5 z5 st5 hQ5
  rw [y5, z5] at X5
  obtain ⟨rfl, N5q, e5⟩ := hQ5
  have N5 := own_fr l5 N3 N5q
  obtain ⟨cq6, kq6, q6a, q6b, q6c⟩ := isOf hZ1 e5 Ml.exa
  obtain ⟨_, _, ⟨T6, L6, k6, n6⟩, -, X6, ⟨Lc6, hQ6, l6, y6, z6⟩, st6⟩ := X5.virtualBack hx (y := mN26) (z := mN26) hown1 (mw hZ1 hw 232 rfl) (mw hZ1 hw 233 rfl) (notFace_of_selects (args := #[]) (mw hZ1 hw 235 rfl)) (mw hZ1 hw 235 rfl) (mw hZ1 hw 234 rfl) (by decide) (backOf (W := 1) (rm_ca l Z a0 hw [] a1 (1 : Int32) h1 n0 (own_old0 Y1) Y1 zc fm S _ Ml 1 (by decide) rfl (105 : Int32) rfl) hZ1 (ww hw 236 rfl) (ww hw 4 rfl) (by decide) (by decide)) q6a q6c (g := (mkF m 25 #[rv sa, iv oa, rv a1] [(.int 1), (.ref a1), (.int 105)])) rfl (by rw [hml]; rfl) (Steps.refl _) (argsL := [(.int 1)]) (rest := [(.int 105)]) (lenOf pd_33 rfl) rfl own_z (hb hby d45_25) (fun _ _ => ⟨rfl, e5, (by decide : 2 + 0 ≤ _), (by decide : 64 + 0 ≤ _)⟩)
  dsimp only [Pt.U, Pt.locs, Pt.cells, Pt.slots] at X6 l6 y6 z6 st6 hQ6
  rw [y6, z6] at X6
  obtain ⟨rfl, N6q, e6⟩ := hQ6
  have N6 := own_fr l6 N5 N6q
  obtain ⟨cq7, kq7, q7a, q7b, q7c⟩ := isOf hZ1 e6 M_1.exa
  obtain ⟨_, _, ⟨T7, L7, k7, n7⟩, -, X7, ⟨Lc7, hQ7, l7, y7, z7⟩, st7⟩ := X6.virtualBack hx (y := mN26) (z := mN26) hown1 (mw hZ1 hw 232 rfl) (mw hZ1 hw 233 rfl) (notFace_of_selects (args := #[]) (mw hZ1 hw 235 rfl)) (mw hZ1 hw 235 rfl) (mw hZ1 hw 234 rfl) (by decide) (backOf (W := 0) (rm_ca l Z a0 hw [] sa (oa + (2 : Int32)) h1 n0 (own_old0 Y1) Y1 zc fm S ms M_1 (pn + 2) (by omega) (by rw [ho]; exact own_ad (k := 2) (by omega) (by omega)) (115 : Int32) hs2) hZ1 (ww hw 236 rfl) (ww hw 4 rfl) (by decide) (by decide)) q7a q7c (g := (mkF m 35 #[rv sa, iv oa, rv a1] [(.int (oa + (2 : Int32))), (.ref sa)])) rfl (by rw [hml]; rfl) (Steps.refl _) (argsL := [(.int (oa + (2 : Int32)))]) (rest := []) (lenOf pd_33 rfl) rfl own_z (hb hby d45_35) (fun _ _ => ⟨rfl, e6, (by decide : 2 + 0 ≤ _), (by decide : 64 + 0 ≤ _)⟩)
  dsimp only [Pt.U, Pt.locs, Pt.cells, Pt.slots] at X7 l7 y7 z7 st7 hQ7
  rw [y7, z7] at X7
  obtain ⟨rfl, N7q, e7⟩ := hQ7
  have N7 := own_fr l7 N6 N7q
  obtain ⟨cq8, kq8, q8a, q8b, q8c⟩ := isOf hZ1 e7 Ml.exa
  obtain ⟨_, _, ⟨T8, L8, k8, n8⟩, -, X8, ⟨Lc8, hQ8, l8, y8, z8⟩, st8⟩ := X7.virtualBack hx (y := mN26) (z := mN26) hown1 (mw hZ1 hw 232 rfl) (mw hZ1 hw 233 rfl) (notFace_of_selects (args := #[]) (mw hZ1 hw 235 rfl)) (mw hZ1 hw 235 rfl) (mw hZ1 hw 234 rfl) (by decide) (backOf (W := 1) (rm_ca l Z a0 hw [] a1 (2 : Int32) h1 n0 (own_old0 Y1) Y1 zc fm S _ Ml 2 (by decide) rfl (115 : Int32) rfl) hZ1 (ww hw 236 rfl) (ww hw 4 rfl) (by decide) (by decide)) q8a q8c (g := (mkF m 40 #[rv sa, iv oa, rv a1] [(.int 2), (.ref a1), (.int 115)])) rfl (by rw [hml]; rfl) (Steps.refl _) (argsL := [(.int 2)]) (rest := [(.int 115)]) (lenOf pd_33 rfl) rfl own_z (hb hby d45_40) (fun _ _ => ⟨rfl, e7, (by decide : 2 + 0 ≤ _), (by decide : 64 + 0 ≤ _)⟩)
  dsimp only [Pt.U, Pt.locs, Pt.cells, Pt.slots] at X8 l8 y8 z8 st8 hQ8
  rw [y8, z8] at X8
  obtain ⟨rfl, N8q, e8⟩ := hQ8
  have N8 := own_fr l8 N7 N8q
  have pre9 : Pr p e below (T8.setTop (mkF m 43 #[rv sa, iv oa, rv a1] [(.int 115), (.int 115)])) (s₁.setTop (entryFrame m #[(.ref sa), (.int oa)] 3)) := fun t k => pre4 t (by
    show Steps _ _ _ (T3.setTop (mkF m 20 #[rv sa, iv oa, rv a1] [(.int (oa + (1 : Int32))), (.ref sa)])) _
    refine st5.trans ?_
    refine XS.aloadN X5.here hx rfl (hb hby d45_23) rfl rfl ?_
    refine XT.iconstV X5.here hx rfl (1 : Int32) (hb hby d45_24) (by decide) ?_
    refine st6.trans ?_
    show Steps _ _ _ (T6.setTop (mkF m 28 #[rv sa, iv oa, rv a1] [(.int 105), (.int 105)])) _
    refine XS.icmpNo X6.here hx rfl (hb hby d45_28) rfl (teq (by decide : ((105 : Int32) = (105 : Int32)))).2 ?_
    refine XS.aloadN X6.here hx rfl (hb hby d45_31) rfl rfl ?_
    refine XS.iloadN X6.here hx rfl (hb hby d45_32) rfl ?_
    refine XT.iconstV X6.here hx rfl (2 : Int32) (hb hby d45_33) (by decide) ?_
    refine XS.iadd X6.here hx rfl (hb hby d45_34) rfl ?_
    refine st7.trans ?_
    refine XS.aloadN X7.here hx rfl (hb hby d45_38) rfl rfl ?_
    refine XT.iconstV X7.here hx rfl (2 : Int32) (hb hby d45_39) (by decide) ?_
    refine st8.trans ?_
    exact k)
  obtain ⟨cq10, kq10, q10a, q10b, q10c⟩ := isOf hZ1 e8 M_1.exa
  obtain ⟨_, _, ⟨T10, L10, k10, n10⟩, -, X10, ⟨Lc10, hQ10, l10, y10, z10⟩, st10⟩ := X8.virtualBack hx (y := mN26) (z := mN26) hown1 (mw hZ1 hw 232 rfl) (mw hZ1 hw 233 rfl) (notFace_of_selects (args := #[]) (mw hZ1 hw 235 rfl)) (mw hZ1 hw 235 rfl) (mw hZ1 hw 234 rfl) (by decide) (backOf (W := 0) (rm_ca l Z a0 hw [] sa (oa + (3 : Int32)) h1 n0 (own_old0 Y1) Y1 zc fm S ms M_1 (pn + 3) (by omega) (by rw [ho]; exact own_ad (k := 3) (by omega) (by omega)) (32 : Int32) hs3) hZ1 (ww hw 236 rfl) (ww hw 4 rfl) (by decide) (by decide)) q10a q10c (g := (mkF m 50 #[rv sa, iv oa, rv a1] [(.int (oa + (3 : Int32))), (.ref sa)])) rfl (by rw [hml]; rfl) (Steps.refl _) (argsL := [(.int (oa + (3 : Int32)))]) (rest := []) (lenOf pd_33 rfl) rfl own_z (hb hby d45_50) (fun _ _ => ⟨rfl, e8, (by decide : 2 + 0 ≤ _), (by decide : 64 + 0 ≤ _)⟩)
  dsimp only [Pt.U, Pt.locs, Pt.cells, Pt.slots] at X10 l10 y10 z10 st10 hQ10
  rw [y10, z10] at X10
  obtain ⟨rfl, N10q, e10⟩ := hQ10
  have N10 := own_fr l10 N8 N10q
  obtain ⟨cq11, kq11, q11a, q11b, q11c⟩ := isOf hZ1 e10 Ml.exa
  obtain ⟨_, _, ⟨T11, L11, k11, n11⟩, -, X11, ⟨Lc11, hQ11, l11, y11, z11⟩, st11⟩ := X10.virtualBack hx (y := mN26) (z := mN26) hown1 (mw hZ1 hw 232 rfl) (mw hZ1 hw 233 rfl) (notFace_of_selects (args := #[]) (mw hZ1 hw 235 rfl)) (mw hZ1 hw 235 rfl) (mw hZ1 hw 234 rfl) (by decide) (backOf (W := 1) (rm_ca l Z a0 hw [] a1 (3 : Int32) h1 n0 (own_old0 Y1) Y1 zc fm S _ Ml 3 (by decide) rfl (32 : Int32) rfl) hZ1 (ww hw 236 rfl) (ww hw 4 rfl) (by decide) (by decide)) q11a q11c (g := (mkF m 55 #[rv sa, iv oa, rv a1] [(.int 3), (.ref a1), (.int 32)])) rfl (by rw [hml]; rfl) (Steps.refl _) (argsL := [(.int 3)]) (rest := [(.int 32)]) (lenOf pd_33 rfl) rfl own_z (hb hby d45_55) (fun _ _ => ⟨rfl, e10, (by decide : 2 + 0 ≤ _), (by decide : 64 + 0 ≤ _)⟩)
  dsimp only [Pt.U, Pt.locs, Pt.cells, Pt.slots] at X11 l11 y11 z11 st11 hQ11
  rw [y11, z11] at X11
  obtain ⟨rfl, N11q, e11⟩ := hQ11
  have N11 := own_fr l11 N10 N11q
  have pre12 : Pr p e below (T11.setTop (mkF m 64 #[rv sa, iv oa, rv a1] [(.int 4), (.int oa), (.ref sa)])) (s₁.setTop (entryFrame m #[(.ref sa), (.int oa)] 3)) := fun t k => pre9 t (by
    show Steps _ _ _ (T8.setTop (mkF m 43 #[rv sa, iv oa, rv a1] [(.int 115), (.int 115)])) _
    refine XS.icmpNo X8.here hx rfl (hb hby d45_43) rfl (teq (by decide : ((115 : Int32) = (115 : Int32)))).2 ?_
    refine XS.aloadN X8.here hx rfl (hb hby d45_46) rfl rfl ?_
    refine XS.iloadN X8.here hx rfl (hb hby d45_47) rfl ?_
    refine XT.iconstV X8.here hx rfl (3 : Int32) (hb hby d45_48) (by decide) ?_
    refine XS.iadd X8.here hx rfl (hb hby d45_49) rfl ?_
    refine st10.trans ?_
    refine XS.aloadN X10.here hx rfl (hb hby d45_53) rfl rfl ?_
    refine XT.iconstV X10.here hx rfl (3 : Int32) (hb hby d45_54) (by decide) ?_
    refine st11.trans ?_
    show Steps _ _ _ (T11.setTop (mkF m 58 #[rv sa, iv oa, rv a1] [(.int 32), (.int 32)])) _
    refine XS.icmpNo X11.here hx rfl (hb hby d45_58) rfl (teq (by decide : ((32 : Int32) = (32 : Int32)))).2 ?_
    refine XS.aloadN X11.here hx rfl (hb hby d45_61) rfl rfl ?_
    refine XS.iloadN X11.here hx rfl (hb hby d45_62) rfl ?_
    refine XT.iconstV X11.here hx rfl (4 : Int32) (hb hby d45_63) (by decide) ?_
    exact k)
  obtain ⟨cq13, kq13, q13a, q13b, q13c⟩ := isOf hZ1 e11 M_1.exa
  obtain ⟨_, _, ⟨T13, L13, k13, n13⟩, -, X13, ⟨Lc13, hQ13, l13, y13, z13⟩, st13⟩ := X11.virtualBack hx (y := mN26) (z := mN26) hown1 (mw hZ1 hw 232 rfl) (mw hZ1 hw 233 rfl) (notFace_of_selects (args := #[]) (mw hZ1 hw 235 rfl)) (mw hZ1 hw 235 rfl) (mw hZ1 hw 234 rfl) (by decide) (backOf (W := 0) (rm_ca l Z a0 hw [] sa (oa + (4 : Int32)) h1 n0 (own_old0 Y1) Y1 zc fm S ms M_1 (pn + 4) (by omega) (by rw [ho]; exact own_ad (k := 4) (by omega) (by omega)) (103 : Int32) hs4) hZ1 (ww hw 236 rfl) (ww hw 4 rfl) (by decide) (by decide)) q13a q13c (g := (mkF m 65 #[rv sa, iv oa, rv a1] [(.int (oa + (4 : Int32))), (.ref sa)])) rfl (by rw [hml]; rfl) (Steps.refl _) (argsL := [(.int (oa + (4 : Int32)))]) (rest := []) (lenOf pd_33 rfl) rfl own_z (hb hby d45_65) (fun _ _ => ⟨rfl, e11, (by decide : 2 + 0 ≤ _), (by decide : 64 + 0 ≤ _)⟩)
  dsimp only [Pt.U, Pt.locs, Pt.cells, Pt.slots] at X13 l13 y13 z13 st13 hQ13
  rw [y13, z13] at X13
  obtain ⟨rfl, N13q, e13⟩ := hQ13
  have N13 := own_fr l13 N11 N13q
  obtain ⟨cq14, kq14, q14a, q14b, q14c⟩ := isOf hZ1 e13 Ml.exa
  obtain ⟨_, _, ⟨T14, L14, k14, n14⟩, -, X14, ⟨Lc14, hQ14, l14, y14, z14⟩, st14⟩ := X13.virtualBack hx (y := mN26) (z := mN26) hown1 (mw hZ1 hw 232 rfl) (mw hZ1 hw 233 rfl) (notFace_of_selects (args := #[]) (mw hZ1 hw 235 rfl)) (mw hZ1 hw 235 rfl) (mw hZ1 hw 234 rfl) (by decide) (backOf (W := 1) (rm_ca l Z a0 hw [] a1 (4 : Int32) h1 n0 (own_old0 Y1) Y1 zc fm S _ Ml 4 (by decide) rfl (103 : Int32) rfl) hZ1 (ww hw 236 rfl) (ww hw 4 rfl) (by decide) (by decide)) q14a q14c (g := (mkF m 70 #[rv sa, iv oa, rv a1] [(.int 4), (.ref a1), (.int 103)])) rfl (by rw [hml]; rfl) (Steps.refl _) (argsL := [(.int 4)]) (rest := [(.int 103)]) (lenOf pd_33 rfl) rfl own_z (hb hby d45_70) (fun _ _ => ⟨rfl, e13, (by decide : 2 + 0 ≤ _), (by decide : 64 + 0 ≤ _)⟩)
  dsimp only [Pt.U, Pt.locs, Pt.cells, Pt.slots] at X14 l14 y14 z14 st14 hQ14
  rw [y14, z14] at X14
  obtain ⟨rfl, N14q, e14⟩ := hQ14
  have N14 := own_fr l14 N13 N14q
  obtain ⟨cq15, kq15, q15a, q15b, q15c⟩ := isOf hZ1 e14 M_1.exa
  obtain ⟨_, _, ⟨T15, L15, k15, n15⟩, -, X15, ⟨Lc15, hQ15, l15, y15, z15⟩, st15⟩ := X14.virtualBack hx (y := mN26) (z := mN26) hown1 (mw hZ1 hw 232 rfl) (mw hZ1 hw 233 rfl) (notFace_of_selects (args := #[]) (mw hZ1 hw 235 rfl)) (mw hZ1 hw 235 rfl) (mw hZ1 hw 234 rfl) (by decide) (backOf (W := 0) (rm_ca l Z a0 hw [] sa (oa + (5 : Int32)) h1 n0 (own_old0 Y1) Y1 zc fm S ms M_1 (pn + 5) (by omega) (by rw [ho]; exact own_ad (k := 5) (by omega) (by omega)) (105 : Int32) hs5) hZ1 (ww hw 236 rfl) (ww hw 4 rfl) (by decide) (by decide)) q15a q15c (g := (mkF m 80 #[rv sa, iv oa, rv a1] [(.int (oa + (5 : Int32))), (.ref sa)])) rfl (by rw [hml]; rfl) (Steps.refl _) (argsL := [(.int (oa + (5 : Int32)))]) (rest := []) (lenOf pd_33 rfl) rfl own_z (hb hby d45_80) (fun _ _ => ⟨rfl, e14, (by decide : 2 + 0 ≤ _), (by decide : 64 + 0 ≤ _)⟩)
  dsimp only [Pt.U, Pt.locs, Pt.cells, Pt.slots] at X15 l15 y15 z15 st15 hQ15
  rw [y15, z15] at X15
  obtain ⟨rfl, N15q, e15⟩ := hQ15
  have N15 := own_fr l15 N14 N15q
  have pre16 : Pr p e below (T15.setTop (mkF m 85 #[rv sa, iv oa, rv a1] [(.int 5), (.ref a1), (.int 105)])) (s₁.setTop (entryFrame m #[(.ref sa), (.int oa)] 3)) := fun t k => pre12 t (by
    show Steps _ _ _ (T11.setTop (mkF m 64 #[rv sa, iv oa, rv a1] [(.int 4), (.int oa), (.ref sa)])) _
    refine XS.iadd X11.here hx rfl (hb hby d45_64) rfl ?_
    refine st13.trans ?_
    refine XS.aloadN X13.here hx rfl (hb hby d45_68) rfl rfl ?_
    refine XT.iconstV X13.here hx rfl (4 : Int32) (hb hby d45_69) (by decide) ?_
    refine st14.trans ?_
    show Steps _ _ _ (T14.setTop (mkF m 73 #[rv sa, iv oa, rv a1] [(.int 103), (.int 103)])) _
    refine XS.icmpNo X14.here hx rfl (hb hby d45_73) rfl (teq (by decide : ((103 : Int32) = (103 : Int32)))).2 ?_
    refine XS.aloadN X14.here hx rfl (hb hby d45_76) rfl rfl ?_
    refine XS.iloadN X14.here hx rfl (hb hby d45_77) rfl ?_
    refine XT.iconstV X14.here hx rfl (5 : Int32) (hb hby d45_78) (by decide) ?_
    refine XS.iadd X14.here hx rfl (hb hby d45_79) rfl ?_
    refine st15.trans ?_
    refine XS.aloadN X15.here hx rfl (hb hby d45_83) rfl rfl ?_
    refine XT.iconstV X15.here hx rfl (5 : Int32) (hb hby d45_84) (by decide) ?_
    exact k)
  obtain ⟨cq17, kq17, q17a, q17b, q17c⟩ := isOf hZ1 e15 Ml.exa
  obtain ⟨_, _, ⟨T17, L17, k17, n17⟩, -, X17, ⟨Lc17, hQ17, l17, y17, z17⟩, st17⟩ := X15.virtualBack hx (y := mN26) (z := mN26) hown1 (mw hZ1 hw 232 rfl) (mw hZ1 hw 233 rfl) (notFace_of_selects (args := #[]) (mw hZ1 hw 235 rfl)) (mw hZ1 hw 235 rfl) (mw hZ1 hw 234 rfl) (by decide) (backOf (W := 1) (rm_ca l Z a0 hw [] a1 (5 : Int32) h1 n0 (own_old0 Y1) Y1 zc fm S _ Ml 5 (by decide) rfl (105 : Int32) rfl) hZ1 (ww hw 236 rfl) (ww hw 4 rfl) (by decide) (by decide)) q17a q17c (g := (mkF m 85 #[rv sa, iv oa, rv a1] [(.int 5), (.ref a1), (.int 105)])) rfl (by rw [hml]; rfl) (Steps.refl _) (argsL := [(.int 5)]) (rest := [(.int 105)]) (lenOf pd_33 rfl) rfl own_z (hb hby d45_85) (fun _ _ => ⟨rfl, e15, (by decide : 2 + 0 ≤ _), (by decide : 64 + 0 ≤ _)⟩)
  dsimp only [Pt.U, Pt.locs, Pt.cells, Pt.slots] at X17 l17 y17 z17 st17 hQ17
  rw [y17, z17] at X17
  obtain ⟨rfl, N17q, e17⟩ := hQ17
  have N17 := own_fr l17 N15 N17q
  obtain ⟨cq18, kq18, q18a, q18b, q18c⟩ := isOf hZ1 e17 M_1.exa
  obtain ⟨_, _, ⟨T18, L18, k18, n18⟩, -, X18, ⟨Lc18, hQ18, l18, y18, z18⟩, st18⟩ := X17.virtualBack hx (y := mN26) (z := mN26) hown1 (mw hZ1 hw 232 rfl) (mw hZ1 hw 233 rfl) (notFace_of_selects (args := #[]) (mw hZ1 hw 235 rfl)) (mw hZ1 hw 235 rfl) (mw hZ1 hw 234 rfl) (by decide) (backOf (W := 0) (rm_ca l Z a0 hw [] sa (oa + (6 : Int32)) h1 n0 (own_old0 Y1) Y1 zc fm S ms M_1 (pn + 6) (by omega) (by rw [ho]; exact own_ad (k := 6) (by omega) (by omega)) (118 : Int32) hs6) hZ1 (ww hw 236 rfl) (ww hw 4 rfl) (by decide) (by decide)) q18a q18c (g := (mkF m 96 #[rv sa, iv oa, rv a1] [(.int (oa + (6 : Int32))), (.ref sa)])) rfl (by rw [hml]; rfl) (Steps.refl _) (argsL := [(.int (oa + (6 : Int32)))]) (rest := []) (lenOf pd_33 rfl) rfl own_z (hb hby d45_96) (fun _ _ => ⟨rfl, e17, (by decide : 2 + 0 ≤ _), (by decide : 64 + 0 ≤ _)⟩)
  dsimp only [Pt.U, Pt.locs, Pt.cells, Pt.slots] at X18 l18 y18 z18 st18 hQ18
  rw [y18, z18] at X18
  obtain ⟨rfl, N18q, e18⟩ := hQ18
  have N18 := own_fr l18 N17 N18q
  obtain ⟨cq19, kq19, q19a, q19b, q19c⟩ := isOf hZ1 e18 Ml.exa
  obtain ⟨_, _, ⟨T19, L19, k19, n19⟩, -, X19, ⟨Lc19, hQ19, l19, y19, z19⟩, st19⟩ := X18.virtualBack hx (y := mN26) (z := mN26) hown1 (mw hZ1 hw 232 rfl) (mw hZ1 hw 233 rfl) (notFace_of_selects (args := #[]) (mw hZ1 hw 235 rfl)) (mw hZ1 hw 235 rfl) (mw hZ1 hw 234 rfl) (by decide) (backOf (W := 1) (rm_ca l Z a0 hw [] a1 (6 : Int32) h1 n0 (own_old0 Y1) Y1 zc fm S _ Ml 6 (by decide) rfl (118 : Int32) rfl) hZ1 (ww hw 236 rfl) (ww hw 4 rfl) (by decide) (by decide)) q19a q19c (g := (mkF m 102 #[rv sa, iv oa, rv a1] [(.int 6), (.ref a1), (.int 118)])) rfl (by rw [hml]; rfl) (Steps.refl _) (argsL := [(.int 6)]) (rest := [(.int 118)]) (lenOf pd_33 rfl) rfl own_z (hb hby d45_102) (fun _ _ => ⟨rfl, e18, (by decide : 2 + 0 ≤ _), (by decide : 64 + 0 ≤ _)⟩)
  dsimp only [Pt.U, Pt.locs, Pt.cells, Pt.slots] at X19 l19 y19 z19 st19 hQ19
  rw [y19, z19] at X19
  obtain ⟨rfl, N19q, e19⟩ := hQ19
  have N19 := own_fr l19 N18 N19q
  have pre20 : Pr p e below (T19.setTop (mkF m 110 #[rv sa, iv oa, rv a1] [(.int oa), (.ref sa)])) (s₁.setTop (entryFrame m #[(.ref sa), (.int oa)] 3)) := fun t k => pre16 t (by
    show Steps _ _ _ (T15.setTop (mkF m 85 #[rv sa, iv oa, rv a1] [(.int 5), (.ref a1), (.int 105)])) _
    refine st17.trans ?_
    show Steps _ _ _ (T17.setTop (mkF m 88 #[rv sa, iv oa, rv a1] [(.int 105), (.int 105)])) _
    refine XS.icmpNo X17.here hx rfl (hb hby d45_88) rfl (teq (by decide : ((105 : Int32) = (105 : Int32)))).2 ?_
    refine XS.aloadN X17.here hx rfl (hb hby d45_91) rfl rfl ?_
    refine XS.iloadN X17.here hx rfl (hb hby d45_92) rfl ?_
    refine XT.bipushV X17.here hx rfl (6 : Int32) (hb hby d45_93) (by decide) ?_
    refine XS.iadd X17.here hx rfl (hb hby d45_95) rfl ?_
    refine st18.trans ?_
    refine XS.aloadN X18.here hx rfl (hb hby d45_99) rfl rfl ?_
    refine XT.bipushV X18.here hx rfl (6 : Int32) (hb hby d45_100) (by decide) ?_
    refine st19.trans ?_
    show Steps _ _ _ (T19.setTop (mkF m 105 #[rv sa, iv oa, rv a1] [(.int 118), (.int 118)])) _
    refine XS.icmpNo X19.here hx rfl (hb hby d45_105) rfl (teq (by decide : ((118 : Int32) = (118 : Int32)))).2 ?_
    refine XS.aloadN X19.here hx rfl (hb hby d45_108) rfl rfl ?_
    refine XS.iloadN X19.here hx rfl (hb hby d45_109) rfl ?_
    exact k)
  obtain ⟨cq21, kq21, q21a, q21b, q21c⟩ := isOf hZ1 e19 M_1.exa
  obtain ⟨_, _, ⟨T21, L21, k21, n21⟩, -, X21, ⟨Lc21, hQ21, l21, y21, z21⟩, st21⟩ := X19.virtualBack hx (y := mN26) (z := mN26) hown1 (mw hZ1 hw 232 rfl) (mw hZ1 hw 233 rfl) (notFace_of_selects (args := #[]) (mw hZ1 hw 235 rfl)) (mw hZ1 hw 235 rfl) (mw hZ1 hw 234 rfl) (by decide) (backOf (W := 0) (rm_ca l Z a0 hw [] sa (oa + (7 : Int32)) h1 n0 (own_old0 Y1) Y1 zc fm S ms M_1 (pn + 7) (by omega) (by rw [ho]; exact own_ad (k := 7) (by omega) (by omega)) (101 : Int32) hs7) hZ1 (ww hw 236 rfl) (ww hw 4 rfl) (by decide) (by decide)) q21a q21c (g := (mkF m 113 #[rv sa, iv oa, rv a1] [(.int (oa + (7 : Int32))), (.ref sa)])) rfl (by rw [hml]; rfl) (Steps.refl _) (argsL := [(.int (oa + (7 : Int32)))]) (rest := []) (lenOf pd_33 rfl) rfl own_z (hb hby d45_113) (fun _ _ => ⟨rfl, e19, (by decide : 2 + 0 ≤ _), (by decide : 64 + 0 ≤ _)⟩)
  dsimp only [Pt.U, Pt.locs, Pt.cells, Pt.slots] at X21 l21 y21 z21 st21 hQ21
  rw [y21, z21] at X21
  obtain ⟨rfl, N21q, e21⟩ := hQ21
  have N21 := own_fr l21 N19 N21q
  obtain ⟨cq22, kq22, q22a, q22b, q22c⟩ := isOf hZ1 e21 Ml.exa
  obtain ⟨_, _, ⟨T22, L22, k22, n22⟩, -, X22, ⟨Lc22, hQ22, l22, y22, z22⟩, st22⟩ := X21.virtualBack hx (y := mN26) (z := mN26) hown1 (mw hZ1 hw 232 rfl) (mw hZ1 hw 233 rfl) (notFace_of_selects (args := #[]) (mw hZ1 hw 235 rfl)) (mw hZ1 hw 235 rfl) (mw hZ1 hw 234 rfl) (by decide) (backOf (W := 1) (rm_ca l Z a0 hw [] a1 (7 : Int32) h1 n0 (own_old0 Y1) Y1 zc fm S _ Ml 7 (by decide) rfl (101 : Int32) rfl) hZ1 (ww hw 236 rfl) (ww hw 4 rfl) (by decide) (by decide)) q22a q22c (g := (mkF m 119 #[rv sa, iv oa, rv a1] [(.int 7), (.ref a1), (.int 101)])) rfl (by rw [hml]; rfl) (Steps.refl _) (argsL := [(.int 7)]) (rest := [(.int 101)]) (lenOf pd_33 rfl) rfl own_z (hb hby d45_119) (fun _ _ => ⟨rfl, e21, (by decide : 2 + 0 ≤ _), (by decide : 64 + 0 ≤ _)⟩)
  dsimp only [Pt.U, Pt.locs, Pt.cells, Pt.slots] at X22 l22 y22 z22 st22 hQ22
  rw [y22, z22] at X22
  obtain ⟨rfl, N22q, e22⟩ := hQ22
  have N22 := own_fr l22 N21 N22q
  obtain ⟨cq23, kq23, q23a, q23b, q23c⟩ := isOf hZ1 e22 M_1.exa
  obtain ⟨_, _, ⟨T23, L23, k23, n23⟩, -, X23, ⟨Lc23, hQ23, l23, y23, z23⟩, st23⟩ := X22.virtualBack hx (y := mN26) (z := mN26) hown1 (mw hZ1 hw 232 rfl) (mw hZ1 hw 233 rfl) (notFace_of_selects (args := #[]) (mw hZ1 hw 235 rfl)) (mw hZ1 hw 235 rfl) (mw hZ1 hw 234 rfl) (by decide) (backOf (W := 0) (rm_ca l Z a0 hw [] sa (oa + (8 : Int32)) h1 n0 (own_old0 Y1) Y1 zc fm S ms M_1 (pn + 8) (by omega) (by rw [ho]; exact own_ad (k := 8) (by omega) (by omega)) (110 : Int32) hs8) hZ1 (ww hw 236 rfl) (ww hw 4 rfl) (by decide) (by decide)) q23a q23c (g := (mkF m 130 #[rv sa, iv oa, rv a1] [(.int (oa + (8 : Int32))), (.ref sa)])) rfl (by rw [hml]; rfl) (Steps.refl _) (argsL := [(.int (oa + (8 : Int32)))]) (rest := []) (lenOf pd_33 rfl) rfl own_z (hb hby d45_130) (fun _ _ => ⟨rfl, e22, (by decide : 2 + 0 ≤ _), (by decide : 64 + 0 ≤ _)⟩)
  dsimp only [Pt.U, Pt.locs, Pt.cells, Pt.slots] at X23 l23 y23 z23 st23 hQ23
  rw [y23, z23] at X23
  obtain ⟨rfl, N23q, e23⟩ := hQ23
  have N23 := own_fr l23 N22 N23q
  have pre24 : Pr p e below (T23.setTop (mkF m 134 #[rv sa, iv oa, rv a1] [(.ref a1), (.int 110)])) (s₁.setTop (entryFrame m #[(.ref sa), (.int oa)] 3)) := fun t k => pre20 t (by
    show Steps _ _ _ (T19.setTop (mkF m 110 #[rv sa, iv oa, rv a1] [(.int oa), (.ref sa)])) _
    refine XT.bipushV X19.here hx rfl (7 : Int32) (hb hby d45_110) (by decide) ?_
    refine XS.iadd X19.here hx rfl (hb hby d45_112) rfl ?_
    refine st21.trans ?_
    refine XS.aloadN X21.here hx rfl (hb hby d45_116) rfl rfl ?_
    refine XT.bipushV X21.here hx rfl (7 : Int32) (hb hby d45_117) (by decide) ?_
    refine st22.trans ?_
    show Steps _ _ _ (T22.setTop (mkF m 122 #[rv sa, iv oa, rv a1] [(.int 101), (.int 101)])) _
    refine XS.icmpNo X22.here hx rfl (hb hby d45_122) rfl (teq (by decide : ((101 : Int32) = (101 : Int32)))).2 ?_
    refine XS.aloadN X22.here hx rfl (hb hby d45_125) rfl rfl ?_
    refine XS.iloadN X22.here hx rfl (hb hby d45_126) rfl ?_
    refine XT.bipushV X22.here hx rfl (8 : Int32) (hb hby d45_127) (by decide) ?_
    refine XS.iadd X22.here hx rfl (hb hby d45_129) rfl ?_
    refine st23.trans ?_
    refine XS.aloadN X23.here hx rfl (hb hby d45_133) rfl rfl ?_
    exact k)
  obtain ⟨cq25, kq25, q25a, q25b, q25c⟩ := isOf hZ1 e23 Ml.exa
  obtain ⟨_, _, ⟨T25, L25, k25, n25⟩, -, X25, ⟨Lc25, hQ25, l25, y25, z25⟩, st25⟩ := X23.virtualBack hx (y := mN26) (z := mN26) hown1 (mw hZ1 hw 232 rfl) (mw hZ1 hw 233 rfl) (notFace_of_selects (args := #[]) (mw hZ1 hw 235 rfl)) (mw hZ1 hw 235 rfl) (mw hZ1 hw 234 rfl) (by decide) (backOf (W := 1) (rm_ca l Z a0 hw [] a1 (8 : Int32) h1 n0 (own_old0 Y1) Y1 zc fm S _ Ml 8 (by decide) rfl (110 : Int32) rfl) hZ1 (ww hw 236 rfl) (ww hw 4 rfl) (by decide) (by decide)) q25a q25c (g := (mkF m 136 #[rv sa, iv oa, rv a1] [(.int 8), (.ref a1), (.int 110)])) rfl (by rw [hml]; rfl) (Steps.refl _) (argsL := [(.int 8)]) (rest := [(.int 110)]) (lenOf pd_33 rfl) rfl own_z (hb hby d45_136) (fun _ _ => ⟨rfl, e23, (by decide : 2 + 0 ≤ _), (by decide : 64 + 0 ≤ _)⟩)
  dsimp only [Pt.U, Pt.locs, Pt.cells, Pt.slots] at X25 l25 y25 z25 st25 hQ25
  rw [y25, z25] at X25
  obtain ⟨rfl, N25q, e25⟩ := hQ25
  have N25 := own_fr l25 N23 N25q
  obtain ⟨cq26, kq26, q26a, q26b, q26c⟩ := isOf hZ1 e25 M_1.exa
  obtain ⟨_, _, ⟨T26, L26, k26, n26⟩, -, X26, ⟨Lc26, hQ26, l26, y26, z26⟩, st26⟩ := X25.virtualBack hx (y := mN26) (z := mN26) hown1 (mw hZ1 hw 232 rfl) (mw hZ1 hw 233 rfl) (notFace_of_selects (args := #[]) (mw hZ1 hw 235 rfl)) (mw hZ1 hw 235 rfl) (mw hZ1 hw 234 rfl) (by decide) (backOf (W := 0) (rm_ca l Z a0 hw [] sa (oa + (9 : Int32)) h1 n0 (own_old0 Y1) Y1 zc fm S ms M_1 (pn + 9) (by omega) (by rw [ho]; exact own_ad (k := 9) (by omega) (by omega)) (32 : Int32) hs9) hZ1 (ww hw 236 rfl) (ww hw 4 rfl) (by decide) (by decide)) q26a q26c (g := (mkF m 147 #[rv sa, iv oa, rv a1] [(.int (oa + (9 : Int32))), (.ref sa)])) rfl (by rw [hml]; rfl) (Steps.refl _) (argsL := [(.int (oa + (9 : Int32)))]) (rest := []) (lenOf pd_33 rfl) rfl own_z (hb hby d45_147) (fun _ _ => ⟨rfl, e25, (by decide : 2 + 0 ≤ _), (by decide : 64 + 0 ≤ _)⟩)
  dsimp only [Pt.U, Pt.locs, Pt.cells, Pt.slots] at X26 l26 y26 z26 st26 hQ26
  rw [y26, z26] at X26
  obtain ⟨rfl, N26q, e26⟩ := hQ26
  have N26 := own_fr l26 N25 N26q
  obtain ⟨cq27, kq27, q27a, q27b, q27c⟩ := isOf hZ1 e26 Ml.exa
  obtain ⟨_, _, ⟨T27, L27, k27, n27⟩, -, X27, ⟨Lc27, hQ27, l27, y27, z27⟩, st27⟩ := X26.virtualBack hx (y := mN26) (z := mN26) hown1 (mw hZ1 hw 232 rfl) (mw hZ1 hw 233 rfl) (notFace_of_selects (args := #[]) (mw hZ1 hw 235 rfl)) (mw hZ1 hw 235 rfl) (mw hZ1 hw 234 rfl) (by decide) (backOf (W := 1) (rm_ca l Z a0 hw [] a1 (9 : Int32) h1 n0 (own_old0 Y1) Y1 zc fm S _ Ml 9 (by decide) rfl (32 : Int32) rfl) hZ1 (ww hw 236 rfl) (ww hw 4 rfl) (by decide) (by decide)) q27a q27c (g := (mkF m 153 #[rv sa, iv oa, rv a1] [(.int 9), (.ref a1), (.int 32)])) rfl (by rw [hml]; rfl) (Steps.refl _) (argsL := [(.int 9)]) (rest := [(.int 32)]) (lenOf pd_33 rfl) rfl own_z (hb hby d45_153) (fun _ _ => ⟨rfl, e26, (by decide : 2 + 0 ≤ _), (by decide : 64 + 0 ≤ _)⟩)
  dsimp only [Pt.U, Pt.locs, Pt.cells, Pt.slots] at X27 l27 y27 z27 st27 hQ27
  rw [y27, z27] at X27
  obtain ⟨rfl, N27q, e27⟩ := hQ27
  have N27 := own_fr l27 N26 N27q
  have pre28 : Pr p e below (T27.setTop (mkF m 160 #[rv sa, iv oa, rv a1] [(.ref sa)])) (s₁.setTop (entryFrame m #[(.ref sa), (.int oa)] 3)) := fun t k => pre24 t (by
    show Steps _ _ _ (T23.setTop (mkF m 134 #[rv sa, iv oa, rv a1] [(.ref a1), (.int 110)])) _
    refine XT.bipushV X23.here hx rfl (8 : Int32) (hb hby d45_134) (by decide) ?_
    refine st25.trans ?_
    show Steps _ _ _ (T25.setTop (mkF m 139 #[rv sa, iv oa, rv a1] [(.int 110), (.int 110)])) _
    refine XS.icmpNo X25.here hx rfl (hb hby d45_139) rfl (teq (by decide : ((110 : Int32) = (110 : Int32)))).2 ?_
    refine XS.aloadN X25.here hx rfl (hb hby d45_142) rfl rfl ?_
    refine XS.iloadN X25.here hx rfl (hb hby d45_143) rfl ?_
    refine XT.bipushV X25.here hx rfl (9 : Int32) (hb hby d45_144) (by decide) ?_
    refine XS.iadd X25.here hx rfl (hb hby d45_146) rfl ?_
    refine st26.trans ?_
    refine XS.aloadN X26.here hx rfl (hb hby d45_150) rfl rfl ?_
    refine XT.bipushV X26.here hx rfl (9 : Int32) (hb hby d45_151) (by decide) ?_
    refine st27.trans ?_
    show Steps _ _ _ (T27.setTop (mkF m 156 #[rv sa, iv oa, rv a1] [(.int 32), (.int 32)])) _
    refine XS.icmpNo X27.here hx rfl (hb hby d45_156) rfl (teq (by decide : ((32 : Int32) = (32 : Int32)))).2 ?_
    refine XS.aloadN X27.here hx rfl (hb hby d45_159) rfl rfl ?_
    exact k)
  obtain ⟨cq29, kq29, q29a, q29b, q29c⟩ := isOf hZ1 e27 M_1.exa
  obtain ⟨_, _, ⟨T29, L29, k29, n29⟩, -, X29, ⟨Lc29, hQ29, l29, y29, z29⟩, st29⟩ := X27.virtualBack hx (y := mN26) (z := mN26) hown1 (mw hZ1 hw 232 rfl) (mw hZ1 hw 233 rfl) (notFace_of_selects (args := #[]) (mw hZ1 hw 235 rfl)) (mw hZ1 hw 235 rfl) (mw hZ1 hw 234 rfl) (by decide) (backOf (W := 0) (rm_ca l Z a0 hw [] sa (oa + (10 : Int32)) h1 n0 (own_old0 Y1) Y1 zc fm S ms M_1 (pn + 10) (by omega) (by rw [ho]; exact own_ad (k := 10) (by omega) (by omega)) (116 : Int32) hs10) hZ1 (ww hw 236 rfl) (ww hw 4 rfl) (by decide) (by decide)) q29a q29c (g := (mkF m 164 #[rv sa, iv oa, rv a1] [(.int (oa + (10 : Int32))), (.ref sa)])) rfl (by rw [hml]; rfl) (Steps.refl _) (argsL := [(.int (oa + (10 : Int32)))]) (rest := []) (lenOf pd_33 rfl) rfl own_z (hb hby d45_164) (fun _ _ => ⟨rfl, e27, (by decide : 2 + 0 ≤ _), (by decide : 64 + 0 ≤ _)⟩)
  dsimp only [Pt.U, Pt.locs, Pt.cells, Pt.slots] at X29 l29 y29 z29 st29 hQ29
  rw [y29, z29] at X29
  obtain ⟨rfl, N29q, e29⟩ := hQ29
  have N29 := own_fr l29 N27 N29q
  obtain ⟨cq30, kq30, q30a, q30b, q30c⟩ := isOf hZ1 e29 Ml.exa
  obtain ⟨_, _, ⟨T30, L30, k30, n30⟩, -, X30, ⟨Lc30, hQ30, l30, y30, z30⟩, st30⟩ := X29.virtualBack hx (y := mN26) (z := mN26) hown1 (mw hZ1 hw 232 rfl) (mw hZ1 hw 233 rfl) (notFace_of_selects (args := #[]) (mw hZ1 hw 235 rfl)) (mw hZ1 hw 235 rfl) (mw hZ1 hw 234 rfl) (by decide) (backOf (W := 1) (rm_ca l Z a0 hw [] a1 (10 : Int32) h1 n0 (own_old0 Y1) Y1 zc fm S _ Ml 10 (by decide) rfl (116 : Int32) rfl) hZ1 (ww hw 236 rfl) (ww hw 4 rfl) (by decide) (by decide)) q30a q30c (g := (mkF m 170 #[rv sa, iv oa, rv a1] [(.int 10), (.ref a1), (.int 116)])) rfl (by rw [hml]; rfl) (Steps.refl _) (argsL := [(.int 10)]) (rest := [(.int 116)]) (lenOf pd_33 rfl) rfl own_z (hb hby d45_170) (fun _ _ => ⟨rfl, e29, (by decide : 2 + 0 ≤ _), (by decide : 64 + 0 ≤ _)⟩)
  dsimp only [Pt.U, Pt.locs, Pt.cells, Pt.slots] at X30 l30 y30 z30 st30 hQ30
  rw [y30, z30] at X30
  obtain ⟨rfl, N30q, e30⟩ := hQ30
  have N30 := own_fr l30 N29 N30q
  obtain ⟨cq31, kq31, q31a, q31b, q31c⟩ := isOf hZ1 e30 M_1.exa
  obtain ⟨_, _, ⟨T31, L31, k31, n31⟩, -, X31, ⟨Lc31, hQ31, l31, y31, z31⟩, st31⟩ := X30.virtualBack hx (y := mN26) (z := mN26) hown1 (mw hZ1 hw 232 rfl) (mw hZ1 hw 233 rfl) (notFace_of_selects (args := #[]) (mw hZ1 hw 235 rfl)) (mw hZ1 hw 235 rfl) (mw hZ1 hw 234 rfl) (by decide) (backOf (W := 0) (rm_ca l Z a0 hw [] sa (oa + (11 : Int32)) h1 n0 (own_old0 Y1) Y1 zc fm S ms M_1 (pn + 11) (by omega) (by rw [ho]; exact own_ad (k := 11) (by omega) (by omega)) (119 : Int32) hs11) hZ1 (ww hw 236 rfl) (ww hw 4 rfl) (by decide) (by decide)) q31a q31c (g := (mkF m 181 #[rv sa, iv oa, rv a1] [(.int (oa + (11 : Int32))), (.ref sa)])) rfl (by rw [hml]; rfl) (Steps.refl _) (argsL := [(.int (oa + (11 : Int32)))]) (rest := []) (lenOf pd_33 rfl) rfl own_z (hb hby d45_181) (fun _ _ => ⟨rfl, e30, (by decide : 2 + 0 ≤ _), (by decide : 64 + 0 ≤ _)⟩)
  dsimp only [Pt.U, Pt.locs, Pt.cells, Pt.slots] at X31 l31 y31 z31 st31 hQ31
  rw [y31, z31] at X31
  obtain ⟨rfl, N31q, e31⟩ := hQ31
  have N31 := own_fr l31 N30 N31q
  have pre32 : Pr p e below (T31.setTop (mkF m 184 #[rv sa, iv oa, rv a1] [(.int 119)])) (s₁.setTop (entryFrame m #[(.ref sa), (.int oa)] 3)) := fun t k => pre28 t (by
    show Steps _ _ _ (T27.setTop (mkF m 160 #[rv sa, iv oa, rv a1] [(.ref sa)])) _
    refine XS.iloadN X27.here hx rfl (hb hby d45_160) rfl ?_
    refine XT.bipushV X27.here hx rfl (10 : Int32) (hb hby d45_161) (by decide) ?_
    refine XS.iadd X27.here hx rfl (hb hby d45_163) rfl ?_
    refine st29.trans ?_
    refine XS.aloadN X29.here hx rfl (hb hby d45_167) rfl rfl ?_
    refine XT.bipushV X29.here hx rfl (10 : Int32) (hb hby d45_168) (by decide) ?_
    refine st30.trans ?_
    show Steps _ _ _ (T30.setTop (mkF m 173 #[rv sa, iv oa, rv a1] [(.int 116), (.int 116)])) _
    refine XS.icmpNo X30.here hx rfl (hb hby d45_173) rfl (teq (by decide : ((116 : Int32) = (116 : Int32)))).2 ?_
    refine XS.aloadN X30.here hx rfl (hb hby d45_176) rfl rfl ?_
    refine XS.iloadN X30.here hx rfl (hb hby d45_177) rfl ?_
    refine XT.bipushV X30.here hx rfl (11 : Int32) (hb hby d45_178) (by decide) ?_
    refine XS.iadd X30.here hx rfl (hb hby d45_180) rfl ?_
    refine st31.trans ?_
    exact k)
  obtain ⟨cq33, kq33, q33a, q33b, q33c⟩ := isOf hZ1 e31 Ml.exa
  obtain ⟨_, _, ⟨T33, L33, k33, n33⟩, -, X33, ⟨Lc33, hQ33, l33, y33, z33⟩, st33⟩ := X31.virtualBack hx (y := mN26) (z := mN26) hown1 (mw hZ1 hw 232 rfl) (mw hZ1 hw 233 rfl) (notFace_of_selects (args := #[]) (mw hZ1 hw 235 rfl)) (mw hZ1 hw 235 rfl) (mw hZ1 hw 234 rfl) (by decide) (backOf (W := 1) (rm_ca l Z a0 hw [] a1 (11 : Int32) h1 n0 (own_old0 Y1) Y1 zc fm S _ Ml 11 (by decide) rfl (119 : Int32) rfl) hZ1 (ww hw 236 rfl) (ww hw 4 rfl) (by decide) (by decide)) q33a q33c (g := (mkF m 187 #[rv sa, iv oa, rv a1] [(.int 11), (.ref a1), (.int 119)])) rfl (by rw [hml]; rfl) (Steps.refl _) (argsL := [(.int 11)]) (rest := [(.int 119)]) (lenOf pd_33 rfl) rfl own_z (hb hby d45_187) (fun _ _ => ⟨rfl, e31, (by decide : 2 + 0 ≤ _), (by decide : 64 + 0 ≤ _)⟩)
  dsimp only [Pt.U, Pt.locs, Pt.cells, Pt.slots] at X33 l33 y33 z33 st33 hQ33
  rw [y33, z33] at X33
  obtain ⟨rfl, N33q, e33⟩ := hQ33
  have N33 := own_fr l33 N31 N33q
  obtain ⟨cq34, kq34, q34a, q34b, q34c⟩ := isOf hZ1 e33 M_1.exa
  obtain ⟨_, _, ⟨T34, L34, k34, n34⟩, -, X34, ⟨Lc34, hQ34, l34, y34, z34⟩, st34⟩ := X33.virtualBack hx (y := mN26) (z := mN26) hown1 (mw hZ1 hw 232 rfl) (mw hZ1 hw 233 rfl) (notFace_of_selects (args := #[]) (mw hZ1 hw 235 rfl)) (mw hZ1 hw 235 rfl) (mw hZ1 hw 234 rfl) (by decide) (backOf (W := 0) (rm_ca l Z a0 hw [] sa (oa + (12 : Int32)) h1 n0 (own_old0 Y1) Y1 zc fm S ms M_1 (pn + 12) (by omega) (by rw [ho]; exact own_ad (k := 12) (by omega) (by omega)) (105 : Int32) hs12) hZ1 (ww hw 236 rfl) (ww hw 4 rfl) (by decide) (by decide)) q34a q34c (g := (mkF m 198 #[rv sa, iv oa, rv a1] [(.int (oa + (12 : Int32))), (.ref sa)])) rfl (by rw [hml]; rfl) (Steps.refl _) (argsL := [(.int (oa + (12 : Int32)))]) (rest := []) (lenOf pd_33 rfl) rfl own_z (hb hby d45_198) (fun _ _ => ⟨rfl, e33, (by decide : 2 + 0 ≤ _), (by decide : 64 + 0 ≤ _)⟩)
  dsimp only [Pt.U, Pt.locs, Pt.cells, Pt.slots] at X34 l34 y34 z34 st34 hQ34
  rw [y34, z34] at X34
  obtain ⟨rfl, N34q, e34⟩ := hQ34
  have N34 := own_fr l34 N33 N34q
  obtain ⟨cq35, kq35, q35a, q35b, q35c⟩ := isOf hZ1 e34 Ml.exa
  obtain ⟨_, _, ⟨T35, L35, k35, n35⟩, -, X35, ⟨Lc35, hQ35, l35, y35, z35⟩, st35⟩ := X34.virtualBack hx (y := mN26) (z := mN26) hown1 (mw hZ1 hw 232 rfl) (mw hZ1 hw 233 rfl) (notFace_of_selects (args := #[]) (mw hZ1 hw 235 rfl)) (mw hZ1 hw 235 rfl) (mw hZ1 hw 234 rfl) (by decide) (backOf (W := 1) (rm_ca l Z a0 hw [] a1 (12 : Int32) h1 n0 (own_old0 Y1) Y1 zc fm S _ Ml 12 (by decide) rfl (105 : Int32) rfl) hZ1 (ww hw 236 rfl) (ww hw 4 rfl) (by decide) (by decide)) q35a q35c (g := (mkF m 204 #[rv sa, iv oa, rv a1] [(.int 12), (.ref a1), (.int 105)])) rfl (by rw [hml]; rfl) (Steps.refl _) (argsL := [(.int 12)]) (rest := [(.int 105)]) (lenOf pd_33 rfl) rfl own_z (hb hby d45_204) (fun _ _ => ⟨rfl, e34, (by decide : 2 + 0 ≤ _), (by decide : 64 + 0 ≤ _)⟩)
  dsimp only [Pt.U, Pt.locs, Pt.cells, Pt.slots] at X35 l35 y35 z35 st35 hQ35
  rw [y35, z35] at X35
  obtain ⟨rfl, N35q, e35⟩ := hQ35
  have N35 := own_fr l35 N34 N35q
  have pre36 : Pr p e below (T35.setTop (mkF m 210 #[rv sa, iv oa, rv a1] [])) (s₁.setTop (entryFrame m #[(.ref sa), (.int oa)] 3)) := fun t k => pre32 t (by
    show Steps _ _ _ (T31.setTop (mkF m 184 #[rv sa, iv oa, rv a1] [(.int 119)])) _
    refine XS.aloadN X31.here hx rfl (hb hby d45_184) rfl rfl ?_
    refine XT.bipushV X31.here hx rfl (11 : Int32) (hb hby d45_185) (by decide) ?_
    refine st33.trans ?_
    show Steps _ _ _ (T33.setTop (mkF m 190 #[rv sa, iv oa, rv a1] [(.int 119), (.int 119)])) _
    refine XS.icmpNo X33.here hx rfl (hb hby d45_190) rfl (teq (by decide : ((119 : Int32) = (119 : Int32)))).2 ?_
    refine XS.aloadN X33.here hx rfl (hb hby d45_193) rfl rfl ?_
    refine XS.iloadN X33.here hx rfl (hb hby d45_194) rfl ?_
    refine XT.bipushV X33.here hx rfl (12 : Int32) (hb hby d45_195) (by decide) ?_
    refine XS.iadd X33.here hx rfl (hb hby d45_197) rfl ?_
    refine st34.trans ?_
    refine XS.aloadN X34.here hx rfl (hb hby d45_201) rfl rfl ?_
    refine XT.bipushV X34.here hx rfl (12 : Int32) (hb hby d45_202) (by decide) ?_
    refine st35.trans ?_
    show Steps _ _ _ (T35.setTop (mkF m 207 #[rv sa, iv oa, rv a1] [(.int 105), (.int 105)])) _
    refine XS.icmpNo X35.here hx rfl (hb hby d45_207) rfl (teq (by decide : ((105 : Int32) = (105 : Int32)))).2 ?_
    exact k)
  obtain ⟨cq37, kq37, q37a, q37b, q37c⟩ := isOf hZ1 e35 M_1.exa
  obtain ⟨_, _, ⟨T37, L37, k37, n37⟩, -, X37, ⟨Lc37, hQ37, l37, y37, z37⟩, st37⟩ := X35.virtualBack hx (y := mN26) (z := mN26) hown1 (mw hZ1 hw 232 rfl) (mw hZ1 hw 233 rfl) (notFace_of_selects (args := #[]) (mw hZ1 hw 235 rfl)) (mw hZ1 hw 235 rfl) (mw hZ1 hw 234 rfl) (by decide) (backOf (W := 0) (rm_ca l Z a0 hw [] sa (oa + (13 : Int32)) h1 n0 (own_old0 Y1) Y1 zc fm S ms M_1 (pn + 13) (by omega) (by rw [ho]; exact own_ad (k := 13) (by omega) (by omega)) (99 : Int32) hs13) hZ1 (ww hw 236 rfl) (ww hw 4 rfl) (by decide) (by decide)) q37a q37c (g := (mkF m 215 #[rv sa, iv oa, rv a1] [(.int (oa + (13 : Int32))), (.ref sa)])) rfl (by rw [hml]; rfl) (Steps.refl _) (argsL := [(.int (oa + (13 : Int32)))]) (rest := []) (lenOf pd_33 rfl) rfl own_z (hb hby d45_215) (fun _ _ => ⟨rfl, e35, (by decide : 2 + 0 ≤ _), (by decide : 64 + 0 ≤ _)⟩)
  dsimp only [Pt.U, Pt.locs, Pt.cells, Pt.slots] at X37 l37 y37 z37 st37 hQ37
  rw [y37, z37] at X37
  obtain ⟨rfl, N37q, e37⟩ := hQ37
  have N37 := own_fr l37 N35 N37q
  obtain ⟨cq38, kq38, q38a, q38b, q38c⟩ := isOf hZ1 e37 Ml.exa
  obtain ⟨_, _, ⟨T38, L38, k38, n38⟩, -, X38, ⟨Lc38, hQ38, l38, y38, z38⟩, st38⟩ := X37.virtualBack hx (y := mN26) (z := mN26) hown1 (mw hZ1 hw 232 rfl) (mw hZ1 hw 233 rfl) (notFace_of_selects (args := #[]) (mw hZ1 hw 235 rfl)) (mw hZ1 hw 235 rfl) (mw hZ1 hw 234 rfl) (by decide) (backOf (W := 1) (rm_ca l Z a0 hw [] a1 (13 : Int32) h1 n0 (own_old0 Y1) Y1 zc fm S _ Ml 13 (by decide) rfl (99 : Int32) rfl) hZ1 (ww hw 236 rfl) (ww hw 4 rfl) (by decide) (by decide)) q38a q38c (g := (mkF m 221 #[rv sa, iv oa, rv a1] [(.int 13), (.ref a1), (.int 99)])) rfl (by rw [hml]; rfl) (Steps.refl _) (argsL := [(.int 13)]) (rest := [(.int 99)]) (lenOf pd_33 rfl) rfl own_z (hb hby d45_221) (fun _ _ => ⟨rfl, e37, (by decide : 2 + 0 ≤ _), (by decide : 64 + 0 ≤ _)⟩)
  dsimp only [Pt.U, Pt.locs, Pt.cells, Pt.slots] at X38 l38 y38 z38 st38 hQ38
  rw [y38, z38] at X38
  obtain ⟨rfl, N38q, e38⟩ := hQ38
  have N38 := own_fr l38 N37 N38q
  have pre39 : Pr p e below (T38.setTop (mkF m 232 #[rv sa, iv oa, rv a1] [(.int (oa + (14 : Int32))), (.ref sa)])) (s₁.setTop (entryFrame m #[(.ref sa), (.int oa)] 3)) := fun t k => pre36 t (by
    show Steps _ _ _ (T35.setTop (mkF m 210 #[rv sa, iv oa, rv a1] [])) _
    refine XS.aloadN X35.here hx rfl (hb hby d45_210) rfl rfl ?_
    refine XS.iloadN X35.here hx rfl (hb hby d45_211) rfl ?_
    refine XT.bipushV X35.here hx rfl (13 : Int32) (hb hby d45_212) (by decide) ?_
    refine XS.iadd X35.here hx rfl (hb hby d45_214) rfl ?_
    refine st37.trans ?_
    refine XS.aloadN X37.here hx rfl (hb hby d45_218) rfl rfl ?_
    refine XT.bipushV X37.here hx rfl (13 : Int32) (hb hby d45_219) (by decide) ?_
    refine st38.trans ?_
    show Steps _ _ _ (T38.setTop (mkF m 224 #[rv sa, iv oa, rv a1] [(.int 99), (.int 99)])) _
    refine XS.icmpNo X38.here hx rfl (hb hby d45_224) rfl (teq (by decide : ((99 : Int32) = (99 : Int32)))).2 ?_
    refine XS.aloadN X38.here hx rfl (hb hby d45_227) rfl rfl ?_
    refine XS.iloadN X38.here hx rfl (hb hby d45_228) rfl ?_
    refine XT.bipushV X38.here hx rfl (14 : Int32) (hb hby d45_229) (by decide) ?_
    refine XS.iadd X38.here hx rfl (hb hby d45_231) rfl ?_
    exact k)
  obtain ⟨cq40, kq40, q40a, q40b, q40c⟩ := isOf hZ1 e38 M_1.exa
  obtain ⟨_, _, ⟨T40, L40, k40, n40⟩, -, X40, ⟨Lc40, hQ40, l40, y40, z40⟩, st40⟩ := X38.virtualBack hx (y := mN26) (z := mN26) hown1 (mw hZ1 hw 232 rfl) (mw hZ1 hw 233 rfl) (notFace_of_selects (args := #[]) (mw hZ1 hw 235 rfl)) (mw hZ1 hw 235 rfl) (mw hZ1 hw 234 rfl) (by decide) (backOf (W := 0) (rm_ca l Z a0 hw [] sa (oa + (14 : Int32)) h1 n0 (own_old0 Y1) Y1 zc fm S ms M_1 (pn + 14) (by omega) (by rw [ho]; exact own_ad (k := 14) (by omega) (by omega)) (101 : Int32) hs14) hZ1 (ww hw 236 rfl) (ww hw 4 rfl) (by decide) (by decide)) q40a q40c (g := (mkF m 232 #[rv sa, iv oa, rv a1] [(.int (oa + (14 : Int32))), (.ref sa)])) rfl (by rw [hml]; rfl) (Steps.refl _) (argsL := [(.int (oa + (14 : Int32)))]) (rest := []) (lenOf pd_33 rfl) rfl own_z (hb hby d45_232) (fun _ _ => ⟨rfl, e38, (by decide : 2 + 0 ≤ _), (by decide : 64 + 0 ≤ _)⟩)
  dsimp only [Pt.U, Pt.locs, Pt.cells, Pt.slots] at X40 l40 y40 z40 st40 hQ40
  rw [y40, z40] at X40
  obtain ⟨rfl, N40q, e40⟩ := hQ40
  have N40 := own_fr l40 N38 N40q
  obtain ⟨cq41, kq41, q41a, q41b, q41c⟩ := isOf hZ1 e40 Ml.exa
  obtain ⟨_, _, ⟨T41, L41, k41, n41⟩, -, X41, ⟨Lc41, hQ41, l41, y41, z41⟩, st41⟩ := X40.virtualBack hx (y := mN26) (z := mN26) hown1 (mw hZ1 hw 232 rfl) (mw hZ1 hw 233 rfl) (notFace_of_selects (args := #[]) (mw hZ1 hw 235 rfl)) (mw hZ1 hw 235 rfl) (mw hZ1 hw 234 rfl) (by decide) (backOf (W := 1) (rm_ca l Z a0 hw [] a1 (14 : Int32) h1 n0 (own_old0 Y1) Y1 zc fm S _ Ml 14 (by decide) rfl (101 : Int32) rfl) hZ1 (ww hw 236 rfl) (ww hw 4 rfl) (by decide) (by decide)) q41a q41c (g := (mkF m 238 #[rv sa, iv oa, rv a1] [(.int 14), (.ref a1), (.int 101)])) rfl (by rw [hml]; rfl) (Steps.refl _) (argsL := [(.int 14)]) (rest := [(.int 101)]) (lenOf pd_33 rfl) rfl own_z (hb hby d45_238) (fun _ _ => ⟨rfl, e40, (by decide : 2 + 0 ≤ _), (by decide : 64 + 0 ≤ _)⟩)
  dsimp only [Pt.U, Pt.locs, Pt.cells, Pt.slots] at X41 l41 y41 z41 st41 hQ41
  rw [y41, z41] at X41
  obtain ⟨rfl, N41q, e41⟩ := hQ41
  have N41 := own_fr l41 N40 N41q
  have pre42 : Pr p e below (T41.setTop (mkF m 249 #[rv sa, iv oa, rv a1] [(.int 1)])) (s₁.setTop (entryFrame m #[(.ref sa), (.int oa)] 3)) := fun t k => pre39 t (by
    show Steps _ _ _ (T38.setTop (mkF m 232 #[rv sa, iv oa, rv a1] [(.int (oa + (14 : Int32))), (.ref sa)])) _
    refine st40.trans ?_
    refine XS.aloadN X40.here hx rfl (hb hby d45_235) rfl rfl ?_
    refine XT.bipushV X40.here hx rfl (14 : Int32) (hb hby d45_236) (by decide) ?_
    refine st41.trans ?_
    show Steps _ _ _ (T41.setTop (mkF m 241 #[rv sa, iv oa, rv a1] [(.int 101), (.int 101)])) _
    refine XS.icmpNo X41.here hx rfl (hb hby d45_241) rfl (teq (by decide : ((101 : Int32) = (101 : Int32)))).2 ?_
    refine XT.iconstV X41.here hx rfl (1 : Int32) (hb hby d45_244) (by decide) ?_
    refine XS.goto X41.here hx rfl (pc0 := 245) (pc' := 249) rfl (hb hby d45_245) (by decide) (by decide) ?_
    exact k)
  obtain ⟨fs, hr, hrun, hended, hEnd⟩ := X41.leaveW hS1 (by rw [e41]; exact hk1q) (v := some (.int 1)) (fun h => by rw [Bd.returns] at h; cases h) (hlocks := Bd.notSynchronized)
  refine ⟨_, _, pre42 _ ?_, hrun, hended, _, _, rfl, ?_, ?_, own_endW hEnd (by decide) (by decide)⟩
  · show Steps _ _ _ (T41.setTop (mkF m 249 #[rv sa, iv oa, rv a1] [(.int 1)])) _
    exact retOut X41 hx Bd.returns rfl (Or.inl ⟨rfl, by simp, _, rfl⟩) (hb hby d45_249) hr
  · show Qok h0 n0 _ T41.heap _
    rw [e41]
    exact ⟨rfl, N41, own_ext_of K1⟩
  · show CHr Z consts_1 s.vm s.heap T41.vm T41.heap
    rw [hh, e41]
    exact CHr.trans R1 (CHv.at (s := s) (vm0 := T1.vm) X41 hZ1 hEL R1.1)
theorem rm_gm (l : Launch) (Z : State) (a0 : Array Value) (hw : ∀ d ∈ tables_1, d.before a0 Z = true) (ws : List Jvm.Cond) (ea : Addr) (h0 : Heap) (n0 : Nat) (Z0 : n0 ≤ h0.size) (Y0 : Old Z n0 h0) (zc : Int32) (fm : Value) (S : Sts Z Z.heap zc fm) (ma : Addr) (Fm : Fld Z h0 ea "java/lang/Throwable" "detailMessage" "Ljava/lang/String;" (.ref ma))  :
    MFa l mN55 jdk_78_method_6_code 1 (some (.object "java/lang/String")) ws (Room.mk 0 0 0 0) Z h0 n0 #[(.ref ea)] (Qp (some (.ref ma))) := by
  refine MetFree.of_bodySF (plainFor_of_name pn_35) hisR ?_
  intro p e s m args below meth c s₁ Bd hml0 hP hK
  obtain ⟨rfl, hZ, hh⟩ := hP
  have hx := Bd.exec
  have hby := Bd.bytes
  have hown : s.vm.findClass "java/lang/Throwable" = some m.cls := findClass_of_methodNamed Bd.named
  have X0 : Stand p l e (Room.mk 0 0 0 0) s m #[(.ref ea)] below meth c s₁ [] 0 0 := Stand.of_body Bd
  have e0 : s₁.heap = h0 := by rw [← hh, Bd.state]; rfl
  have N0 := Fr.nil n0
  have pre0 : Pr p e below (s₁.setTop (mkF m 0 #[rv ea] [])) (s₁.setTop (entryFrame m #[(.ref ea)] 1)) := fun t k => castTop (by first | (simp [entryFrame, mkF, argsToLocals, Value.category]; done) | rfl) k
  obtain ⟨T1, X1, e1, st1⟩ := getF X0 hx hZ hown (host := "") (Or.inl (ww hw 219 rfl)) Via.refl e0 Fm (g := (mkF m 1 #[rv ea] [(.ref ea)])) rfl rfl (hb hby d38_1)
  have pre2 : Pr p e below (T1.setTop (mkF m 4 #[rv ea] [(.ref ma)])) (s₁.setTop (entryFrame m #[(.ref ea)] 1)) := fun t k => pre0 t (by
    show Steps _ _ _ (s₁.setTop (mkF m 0 #[rv ea] [])) _
    refine XS.aloadN X0.here hx rfl (hb hby d38_0) rfl rfl ?_
    refine st1 _ ?_
    exact k)
  obtain ⟨fs, hr, hrun, hended, hW, hsame⟩ := X1.leave (v := some (.ref ma)) (fun h => by rw [Bd.returns] at h; cases h)
  refine ⟨_, _, pre2 _ ?_, hrun, hended, _, _, rfl, ?_, ⟨_, rfl⟩, hW, hsame.mono (by decide) (by decide)⟩
  · show Steps _ _ _ (T1.setTop (mkF m 4 #[rv ea] [(.ref ma)])) _
    exact retOut X1 hx Bd.returns rfl (Or.inr (Or.inr (Or.inr (Or.inr ⟨rfl, rfl, rfl⟩)))) (hb hby d38_4) hr
  · show (Qp (some (.ref ma))) h0 n0 _ T1.heap _
    rw [e1]
    exact ⟨rfl, N0, rfl⟩
theorem rm_eA (l : Launch) (Z : State) (a0 : Array Value) (hw : ∀ d ∈ tables_1, d.before a0 Z = true) (ws : List Jvm.Cond) (ra : Addr) (ca : Addr) (h0 : Heap) (n0 : Nat) (Z0 : n0 ≤ h0.size) (Y0 : Old Z n0 h0) (zc : Int32) (fm : Value) (S : Sts Z Z.heap zc fm) (Ea : Exa Z h0 ra "java/lang/String") (Fv : Fld Z h0 ra "java/lang/String" "value" "[B" .null) (Fc : Fld Z h0 ra "java/lang/String" "coder" "B" (.int 0)) (ga : n0 ≤ ra)  :
    MetFree l mN47 (head1 (Jvm.Cond.code mN47 jdk_42_method_149_code 6 none :: ws) (Room.mk 1 2 4 12)) (fun a U => a = #[(.ref ra), (.ref ca), (.int 0), (.int 0), .null] ∧ Z.Warmed39 U.vm ∧ U.heap = h0 ∧ CHv Z consts_1 U.vm h0) (fun _ _ _ _ _ => True) (fun _ U o U' => ∃ v L, o = .returned v ∧ (Qe Z ra) h0 n0 v U'.heap L ∧ CHr Z consts_1 U.vm U.heap U'.vm U'.heap ∧ ReturnedEndW U o U' L (Room.mk 1 2 4 12).cells (Room.mk 1 2 4 12).slots) := by
  refine MetFree.of_bodySF (plainFor_of_name pn_13) hisR ?_
  intro p e s m args below meth c s₁ Bd hml0 hP hK
  obtain ⟨rfl, hZ, hh, hG⟩ := hP
  have hx := Bd.exec
  have hby := Bd.bytes
  have hml : c.maxLocals = 6 := hml0
  have hown : s.vm.findClass "java/lang/String" = some m.cls := findClass_of_methodNamed Bd.named
  have hnm := (name_of_methodNamed Bd.named Bd.method).1
  have X0 : Stand p l e (Room.mk 1 2 4 12) s m #[(.ref ra), (.ref ca), (.int 0), (.int 0), .null] below meth c s₁ [] 0 0 := Stand.of_body Bd
  have e0 : s₁.heap = h0 := by rw [← hh, Bd.state]; rfl
  have N0 := Fr.nil n0
  have pre0 : Pr p e below (s₁.setTop (mkF m 0 #[rv ra, rv ca, iv 0, iv 0, .val .null, .unset] [])) (s₁.setTop (entryFrame m #[(.ref ra), (.ref ca), (.int 0), (.int 0), .null] 6)) := fun t k => castTop (by first | (simp [entryFrame, mkF, argsToLocals, Value.category]; done) | rfl) k
  have hEL := own_EW hw
  have R0 : CHr Z consts_1 s.vm h0 s.vm h0 := CHr.refl hG
  have wSa : ∀ d ∈ Bundle.stringAtoms, d.before a0 Z = true := own_wSa hw
  have sf_ra : Safe Z consts_1 s.vm h0 ra := own_safe0 hZ.alike Ea Fv
  obtain ⟨T1, X1, e1, st1⟩ := initO X0 hx hZ hown (ww hw 12 rfl) (ww hw 13 rfl) (ww hw 14 rfl) e0 (g := (mkF m 1 #[rv ra, rv ca, iv 0, iv 0, .val .null, .unset] [(.ref ra)])) rfl (by rw [hml]; rfl) rfl (hb hby d2_1) (by decide) (W := 0) own_z (by decide)
  obtain ⟨a2, T2, h2, kk2, b2, kb2, X2, e2, E2, hS2, hk2q, hZ2, hown2, Ea2, Ca2, Va2, Ab2, la2, lb2, hC2, Li2, hsf2, st2⟩ := ldcCH (s := s) (vm0 := s.vm) (EL := consts_1) X1 hx hZ hown (ww hw 258 rfl) wSa e1 ((State.WarmedH.refl s).since h0.size) (Nat.le_refl _) hEL (List.mem_of_getElem? (i := 4) rfl) R0.1 (vs := []) (z := (0 : Int32)) ⟨by decide, by first | rfl | decide⟩ (by decide) (by first | rfl | decide) (g := (mkF m 9 #[rv ra, rv ca, iv 0, iv 0, .val .null, .unset] [(.ref ra)])) rfl (hb hby d2_9) (n := 0) (by first | decide | simp) (by decide) (by decide) (by decide)
  have sf2_ra := CHr.safe hC2 Ea.lt sf_ra
  have E2_ra := Ea.ext E2
  have F2_ra_value := Fv.ext E2
  have F2_ra_coder := Fc.ext E2
  have K2 : Keep h0 h2 [ra] := (Keep.refl h0 [ra]).ext E2
  have R2 := CHr.trans R0 hC2
  have ne_a2_ra := (hsf2 ra sf2_ra).1.symm
  have ne_b2_ra := (hsf2 ra sf2_ra).2.symm
  have tx2 : TX Z h2 a2 b2 kb2 (0 : Int32) [] (0 : Int32) := ⟨Ea2, Ca2, Va2, Ab2⟩
  obtain ⟨T3, X3, e3, st3⟩ := getF X2 hx hZ2 hown2 (host := "") (Or.inl (ww hw 29 rfl)) Via.refl e2 tx2.2.2.1 (g := (mkF m 11 #[rv ra, rv ca, iv 0, iv 0, .val .null, .unset] [(.ref a2), (.ref ra)])) rfl rfl (hb hby d2_11)
  obtain ⟨T4, h4, X4, e4, W4, st4⟩ := putF X3 hx hZ2 hown2 (host := "") (Or.inl (ww hw 29 rfl)) Via.refl e3 F2_ra_value E2_ra (Or.inr ⟨(ww hw 30 rfl), rfl, hnm⟩) (ww hw 3 rfl) (ty := (.array .byte)) (by decide) rfl rfl (g := (mkF m 14 #[rv ra, rv ca, iv 0, iv 0, .val .null, .unset] [(.ref b2), (.ref ra)])) rfl rfl (hb hby d2_14)
  have E4_ra := E2_ra.wr W4
  have F4_ra_value := F2_ra_value.same W4
  have F4_ra_coder := F2_ra_coder.other W4 (Or.inr (slot_ne (Or.inr (ww hw 28 rfl)) (Or.inr (ww hw 30 rfl)) (by decide) (t := .byte) (t' := (.array .byte)) (by decide) (by decide)))
  have tx2_4 := tx2.keep (Keep.of_wr W4) (ninS ne_a2_ra nin0) (ninS ne_b2_ra nin0)
  have K4 : Keep h0 h4 [ra] := K2.wr W4 (Or.inl (List.mem_of_getElem? (i := 0) rfl))
  have sf4_ra := Safe.wr W4 sf2_ra R2.1 sf2_ra
  have R4 := CHr.trans R2 (CHr.wr W4 sf2_ra R2.1)
  have N4 := Fr.snoc X4 N0 ga
  have hk4 : kk2 ≤ h4.size := by rw [W4.size]; exact hk2q
  obtain ⟨T5, X5, e5, st5⟩ := getF X4 hx hZ2 hown2 (host := "") (Or.inl (ww hw 27 rfl)) Via.refl e4 tx2_4.2.1 (g := (mkF m 20 #[rv ra, rv ca, iv 0, iv 0, .val .null, .unset] [(.ref a2), (.ref ra)])) rfl rfl (hb hby d2_20)
  obtain ⟨T6, h6, X6, e6, W6, st6⟩ := putFN X5 hx hZ2 hown2 (ww hw 27 rfl) Via.refl e5 F4_ra_coder E4_ra (Or.inr ⟨(ww hw 28 rfl), rfl, hnm⟩) (ww hw 3 rfl) (ty := .byte) (v' := (.int 0)) (by decide) rfl rfl (g := (mkF m 23 #[rv ra, rv ca, iv 0, iv 0, .val .null, .unset] [(.int 0), (.ref ra)])) rfl rfl (hb hby d2_23)
  have E6_ra := E4_ra.wr W6
  have F6_ra_value := F4_ra_value.other W6 (Or.inr (slot_ne (Or.inr (ww hw 30 rfl)) (Or.inr (ww hw 28 rfl)) (by decide) (t := (.array .byte)) (t' := .byte) (by decide) (by decide)))
  have F6_ra_coder := F4_ra_coder.same W6
  have tx2_6 := tx2_4.keep (Keep.of_wr W6) (ninS ne_a2_ra nin0) (ninS ne_b2_ra nin0)
  have K6 : Keep h0 h6 [ra] := K4.wr W6 (Or.inl (List.mem_of_getElem? (i := 0) rfl))
  have R6 := CHr.trans R4 (CHr.wr W6 sf4_ra R4.1)
  have N6 := Fr.snoc X6 N4 ga
  have hk6 : kk2 ≤ h6.size := by rw [W6.size]; exact hk4
  have pre7 : Pr p e below (T6.setTop (mkF m 26 #[rv ra, rv ca, iv 0, iv 0, .val .null, .unset] [])) (s₁.setTop (entryFrame m #[(.ref ra), (.ref ca), (.int 0), (.int 0), .null] 6)) := fun t k => pre0 t (by
    show Steps _ _ _ (s₁.setTop (mkF m 0 #[rv ra, rv ca, iv 0, iv 0, .val .null, .unset] [])) _
    refine XS.aloadN X0.here hx rfl (hb hby d2_0) rfl rfl ?_
    refine st1 _ ?_
    refine XS.iloadN X1.here hx rfl (hb hby d2_4) rfl ?_
    show Steps _ _ _ (T1.setTop (mkF m 5 #[rv ra, rv ca, iv 0, iv 0, .val .null, .unset] [(.int 0)])) _
    refine XS.ifNo X1.here hx rfl (hb hby d2_5) rfl ((if0 _ _).trans (teq (by decide : ((0 : Int32) = (0 : Int32)))).2) ?_
    refine XS.aloadN X1.here hx rfl (hb hby d2_8) rfl rfl ?_
    refine st2 _ ?_
    refine st3 _ ?_
    refine st4 _ ?_
    refine XS.aloadN X4.here hx rfl (hb hby d2_17) rfl rfl ?_
    refine ldcAgain (s := s) (vm0 := T2.vm) X4 hx hZ2 hown2 (ww hw 258 rfl) Li2 (g := (mkF m 18 #[rv ra, rv ca, iv 0, iv 0, .val .null, .unset] [(.ref ra)])) rfl (hb hby d2_18) _ ?_
    refine st5 _ ?_
    refine st6 _ ?_
    exact k)
  obtain ⟨fs, hr, hrun, hended, hEnd⟩ := X6.leaveW hS2 (by rw [e6]; exact hk6) (v := none) (fun _ => rfl) (hlocks := Bd.notSynchronized)
  refine ⟨_, _, pre7 _ ?_, hrun, hended, _, _, rfl, ?_, ?_, own_endW hEnd (by decide) (by decide)⟩
  · show Steps _ _ _ (T6.setTop (mkF m 26 #[rv ra, rv ca, iv 0, iv 0, .val .null, .unset] [])) _
    exact X6.returnOut hx Bd.returns (hb hby d2_26) hr
  · show (Qe Z ra) h0 n0 _ T6.heap _
    rw [e6]
    exact ⟨_, _, rfl, N6, K6, ⟨E6_ra, F6_ra_coder, F6_ra_value, tx2_6.2.2.2⟩⟩
  · show CHr Z consts_1 s.vm s.heap T6.vm T6.heap
    rw [hh, e6]
    exact CHr.trans R6 (CHv.at (s := s) (vm0 := T2.vm) X6 hZ2 hEL R6.1)
theorem rm_eB (l : Launch) (Z : State) (a0 : Array Value) (hw : ∀ d ∈ tables_1, d.before a0 Z = true) (ws : List Jvm.Cond) (ra : Addr) (ca : Addr) (h0 : Heap) (n0 : Nat) (Z0 : n0 ≤ h0.size) (Y0 : Old Z n0 h0) (zc : Int32) (fm : Value) (S : Sts Z Z.heap zc fm) (Ea : Exa Z h0 ra "java/lang/String") (Fv : Fld Z h0 ra "java/lang/String" "value" "[B" .null) (Fc : Fld Z h0 ra "java/lang/String" "coder" "B" (.int 0)) (ga : n0 ≤ ra) (kc : ClassId) (Ac : Arv Z h0 ca kc .char (0 : Int32) [] (Value.int 0))  :
    MetFree l mN48 (head1 (Jvm.Cond.code mN48 jdk_42_method_3_code 2 none :: ws) (Room.mk 2 2 4 29)) (fun a U => a = #[(.ref ra), (.ref ca)] ∧ Z.Warmed39 U.vm ∧ U.heap = h0 ∧ CHv Z consts_1 U.vm h0) (fun _ _ _ _ _ => True) (fun _ U o U' => ∃ v L, o = .returned v ∧ (Qe Z ra) h0 n0 v U'.heap L ∧ CHr Z consts_1 U.vm U.heap U'.vm U'.heap ∧ ReturnedEndW U o U' L (Room.mk 2 2 4 29).cells (Room.mk 2 2 4 29).slots) := by
  refine MetFree.of_bodySF (plainFor_of_name pn_13) hisR ?_
  intro p e s m args below meth c s₁ Bd hml0 hP hK
  obtain ⟨rfl, hZ, hh, hG⟩ := hP
  have hx := Bd.exec
  have hby := Bd.bytes
  have hml : c.maxLocals = 2 := hml0
  have hown : s.vm.findClass "java/lang/String" = some m.cls := findClass_of_methodNamed Bd.named
  have X0 : Stand p l e (Room.mk 2 2 4 29) s m #[(.ref ra), (.ref ca)] below meth c s₁ [] 0 0 := Stand.of_body Bd
  have e0 : s₁.heap = h0 := by rw [← hh, Bd.state]; rfl
  have N0 := Fr.nil n0
  have pre0 : Pr p e below (s₁.setTop (mkF m 0 #[rv ra, rv ca] [])) (s₁.setTop (entryFrame m #[(.ref ra), (.ref ca)] 2)) := fun t k => castTop (by first | (simp [entryFrame, mkF, argsToLocals, Value.category]; done) | rfl) k
  have hEL := own_EW hw
  have R0 : CHr Z consts_1 s.vm h0 s.vm h0 := CHr.refl hG
  obtain ⟨cl1, Ar1, -, Sz1, nz1, -, -⟩ := id Ac
  obtain ⟨_, vq2, ⟨T2, L2, k2, n2⟩, hm2, X2, hS2, hg2, ⟨Lc2, hQ2, l2, y2, z2, hC2⟩, st2⟩ := X0.specialBackS hx (y := mN47) rfl hown (mw hZ hw 8 rfl) (mw hZ hw 9 rfl) (mw hZ hw 11 rfl) (by decide) (backOfSH (W := 0) (s := s) (vm0 := s.vm) (rm_eA l Z a0 hw [] ra ca h0 n0 (own_old0 Y0) Y0 zc fm S Ea Fv Fc ga) hZ (ww hw 11 rfl) (ww hw 4 rfl) (by decide) (by decide) hEL R0.1) (g := (mkF m 6 #[rv ra, rv ca] [.null, (.int 0), (.int 0), (.ref ca), (.ref ra)])) rfl (by rw [hml]; rfl) (Steps.refl _) (a := ra) (argsL := [(.ref ca), (.int 0), (.int 0), .null]) (rest := []) (lenOf pd_30 rfl) rfl own_z (hb hby d1_6) (fun _ _ => ⟨rfl, e0, (by decide : 0 + 2 ≤ _), (by decide : 0 + 4 ≤ _)⟩)
  dsimp only [Pt.U, Pt.locs, Pt.cells, Pt.slots] at X2 hS2 hg2 l2 y2 z2 st2 hQ2 hC2
  rw [y2, z2] at X2
  have hZ2 : Z.Warmed39 (s.setVm T2.vm).vm := State.Warmed39.trans hZ hS2.1
  obtain ⟨u2, ku2, rfl, N2q, Kc2, Tc2⟩ := hQ2
  have N2 := own_fr l2 N0 N2q
  have R2 := CHr.trans R0 hC2
  have K2k : Keep h0 T2.heap [ra] := Keep.trans (Keep.refl h0 [ra]) Kc2 (allS (Or.inl (List.mem_of_getElem? (i := 0) rfl)) all0)
  have pre3 : Pr p e below (T2.setTop (mkF m 9 #[rv ra, rv ca] [])) (s₁.setTop (entryFrame m #[(.ref ra), (.ref ca)] 2)) := fun t k => pre0 t (by
    show Steps _ _ _ (s₁.setTop (mkF m 0 #[rv ra, rv ca] [])) _
    refine XS.aloadN X0.here hx rfl (hb hby d1_0) rfl rfl ?_
    refine XS.aloadN X0.here hx rfl (hb hby d1_1) rfl rfl ?_
    refine XT.iconstV X0.here hx rfl (0 : Int32) (hb hby d1_2) (by decide) ?_
    refine XS.aloadN X0.here hx rfl (hb hby d1_3) rfl rfl ?_
    refine X0.arraylength hx (by rw [e0]; exact Ar1.1) (State.isArrayOf_alike hZ.alike Ar1.2.1) (g := (mkF m 4 #[rv ra, rv ca] [(.ref ca), (.int 0), (.ref ca), (.ref ra)])) rfl rfl (hb hby d1_4) _ ?_
    rw [len_of Sz1 nz1]
    refine XS.aconstNull X0.here hx rfl (hb hby d1_5) ?_
    refine st2.trans ?_
    exact k)
  obtain ⟨fs, hr, hrun, hended, hEnd⟩ := X2.leaveW hS2 (Nat.le_refl T2.heap.size) (v := none) (fun _ => rfl) (hlocks := Bd.notSynchronized)
  refine ⟨_, _, pre3 _ ?_, hrun, hended, _, _, rfl, ?_, ?_, own_endW hEnd (by decide) (by decide)⟩
  · show Steps _ _ _ (T2.setTop (mkF m 9 #[rv ra, rv ca] [])) _
    exact X2.returnOut hx Bd.returns (hb hby d1_9) hr
  · show (Qe Z ra) h0 n0 _ T2.heap _
    exact ⟨_, _, rfl, N2, K2k, Tc2⟩
  · show CHr Z consts_1 s.vm s.heap T2.vm T2.heap
    rw [hh]
    exact CHr.trans R2 (CHv.at (s := s) (vm0 := T2.vm) X2 hZ2 hEL R2.1)
theorem own_infA (cs : List Int32) : ∀ (r k q : Nat) (A B : List Value), A.length = 2 * q → 2 * r ≤ B.length → k + r ≤ cs.length → own_inf cs r k q (A ++ B) = A ++ own_wb ((cs.drop k).take r) ++ B.drop (2 * r)
  | 0, k, q, A, B, _, _, _ => by simp [own_inf, own_wb]
  | r + 1, k, q, A, B, hA, hB, hk => by
    match B, hB with
    | [], h => exact absurd h (by simp)
    | [_], h => exact absurd h (by simp; omega)
    | b0 :: b1 :: B', hB =>
      have hk' : k < cs.length := by omega
      have e1 : (A ++ b0 :: b1 :: B').set (2 * q) (.int (StrChars.lo8 (cs.getD k 0))) = A ++ .int (StrChars.lo8 (cs.getD k 0)) :: b1 :: B' := by rw [List.set_append_right _ _ (by omega), hA, Nat.sub_self]; rfl
      have e2 : (A ++ Value.int (StrChars.lo8 (cs.getD k 0)) :: b1 :: B').set (2 * q + 1) (.int (StrChars.hi8 (cs.getD k 0))) = (A ++ [Value.int (StrChars.lo8 (cs.getD k 0)), Value.int (StrChars.hi8 (cs.getD k 0))]) ++ B' := by
        have e3 : 2 * q + 1 - A.length = 1 := by omega
        rw [List.set_append_right _ _ (by omega), e3]; simp [List.set]
      rw [own_inf, e1, e2, own_infA cs r (k + 1) (q + 1) _ B' (by simp [hA]; omega) (by simp at hB; omega) (by omega)]
      have e4 : (cs.drop k).take (r + 1) = cs.getD k 0 :: (cs.drop (k + 1)).take r := by rw [List.drop_eq_getElem_cons hk', List.take_succ_cons]; congr 1; simp [List.getD_eq_getElem?_getD, hk']
      have e5 : 2 * (r + 1) = 2 * r + 1 + 1 := by omega
      rw [e4, e5]
      simp [own_wb]
theorem own_e1 : (own_inf own_opt 7 0 0 (List.replicate 32 (Value.int 0))) = own_wb own_opt ++ List.replicate 18 (Value.int 0) := (own_infA own_opt 7 0 0 [] (List.replicate 32 (Value.int 0)) rfl (by decide) (by decide)).trans rfl
theorem own_lw0 : ((own_inf own_suf 15 0 (7 + 0) (((own_inf own_opt 7 0 0 (List.replicate 32 (Value.int 0))).take 14 ++ own_wb [] ++ (own_inf own_opt 7 0 0 (List.replicate 32 (Value.int 0))).drop (14 + (2 * 0))) ++ List.replicate (68 - 32) (Value.int 0))).take (2 * (22 + 0))) = own_wb (own_opt ++ [] ++ own_suf) := by
  rw [own_e1]
  exact (congrArg (List.take 44) (own_infA own_suf 15 0 7 (own_wb own_opt ++ own_wb []) (List.replicate 54 (Value.int 0)) rfl (by decide) (by decide))).trans rfl
theorem own_lw1 (xa : Int32) : ((own_inf own_suf 15 0 (7 + 1) (((own_inf own_opt 7 0 0 (List.replicate 32 (Value.int 0))).take 14 ++ own_wb [xa] ++ (own_inf own_opt 7 0 0 (List.replicate 32 (Value.int 0))).drop (14 + (2 * 1))) ++ List.replicate (68 - 32) (Value.int 0))).take (2 * (22 + 1))) = own_wb (own_opt ++ [xa] ++ own_suf) := by
  rw [own_e1]
  exact (congrArg (List.take 46) (own_infA own_suf 15 0 8 (own_wb own_opt ++ own_wb [xa]) (List.replicate 52 (Value.int 0)) rfl (by decide) (by decide))).trans rfl
theorem own_lw2 (xa : Int32) (xb : Int32) : ((own_inf own_suf 15 0 (7 + 2) (((own_inf own_opt 7 0 0 (List.replicate 32 (Value.int 0))).take 14 ++ own_wb [xa, xb] ++ (own_inf own_opt 7 0 0 (List.replicate 32 (Value.int 0))).drop (14 + (2 * 2))) ++ List.replicate (68 - 32) (Value.int 0))).take (2 * (22 + 2))) = own_wb (own_opt ++ [xa, xb] ++ own_suf) := by
  rw [own_e1]
  exact (congrArg (List.take 48) (own_infA own_suf 15 0 9 (own_wb own_opt ++ own_wb [xa, xb]) (List.replicate 50 (Value.int 0)) rfl (by decide) (by decide))).trans rfl
theorem own_lw3 (xa : Int32) (xb : Int32) (xc : Int32) : ((own_inf own_suf 15 0 (7 + 3) (((own_inf own_opt 7 0 0 (List.replicate 32 (Value.int 0))).take 14 ++ own_wb [xa, xb, xc] ++ (own_inf own_opt 7 0 0 (List.replicate 32 (Value.int 0))).drop (14 + (2 * 3))) ++ List.replicate (68 - 32) (Value.int 0))).take (2 * (22 + 3))) = own_wb (own_opt ++ [xa, xb, xc] ++ own_suf) := by
  rw [own_e1]
  exact (congrArg (List.take 50) (own_infA own_suf 15 0 10 (own_wb own_opt ++ own_wb [xa, xb, xc]) (List.replicate 48 (Value.int 0)) rfl (by decide) (by decide))).trans rfl
theorem rm_gt (l : Launch) (Z : State) (a0 : Array Value) (hw : ∀ d ∈ tables_1, d.before a0 Z = true) (ws : List Jvm.Cond) (sa : Addr) (h0 : Heap) (n0 : Nat) (Z0 : n0 ≤ h0.size) (Y0 : Old Z n0 h0) (zc : Int32) (fm : Value) (S : Sts Z Z.heap zc fm) (hl : l.stackTraces = true) (ua us : Addr) (SU : Sta Z Z.heap "java/lang/Throwable" "UNASSIGNED_STACK" "[Ljava/lang/StackTraceElement;" (.ref ua)) (SS : Sta Z Z.heap "java/lang/Throwable" "SUPPRESSED_SENTINEL" "Ljava/util/List;" (.ref us)) (cs : List Int32) (hcs : cs.length ≤ 3) (M : TM Z h0 sa cs) :
    MetFree l mN52 (head1 (Jvm.Cond.code mN52 prog_29_method_14_code 1 (some (.object "com/example/tidegauge/tidegauge/UsageException")) :: ws) (Room.mk 10 12 3028 145)) (fun a U => a = #[.ref sa] ∧ Z.Warmed39 U.vm ∧ U.heap = h0 ∧ CHv Z consts_1 U.vm h0) (fun _ _ bl s _ => s.vm.MethodsKnown ∧ s.vm.FramesKnown bl) (fun _ U o U' => ∃ v L, o = .returned v ∧ (Qz Z (own_opt ++ cs ++ own_suf)) h0 n0 v U'.heap L ∧ CHr Z consts_1 U.vm U.heap U'.vm U'.heap ∧ ReturnedEndW U o U' L (Room.mk 10 12 3028 145).cells (Room.mk 10 12 3028 145).slots) := by
  obtain ⟨t, k, N, vs, cd, X, hd, h32⟩ := M
  rcases hd with ⟨rfl, rfl, rfl, hall⟩ | ⟨rfl, rfl, rfl, hall⟩
  · match cs, hcs with
    | [], _ =>
      refine MetFree.mono (rm_gtL l Z a0 hw ws sa h0 n0 Z0 Y0 zc fm S t k (0 : Int32) _ X hl ua us SU SS (0 : Int32) (7 : Int32) (22 : Int32) (6 : Int32) 0 (by decide) rfl) (fun _ _ h => h) (fun _ _ _ _ _ h => h) (fun _ _ _ _ _ h => ?_)
      obtain ⟨v, L, rfl, ⟨a, m, tt, kk, e1, N, E, Ex, F, T⟩, C, W⟩ := h
      exact ⟨_, _, rfl, ⟨a, m, e1, N, E, Ex, F, ⟨_, _, _, _, _, T, Or.inl ⟨rfl, rfl, rfl, own_chl hall (by unfold own_ch; decide) (by unfold own_ch; decide)⟩, Nat.le_of_ble_eq_true rfl⟩⟩, C, W⟩
    | [xa], _ =>
      refine MetFree.mono (rm_gtL l Z a0 hw ws sa h0 n0 Z0 Y0 zc fm S t k (1 : Int32) _ X hl ua us SU SS (1 : Int32) (8 : Int32) (23 : Int32) (7 : Int32) 1 (by decide) rfl) (fun _ _ h => h) (fun _ _ _ _ _ h => h) (fun _ _ _ _ _ h => ?_)
      obtain ⟨v, L, rfl, ⟨a, m, tt, kk, e1, N, E, Ex, F, T⟩, C, W⟩ := h
      exact ⟨_, _, rfl, ⟨a, m, e1, N, E, Ex, F, ⟨_, _, _, _, _, T, Or.inl ⟨rfl, rfl, rfl, own_chl hall (by unfold own_ch; decide) (by unfold own_ch; decide)⟩, Nat.le_of_ble_eq_true rfl⟩⟩, C, W⟩
    | [xa, xb], _ =>
      refine MetFree.mono (rm_gtL l Z a0 hw ws sa h0 n0 Z0 Y0 zc fm S t k (2 : Int32) _ X hl ua us SU SS (2 : Int32) (9 : Int32) (24 : Int32) (8 : Int32) 2 (by decide) rfl) (fun _ _ h => h) (fun _ _ _ _ _ h => h) (fun _ _ _ _ _ h => ?_)
      obtain ⟨v, L, rfl, ⟨a, m, tt, kk, e1, N, E, Ex, F, T⟩, C, W⟩ := h
      exact ⟨_, _, rfl, ⟨a, m, e1, N, E, Ex, F, ⟨_, _, _, _, _, T, Or.inl ⟨rfl, rfl, rfl, own_chl hall (by unfold own_ch; decide) (by unfold own_ch; decide)⟩, Nat.le_of_ble_eq_true rfl⟩⟩, C, W⟩
    | [xa, xb, xc], _ =>
      refine MetFree.mono (rm_gtL l Z a0 hw ws sa h0 n0 Z0 Y0 zc fm S t k (3 : Int32) _ X hl ua us SU SS (3 : Int32) (10 : Int32) (25 : Int32) (9 : Int32) 3 (by decide) rfl) (fun _ _ h => h) (fun _ _ _ _ _ h => h) (fun _ _ _ _ _ h => ?_)
      obtain ⟨v, L, rfl, ⟨a, m, tt, kk, e1, N, E, Ex, F, T⟩, C, W⟩ := h
      exact ⟨_, _, rfl, ⟨a, m, e1, N, E, Ex, F, ⟨_, _, _, _, _, T, Or.inl ⟨rfl, rfl, rfl, own_chl hall (by unfold own_ch; decide) (by unfold own_ch; decide)⟩, Nat.le_of_ble_eq_true rfl⟩⟩, C, W⟩
    | _ :: _ :: _ :: _ :: _, q => exact absurd q (by simp)
  · match cs, hcs with
    | [], _ =>
      refine MetFree.mono (rm_gtW l Z a0 hw ws sa h0 n0 Z0 Y0 zc fm S t k (0 : Int32) _ X hl ua us SU SS (0 : Int32) (7 : Int32) (22 : Int32) (12 : Int32) (44 : Int32) 0 (by decide) rfl) (fun _ _ h => h) (fun _ _ _ _ _ h => h) (fun _ _ _ _ _ h => ?_)
      obtain ⟨v, L, rfl, ⟨a, m, tt, kk, e1, N, E, Ex, F, T⟩, C, W⟩ := h
      rw [own_lw0] at T
      exact ⟨_, _, rfl, ⟨a, m, e1, N, E, Ex, F, ⟨_, _, _, _, _, T, Or.inr ⟨rfl, rfl, rfl, own_chl hall (by unfold own_c16; decide) (by unfold own_c16; decide)⟩, Nat.le_of_ble_eq_true rfl⟩⟩, C, W⟩
    | [xa], _ =>
      refine MetFree.mono (rm_gtW l Z a0 hw ws sa h0 n0 Z0 Y0 zc fm S t k (2 : Int32) _ X hl ua us SU SS (1 : Int32) (8 : Int32) (23 : Int32) (14 : Int32) (46 : Int32) 1 (by decide) rfl) (fun _ _ h => h) (fun _ _ _ _ _ h => h) (fun _ _ _ _ _ h => ?_)
      obtain ⟨v, L, rfl, ⟨a, m, tt, kk, e1, N, E, Ex, F, T⟩, C, W⟩ := h
      rw [own_lw1 xa] at T
      exact ⟨_, _, rfl, ⟨a, m, e1, N, E, Ex, F, ⟨_, _, _, _, _, T, Or.inr ⟨rfl, rfl, rfl, own_chl hall (by unfold own_c16; decide) (by unfold own_c16; decide)⟩, Nat.le_of_ble_eq_true rfl⟩⟩, C, W⟩
    | [xa, xb], _ =>
      refine MetFree.mono (rm_gtW l Z a0 hw ws sa h0 n0 Z0 Y0 zc fm S t k (4 : Int32) _ X hl ua us SU SS (2 : Int32) (9 : Int32) (24 : Int32) (16 : Int32) (48 : Int32) 2 (by decide) rfl) (fun _ _ h => h) (fun _ _ _ _ _ h => h) (fun _ _ _ _ _ h => ?_)
      obtain ⟨v, L, rfl, ⟨a, m, tt, kk, e1, N, E, Ex, F, T⟩, C, W⟩ := h
      rw [own_lw2 xa xb] at T
      exact ⟨_, _, rfl, ⟨a, m, e1, N, E, Ex, F, ⟨_, _, _, _, _, T, Or.inr ⟨rfl, rfl, rfl, own_chl hall (by unfold own_c16; decide) (by unfold own_c16; decide)⟩, Nat.le_of_ble_eq_true rfl⟩⟩, C, W⟩
    | [xa, xb, xc], _ =>
      refine MetFree.mono (rm_gtW l Z a0 hw ws sa h0 n0 Z0 Y0 zc fm S t k (6 : Int32) _ X hl ua us SU SS (3 : Int32) (10 : Int32) (25 : Int32) (18 : Int32) (50 : Int32) 3 (by decide) rfl) (fun _ _ h => h) (fun _ _ _ _ _ h => h) (fun _ _ _ _ _ h => ?_)
      obtain ⟨v, L, rfl, ⟨a, m, tt, kk, e1, N, E, Ex, F, T⟩, C, W⟩ := h
      rw [own_lw3 xa xb xc] at T
      exact ⟨_, _, rfl, ⟨a, m, e1, N, E, Ex, F, ⟨_, _, _, _, _, T, Or.inr ⟨rfl, rfl, rfl, own_chl hall (by unfold own_c16; decide) (by unfold own_c16; decide)⟩, Nat.le_of_ble_eq_true rfl⟩⟩, C, W⟩
    | _ :: _ :: _ :: _ :: _, q => exact absurd q (by simp)
theorem own_t0 {p : Program} {l : Launch} {e : Env} {s : State} {m : MethodId} {args : Array Value} {below : List Frame} {meth : Method} {c : Code} {T0 START : State} {vm0 : Vm} {locs : List Loc} {k0 : Nat} (Z : State) (a0 : Array Value) (hw : ∀ d ∈ tables_1, d.before a0 Z = true) (pa pb pc pd xa xb xc : Int32) (ca ra : Addr) (h0 : Heap) (n0 : Nat) (Z0 : n0 ≤ h0.size) (Y0 : Old Z n0 h0) (zc : Int32) (fm : Value) (S : Sts Z Z.heap zc fm) (hl : l.stackTraces = true) (ua us : Addr) (SU : Sta Z Z.heap "java/lang/Throwable" "UNASSIGNED_STACK" "[Ljava/lang/StackTraceElement;" (.ref ua)) (SS : Sta Z Z.heap "java/lang/Throwable" "SUPPRESSED_SENTINEL" "Ljava/util/List;" (.ref us)) 
    (X0 : Stand p l e room_1 (s.setVm vm0) m args below meth c T0 locs 8 50) (hx : p.tables.exec = Jvm.exec) (hby : c.code = code) (hml : c.maxLocals = 12) (hret : meth.sig.returnType = some .boolean) (hlk : meth.locks = false) (hZ : Z.Warmed39 (s.setVm vm0).vm) (hown : (s.setVm vm0).vm.findClass "com/example/tidegauge/tidegauge/OptionsGivenTwicePinLaw" = some m.cls) (hS : s.Since vm0 k0) (hk0 : k0 ≤ h0.size) (hK : s.vm.MethodsKnown ∧ s.vm.FramesKnown below) (e0 : T0.heap = h0) (N0 : Fr n0 locs) (R0 : CHr Z consts_1 s.vm s.heap vm0 h0) (M : TM Z h0 ra [])
    (pre0 : ∀ t, Steps p.tables e below (T0.setTop (mkF m 111 #[iv pa, iv pb, iv pc, iv pd, iv xa, iv xb, iv xc, iv 0, rv ca, .unset, .unset, .unset] [(.ref ra)])) t → Steps p.tables e below START t) :
    ∃ s₂ o, Steps p.tables e below START s₂ ∧ s₂.status = .running ∧ Ended s₂ below o ∧ ∃ v L, o = .returned v ∧ (v = some (.int 1) ∧ Fr n0 L) ∧ CHr Z consts_1 s.vm s.heap s₂.vm s₂.heap ∧ ReturnedEndW s o s₂ L 48 11136 := by
  have hEL := own_EW hw
  obtain ⟨_, vq1, ⟨T1, L1, k1, n1⟩, hm1, X1, hS1, hg1, ⟨Lc1, hQ1, l1, y1, z1, hC1⟩, st1⟩ := Jvm.RoadKit.callSS X0 hx (y := mN52) hown (mw hZ hw 31 rfl) (mw hZ hw 32 rfl) (mw hZ hw 33 rfl) (mw hZ hw 34 rfl) (by decide) (own_backKH (W := 0) (s := s) (vm0 := vm0) (rm_gt l Z a0 hw [] ra h0 n0 (own_old0 Y0) Y0 zc fm S hl ua us SU SS [] (show 0 ≤ 3 from by decide) M) hZ (ww hw 34 rfl) (ww hw 33 rfl) (by decide) (by decide) hEL R0.1 (Vm.MethodsKnown.alikeC hS.1.alike hK.1) (Vm.FramesKnown.alikeC hS.1.alike hK.2)) (g := (mkF m 115 #[iv pa, iv pb, iv pc, iv pd, iv xa, iv xb, iv xc, iv 0, rv ca, rv ra, .unset, .unset] [(.ref ra)])) rfl (by rw [hml]; rfl) (argsL := [(.ref ra)]) (rest := []) (lenOf pd_34 rfl) rfl own_z (hb hby at_115) (fun _ _ => ⟨rfl, e0, (by decide : 8 + 12 ≤ _), (by decide : 50 + 3028 ≤ _)⟩)
  dsimp only [Pt.U, Pt.locs, Pt.cells, Pt.slots] at X1 hS1 hg1 l1 y1 z1 st1 hQ1 hC1
  rw [y1, z1] at X1
  obtain ⟨X1r, hS1r, hZ1, hown1⟩ := rebS hS (n1 := T0.heap.size) (by rw [e0]; exact hk0) X1 hS1 hg1 hZ hown
  obtain ⟨ea1, ma1, rfl, N1q, E1, Xe1, Fm1, Mm1⟩ := hQ1
  have N1 := own_fr l1 N0 N1q
  have R1 := CHr.trans R0 hC1
  have Y1 := Old.ext Y0 E1
  obtain ⟨cq2, kq2, q2a, q2b, q2c⟩ := isOf hZ1 rfl Xe1
  obtain ⟨_, _, ⟨T2, L2, k2, n2⟩, -, X2, ⟨Lc2, hQ2, l2, y2, z2⟩, st2⟩ := X1r.virtualBackUp hx (owner := "java/lang/Throwable") (x := mN56) (y := mN55) hown1 (mw hZ1 hw 220 rfl) (mw hZ1 hw 221 rfl) (mw hZ1 hw 222 rfl) (by decide) (mw hZ1 hw 224 rfl) (mw hZ1 hw 223 rfl) (backOf (W := 0) (rm_gm l Z a0 hw [] ea1 T1.heap n0 (own_old0 Y1) Y1 zc fm S ma1 Fm1) hZ1 (ww hw 225 rfl) (ww hw 181 rfl) (by decide) (by decide)) q2a q2c (g := (mkF m 129 #[iv pa, iv pb, iv pc, iv pd, iv xa, iv xb, iv xc, iv 0, rv ca, rv ra, rv ea1, .unset] [(.ref ea1)])) rfl (by rw [hml]; rfl) (Steps.refl _) (argsL := []) (rest := []) (lenOf pd_32 rfl) rfl own_z (hb hby at_129) (fun _ _ => ⟨rfl, rfl, (by decide : 20 + 0 ≤ _), (by decide : 3078 + 0 ≤ _)⟩)
  dsimp only [Pt.U, Pt.locs, Pt.cells, Pt.slots] at X2 l2 y2 z2 st2 hQ2
  rw [y2, z2] at X2
  obtain ⟨rfl, N2q, e2⟩ := hQ2
  have N2 := own_fr l2 N1 N2q
  obtain ⟨cq3, kq3, q3a, q3b, q3c⟩ := isOf hZ1 e2 Mm1.exa
  obtain ⟨_, _, ⟨T3, L3, k3, n3⟩, -, X3, ⟨Lc3, hQ3, l3, y3, z3⟩, st3⟩ := X2.virtualBack hx (y := mN1) (z := mN1) hown1 (mw hZ1 hw 226 rfl) (mw hZ1 hw 70 rfl) (notFace_of_selects (args := #[]) (mw hZ1 hw 72 rfl)) (mw hZ1 hw 72 rfl) (mw hZ1 hw 71 rfl) (by decide) (backOf (W := 0) (rm_lenM l Z a0 hw [] ma1 T1.heap n0 (own_old0 Y1) Y1 zc fm S (own_opt ++ [] ++ own_suf) Mm1 (22 : Int32) rfl) hZ1 (ww hw 73 rfl) (ww hw 4 rfl) (by decide) (by decide)) q3a q3c (g := (mkF m 143 #[iv pa, iv pb, iv pc, iv pd, iv xa, iv xb, iv xc, iv 0, rv ca, rv ra, rv ea1, rv ma1] [(.ref ma1)])) rfl (by rw [hml]; rfl) (Steps.refl _) (argsL := []) (rest := []) (lenOf pd_1 rfl) rfl own_z (hb hby at_143) (fun _ _ => ⟨rfl, e2, (by decide : 20 + 0 ≤ _), (by decide : 3078 + 0 ≤ _)⟩)
  dsimp only [Pt.U, Pt.locs, Pt.cells, Pt.slots] at X3 l3 y3 z3 st3 hQ3
  rw [y3, z3] at X3
  obtain ⟨rfl, N3q, e3⟩ := hQ3
  have N3 := own_fr l3 N2 N3q
  have pre4 : Pr p e below (T3.setTop (mkF m 146 #[iv pa, iv pb, iv pc, iv pd, iv xa, iv xb, iv xc, iv 0, rv ca, rv ra, rv ea1, rv ma1] [(.int 22)])) START := fun t k => pre0 t (by
    show Steps _ _ _ (T0.setTop (mkF m 111 #[iv pa, iv pb, iv pc, iv pd, iv xa, iv xb, iv xc, iv 0, rv ca, .unset, .unset, .unset] [(.ref ra)])) _
    refine XS.astore X0.here hx rfl (hb hby at_111) rfl rfl (l' := #[iv pa, iv pb, iv pc, iv pd, iv xa, iv xb, iv xc, iv 0, rv ca, rv ra, .unset, .unset]) rfl ?_
    refine XS.aload X0.here hx rfl (hb hby at_113) rfl rfl ?_
    refine st1.trans ?_
    refine XS.astore X1r.here hx rfl (hb hby at_118) rfl rfl (l' := #[iv pa, iv pb, iv pc, iv pd, iv xa, iv xb, iv xc, iv 0, rv ca, rv ra, rv ea1, .unset]) rfl ?_
    refine XS.aload X1r.here hx rfl (hb hby at_120) rfl rfl ?_
    refine XS.ifnonnullYes X1r.here hx rfl (pc0 := 122) (pc' := 127) rfl (hb hby at_122) rfl (by decide) (by decide) ?_
    refine XS.aload X1r.here hx rfl (hb hby at_127) rfl rfl ?_
    refine st2.trans ?_
    refine XS.astore X2.here hx rfl (hb hby at_132) rfl rfl (l' := #[iv pa, iv pb, iv pc, iv pd, iv xa, iv xb, iv xc, iv 0, rv ca, rv ra, rv ea1, rv ma1]) rfl ?_
    refine XS.aload X2.here hx rfl (hb hby at_134) rfl rfl ?_
    refine XS.ifnonnullYes X2.here hx rfl (pc0 := 136) (pc' := 141) rfl (hb hby at_136) rfl (by decide) (by decide) ?_
    refine XS.aload X2.here hx rfl (hb hby at_141) rfl rfl ?_
    refine st3.trans ?_
    exact k)
  obtain ⟨_, vq5, ⟨T5, L5, k5, n5⟩, hm5, X5, hS5, hg5, ⟨Lc5, hQ5, l5, y5, z5, hC5⟩, st5⟩ := Jvm.RoadKit.callSS X3 hx (y := mN53) hown1 (mw hZ1 hw 227 rfl) (mw hZ1 hw 228 rfl) (mw hZ1 hw 229 rfl) (mw hZ1 hw 230 rfl) (by decide) (backOfSH (W := 0) (s := s) (vm0 := T1.vm) (rm_px l Z a0 hw [] ma1 T1.heap n0 (own_old0 Y1) Y1 zc fm S (own_opt ++ [] ++ own_suf) Mm1 (show 7 ≤ 22 from by decide) rfl rfl rfl rfl rfl rfl rfl) hZ1 (ww hw 230 rfl) (ww hw 229 rfl) (by decide) (by decide) hEL R1.1) (g := (mkF m 158 #[iv pa, iv pb, iv pc, iv pd, iv xa, iv xb, iv xc, iv 0, rv ca, rv ra, rv ea1, rv ma1] [(.ref ma1)])) rfl (by rw [hml]; rfl) (argsL := [(.ref ma1)]) (rest := []) (lenOf pd_35 rfl) rfl own_z (hb hby at_158) (fun _ _ => ⟨rfl, e3, (by decide : 20 + 2 ≤ _), (by decide : 3078 + 32 ≤ _)⟩)
  dsimp only [Pt.U, Pt.locs, Pt.cells, Pt.slots] at X5 hS5 hg5 l5 y5 z5 st5 hQ5 hC5
  rw [y5, z5] at X5
  obtain ⟨X5r, hS5r, hZ5, hown5⟩ := rebS hS1r (n1 := T3.heap.size) (by rw [e3]; exact (Nat.le_refl T1.heap.size)) X5 hS5 hg5 hZ1 hown1
  obtain ⟨rfl, N5q, E5⟩ := hQ5
  have N5 := own_fr l5 N3 N5q
  have R5 := CHr.trans R1 hC5
  have Mm_5 := Mm1.ext E5
  have Y5 := Old.ext Y1 E5
  have pre6 : Pr p e below (T5.setTop (mkF m 189 #[iv pa, iv pb, iv pc, iv pd, iv xa, iv xb, iv xc, iv 0, rv ca, rv ra, rv ea1, rv ma1] [(.int 2), (.int 0)])) START := fun t k => pre4 t (by
    show Steps _ _ _ (T3.setTop (mkF m 146 #[iv pa, iv pb, iv pc, iv pd, iv xa, iv xb, iv xc, iv 0, rv ca, rv ra, rv ea1, rv ma1] [(.int 22)])) _
    refine XT.bipushV X3.here hx rfl (22 : Int32) (hb hby at_146) (by decide) ?_
    refine XS.iload X3.here hx rfl (hb hby at_148) rfl ?_
    refine XS.iadd X3.here hx rfl (hb hby at_150) rfl ?_
    show Steps _ _ _ (T3.setTop (mkF m 151 #[iv pa, iv pb, iv pc, iv pd, iv xa, iv xb, iv xc, iv 0, rv ca, rv ra, rv ea1, rv ma1] [(.int ((22 : Int32) + (0 : Int32))), (.int 22)])) _
    refine castTop (g' := (mkF m 151 #[iv pa, iv pb, iv pc, iv pd, iv xa, iv xb, iv xc, iv 0, rv ca, rv ra, rv ea1, rv ma1] [(.int 22), (.int 22)])) (by rw [(by decide : ((22 : Int32) + (0 : Int32)) = (22 : Int32))]) ?_
    show Steps _ _ _ (T3.setTop (mkF m 151 #[iv pa, iv pb, iv pc, iv pd, iv xa, iv xb, iv xc, iv 0, rv ca, rv ra, rv ea1, rv ma1] [(.int 22), (.int 22)])) _
    refine XS.icmpYes X3.here hx rfl (pc0 := 151) (pc' := 156) rfl (hb hby at_151) rfl (teq (by decide : ((22 : Int32) = (22 : Int32)))).1 (by decide) (by decide) ?_
    refine XS.aload X3.here hx rfl (hb hby at_156) rfl rfl ?_
    refine st5.trans ?_
    show Steps _ _ _ (T5.setTop (mkF m 161 #[iv pa, iv pb, iv pc, iv pd, iv xa, iv xb, iv xc, iv 0, rv ca, rv ra, rv ea1, rv ma1] [(.int 1)])) _
    refine XS.ifYes X5r.here hx rfl (pc0 := 161) (pc' := 166) rfl (hb hby at_161) rfl ((if0 _ _).trans (feq (by decide : ¬ ((1 : Int32) = (0 : Int32)))).2) (by decide) (by decide) ?_
    refine XS.iload X5r.here hx rfl (hb hby at_166) rfl ?_
    refine XT.iconstV X5r.here hx rfl (1 : Int32) (hb hby at_168) (by decide) ?_
    show Steps _ _ _ (T5.setTop (mkF m 169 #[iv pa, iv pb, iv pc, iv pd, iv xa, iv xb, iv xc, iv 0, rv ca, rv ra, rv ea1, rv ma1] [(.int 1), (.int 0)])) _
    refine XS.icmpYes X5r.here hx rfl (pc0 := 169) (pc' := 186) rfl (hb hby at_169) rfl (tlt (by decide : ((0 : Int32) < (1 : Int32)))).1 (by decide) (by decide) ?_
    refine XS.iload X5r.here hx rfl (hb hby at_186) rfl ?_
    refine XT.iconstV X5r.here hx rfl (2 : Int32) (hb hby at_188) (by decide) ?_
    exact k)
  obtain ⟨_, vq7, ⟨T7, L7, k7, n7⟩, hm7, X7, hS7, hg7, ⟨Lc7, hQ7, l7, y7, z7, hC7⟩, st7⟩ := Jvm.RoadKit.callSS X5r hx (y := mN54) hown5 (mw hZ5 hw 254 rfl) (mw hZ5 hw 255 rfl) (mw hZ5 hw 229 rfl) (mw hZ5 hw 256 rfl) (by decide) (backOfSH (W := 0) (s := s) (vm0 := T5.vm) (rm_sx l Z a0 hw [] ma1 (7 : Int32) T5.heap n0 (own_old0 Y5) Y5 zc fm S (own_opt ++ [] ++ own_suf) Mm_5 7 (by decide) rfl rfl rfl rfl rfl rfl rfl rfl rfl rfl rfl rfl rfl rfl rfl rfl rfl) hZ5 (ww hw 256 rfl) (ww hw 229 rfl) (by decide) (by decide) hEL R5.1) (g := (mkF m 233 #[iv pa, iv pb, iv pc, iv pd, iv xa, iv xb, iv xc, iv 0, rv ca, rv ra, rv ea1, rv ma1] [(.int 7), (.ref ma1)])) rfl (by rw [hml]; rfl) (argsL := [(.ref ma1), (.int 7)]) (rest := []) (lenOf pd_36 rfl) rfl own_z (hb hby at_233) (fun _ _ => ⟨rfl, rfl, (by decide : 22 + 2 ≤ _), (by decide : 3110 + 64 ≤ _)⟩)
  dsimp only [Pt.U, Pt.locs, Pt.cells, Pt.slots] at X7 hS7 hg7 l7 y7 z7 st7 hQ7 hC7
  rw [y7, z7] at X7
  obtain ⟨X7r, hS7r, hZ7, hown7⟩ := rebS hS5r (n1 := T5.heap.size) (Nat.le_refl T5.heap.size) X7 hS7 hg7 hZ5 hown5
  obtain ⟨rfl, N7q, E7⟩ := hQ7
  have N7 := own_fr l7 N5 N7q
  have R7 := CHr.trans R5 hC7
  have pre8 : Pr p e below (T7.setTop (mkF m 236 #[iv pa, iv pb, iv pc, iv pd, iv xa, iv xb, iv xc, iv 0, rv ca, rv ra, rv ea1, rv ma1] [(.int 1)])) START := fun t k => pre6 t (by
    show Steps _ _ _ (T5.setTop (mkF m 189 #[iv pa, iv pb, iv pc, iv pd, iv xa, iv xb, iv xc, iv 0, rv ca, rv ra, rv ea1, rv ma1] [(.int 2), (.int 0)])) _
    refine XS.icmpYes X5r.here hx rfl (pc0 := 189) (pc' := 206) rfl (hb hby at_189) rfl (tlt (by decide : ((0 : Int32) < (2 : Int32)))).1 (by decide) (by decide) ?_
    refine XS.iload X5r.here hx rfl (hb hby at_206) rfl ?_
    refine XT.iconstV X5r.here hx rfl (3 : Int32) (hb hby at_208) (by decide) ?_
    show Steps _ _ _ (T5.setTop (mkF m 209 #[iv pa, iv pb, iv pc, iv pd, iv xa, iv xb, iv xc, iv 0, rv ca, rv ra, rv ea1, rv ma1] [(.int 3), (.int 0)])) _
    refine XS.icmpYes X5r.here hx rfl (pc0 := 209) (pc' := 226) rfl (hb hby at_209) rfl (tlt (by decide : ((0 : Int32) < (3 : Int32)))).1 (by decide) (by decide) ?_
    refine XS.aload X5r.here hx rfl (hb hby at_226) rfl rfl ?_
    refine XT.bipushV X5r.here hx rfl (7 : Int32) (hb hby at_228) (by decide) ?_
    refine XS.iload X5r.here hx rfl (hb hby at_230) rfl ?_
    refine XS.iadd X5r.here hx rfl (hb hby at_232) rfl ?_
    show Steps _ _ _ (T5.setTop (mkF m 233 #[iv pa, iv pb, iv pc, iv pd, iv xa, iv xb, iv xc, iv 0, rv ca, rv ra, rv ea1, rv ma1] [(.int ((7 : Int32) + (0 : Int32))), (.ref ma1)])) _
    refine castTop (g' := (mkF m 233 #[iv pa, iv pb, iv pc, iv pd, iv xa, iv xb, iv xc, iv 0, rv ca, rv ra, rv ea1, rv ma1] [(.int 7), (.ref ma1)])) (by rw [(by decide : ((7 : Int32) + (0 : Int32)) = (7 : Int32))]) ?_
    refine st7.trans ?_
    exact k)
  obtain ⟨fs, hr, hrun, hended, hEnd⟩ := X7r.leaveW hS7r (Nat.le_refl T7.heap.size) (v := some (.int 1)) (fun h => by rw [hret] at h; cases h) (hlocks := hlk)
  refine ⟨_, _, pre8 _ ?_, hrun, hended, _, _, rfl, ⟨rfl, N7⟩, ?_, own_endW hEnd (by decide) (by decide)⟩
  · show Steps _ _ _ (T7.setTop (mkF m 236 #[iv pa, iv pb, iv pc, iv pd, iv xa, iv xb, iv xc, iv 0, rv ca, rv ra, rv ea1, rv ma1] [(.int 1)])) _
    exact retOut X7r hx hret rfl (Or.inl ⟨rfl, by simp, _, rfl⟩) (hb hby at_236) hr
  · show CHr Z consts_1 s.vm s.heap T7.vm T7.heap
    exact CHr.trans R7 (CHv.at (s := s) (vm0 := T7.vm) X7r hZ7 hEL R7.1)
theorem own_t1 {p : Program} {l : Launch} {e : Env} {s : State} {m : MethodId} {args : Array Value} {below : List Frame} {meth : Method} {c : Code} {T0 START : State} {vm0 : Vm} {locs : List Loc} {k0 : Nat} (Z : State) (a0 : Array Value) (hw : ∀ d ∈ tables_1, d.before a0 Z = true) (pa pb pc pd xa xb xc : Int32) (ca ra : Addr) (h0 : Heap) (n0 : Nat) (Z0 : n0 ≤ h0.size) (Y0 : Old Z n0 h0) (zc : Int32) (fm : Value) (S : Sts Z Z.heap zc fm) (hl : l.stackTraces = true) (ua us : Addr) (SU : Sta Z Z.heap "java/lang/Throwable" "UNASSIGNED_STACK" "[Ljava/lang/StackTraceElement;" (.ref ua)) (SS : Sta Z Z.heap "java/lang/Throwable" "SUPPRESSED_SENTINEL" "Ljava/util/List;" (.ref us)) 
    (X0 : Stand p l e room_1 (s.setVm vm0) m args below meth c T0 locs 8 50) (hx : p.tables.exec = Jvm.exec) (hby : c.code = code) (hml : c.maxLocals = 12) (hret : meth.sig.returnType = some .boolean) (hlk : meth.locks = false) (hZ : Z.Warmed39 (s.setVm vm0).vm) (hown : (s.setVm vm0).vm.findClass "com/example/tidegauge/tidegauge/OptionsGivenTwicePinLaw" = some m.cls) (hS : s.Since vm0 k0) (hk0 : k0 ≤ h0.size) (hK : s.vm.MethodsKnown ∧ s.vm.FramesKnown below) (e0 : T0.heap = h0) (N0 : Fr n0 locs) (R0 : CHr Z consts_1 s.vm s.heap vm0 h0) (M : TM Z h0 ra [xa])
    (pre0 : ∀ t, Steps p.tables e below (T0.setTop (mkF m 111 #[iv pa, iv pb, iv pc, iv pd, iv xa, iv xb, iv xc, iv 1, rv ca, .unset, .unset, .unset] [(.ref ra)])) t → Steps p.tables e below START t) :
    ∃ s₂ o, Steps p.tables e below START s₂ ∧ s₂.status = .running ∧ Ended s₂ below o ∧ ∃ v L, o = .returned v ∧ (v = some (.int 1) ∧ Fr n0 L) ∧ CHr Z consts_1 s.vm s.heap s₂.vm s₂.heap ∧ ReturnedEndW s o s₂ L 48 11136 := by
  have hEL := own_EW hw
  obtain ⟨_, vq1, ⟨T1, L1, k1, n1⟩, hm1, X1, hS1, hg1, ⟨Lc1, hQ1, l1, y1, z1, hC1⟩, st1⟩ := Jvm.RoadKit.callSS X0 hx (y := mN52) hown (mw hZ hw 31 rfl) (mw hZ hw 32 rfl) (mw hZ hw 33 rfl) (mw hZ hw 34 rfl) (by decide) (own_backKH (W := 0) (s := s) (vm0 := vm0) (rm_gt l Z a0 hw [] ra h0 n0 (own_old0 Y0) Y0 zc fm S hl ua us SU SS [xa] (show 1 ≤ 3 from by decide) M) hZ (ww hw 34 rfl) (ww hw 33 rfl) (by decide) (by decide) hEL R0.1 (Vm.MethodsKnown.alikeC hS.1.alike hK.1) (Vm.FramesKnown.alikeC hS.1.alike hK.2)) (g := (mkF m 115 #[iv pa, iv pb, iv pc, iv pd, iv xa, iv xb, iv xc, iv 1, rv ca, rv ra, .unset, .unset] [(.ref ra)])) rfl (by rw [hml]; rfl) (argsL := [(.ref ra)]) (rest := []) (lenOf pd_34 rfl) rfl own_z (hb hby at_115) (fun _ _ => ⟨rfl, e0, (by decide : 8 + 12 ≤ _), (by decide : 50 + 3028 ≤ _)⟩)
  dsimp only [Pt.U, Pt.locs, Pt.cells, Pt.slots] at X1 hS1 hg1 l1 y1 z1 st1 hQ1 hC1
  rw [y1, z1] at X1
  obtain ⟨X1r, hS1r, hZ1, hown1⟩ := rebS hS (n1 := T0.heap.size) (by rw [e0]; exact hk0) X1 hS1 hg1 hZ hown
  obtain ⟨ea1, ma1, rfl, N1q, E1, Xe1, Fm1, Mm1⟩ := hQ1
  have N1 := own_fr l1 N0 N1q
  have R1 := CHr.trans R0 hC1
  have Y1 := Old.ext Y0 E1
  obtain ⟨cq2, kq2, q2a, q2b, q2c⟩ := isOf hZ1 rfl Xe1
  obtain ⟨_, _, ⟨T2, L2, k2, n2⟩, -, X2, ⟨Lc2, hQ2, l2, y2, z2⟩, st2⟩ := X1r.virtualBackUp hx (owner := "java/lang/Throwable") (x := mN56) (y := mN55) hown1 (mw hZ1 hw 220 rfl) (mw hZ1 hw 221 rfl) (mw hZ1 hw 222 rfl) (by decide) (mw hZ1 hw 224 rfl) (mw hZ1 hw 223 rfl) (backOf (W := 0) (rm_gm l Z a0 hw [] ea1 T1.heap n0 (own_old0 Y1) Y1 zc fm S ma1 Fm1) hZ1 (ww hw 225 rfl) (ww hw 181 rfl) (by decide) (by decide)) q2a q2c (g := (mkF m 129 #[iv pa, iv pb, iv pc, iv pd, iv xa, iv xb, iv xc, iv 1, rv ca, rv ra, rv ea1, .unset] [(.ref ea1)])) rfl (by rw [hml]; rfl) (Steps.refl _) (argsL := []) (rest := []) (lenOf pd_32 rfl) rfl own_z (hb hby at_129) (fun _ _ => ⟨rfl, rfl, (by decide : 20 + 0 ≤ _), (by decide : 3078 + 0 ≤ _)⟩)
  dsimp only [Pt.U, Pt.locs, Pt.cells, Pt.slots] at X2 l2 y2 z2 st2 hQ2
  rw [y2, z2] at X2
  obtain ⟨rfl, N2q, e2⟩ := hQ2
  have N2 := own_fr l2 N1 N2q
  obtain ⟨cq3, kq3, q3a, q3b, q3c⟩ := isOf hZ1 e2 Mm1.exa
  obtain ⟨_, _, ⟨T3, L3, k3, n3⟩, -, X3, ⟨Lc3, hQ3, l3, y3, z3⟩, st3⟩ := X2.virtualBack hx (y := mN1) (z := mN1) hown1 (mw hZ1 hw 226 rfl) (mw hZ1 hw 70 rfl) (notFace_of_selects (args := #[]) (mw hZ1 hw 72 rfl)) (mw hZ1 hw 72 rfl) (mw hZ1 hw 71 rfl) (by decide) (backOf (W := 0) (rm_lenM l Z a0 hw [] ma1 T1.heap n0 (own_old0 Y1) Y1 zc fm S (own_opt ++ [xa] ++ own_suf) Mm1 (23 : Int32) rfl) hZ1 (ww hw 73 rfl) (ww hw 4 rfl) (by decide) (by decide)) q3a q3c (g := (mkF m 143 #[iv pa, iv pb, iv pc, iv pd, iv xa, iv xb, iv xc, iv 1, rv ca, rv ra, rv ea1, rv ma1] [(.ref ma1)])) rfl (by rw [hml]; rfl) (Steps.refl _) (argsL := []) (rest := []) (lenOf pd_1 rfl) rfl own_z (hb hby at_143) (fun _ _ => ⟨rfl, e2, (by decide : 20 + 0 ≤ _), (by decide : 3078 + 0 ≤ _)⟩)
  dsimp only [Pt.U, Pt.locs, Pt.cells, Pt.slots] at X3 l3 y3 z3 st3 hQ3
  rw [y3, z3] at X3
  obtain ⟨rfl, N3q, e3⟩ := hQ3
  have N3 := own_fr l3 N2 N3q
  have pre4 : Pr p e below (T3.setTop (mkF m 146 #[iv pa, iv pb, iv pc, iv pd, iv xa, iv xb, iv xc, iv 1, rv ca, rv ra, rv ea1, rv ma1] [(.int 23)])) START := fun t k => pre0 t (by
    show Steps _ _ _ (T0.setTop (mkF m 111 #[iv pa, iv pb, iv pc, iv pd, iv xa, iv xb, iv xc, iv 1, rv ca, .unset, .unset, .unset] [(.ref ra)])) _
    refine XS.astore X0.here hx rfl (hb hby at_111) rfl rfl (l' := #[iv pa, iv pb, iv pc, iv pd, iv xa, iv xb, iv xc, iv 1, rv ca, rv ra, .unset, .unset]) rfl ?_
    refine XS.aload X0.here hx rfl (hb hby at_113) rfl rfl ?_
    refine st1.trans ?_
    refine XS.astore X1r.here hx rfl (hb hby at_118) rfl rfl (l' := #[iv pa, iv pb, iv pc, iv pd, iv xa, iv xb, iv xc, iv 1, rv ca, rv ra, rv ea1, .unset]) rfl ?_
    refine XS.aload X1r.here hx rfl (hb hby at_120) rfl rfl ?_
    refine XS.ifnonnullYes X1r.here hx rfl (pc0 := 122) (pc' := 127) rfl (hb hby at_122) rfl (by decide) (by decide) ?_
    refine XS.aload X1r.here hx rfl (hb hby at_127) rfl rfl ?_
    refine st2.trans ?_
    refine XS.astore X2.here hx rfl (hb hby at_132) rfl rfl (l' := #[iv pa, iv pb, iv pc, iv pd, iv xa, iv xb, iv xc, iv 1, rv ca, rv ra, rv ea1, rv ma1]) rfl ?_
    refine XS.aload X2.here hx rfl (hb hby at_134) rfl rfl ?_
    refine XS.ifnonnullYes X2.here hx rfl (pc0 := 136) (pc' := 141) rfl (hb hby at_136) rfl (by decide) (by decide) ?_
    refine XS.aload X2.here hx rfl (hb hby at_141) rfl rfl ?_
    refine st3.trans ?_
    exact k)
  obtain ⟨_, vq5, ⟨T5, L5, k5, n5⟩, hm5, X5, hS5, hg5, ⟨Lc5, hQ5, l5, y5, z5, hC5⟩, st5⟩ := Jvm.RoadKit.callSS X3 hx (y := mN53) hown1 (mw hZ1 hw 227 rfl) (mw hZ1 hw 228 rfl) (mw hZ1 hw 229 rfl) (mw hZ1 hw 230 rfl) (by decide) (backOfSH (W := 0) (s := s) (vm0 := T1.vm) (rm_px l Z a0 hw [] ma1 T1.heap n0 (own_old0 Y1) Y1 zc fm S (own_opt ++ [xa] ++ own_suf) Mm1 (show 7 ≤ 23 from by decide) rfl rfl rfl rfl rfl rfl rfl) hZ1 (ww hw 230 rfl) (ww hw 229 rfl) (by decide) (by decide) hEL R1.1) (g := (mkF m 158 #[iv pa, iv pb, iv pc, iv pd, iv xa, iv xb, iv xc, iv 1, rv ca, rv ra, rv ea1, rv ma1] [(.ref ma1)])) rfl (by rw [hml]; rfl) (argsL := [(.ref ma1)]) (rest := []) (lenOf pd_35 rfl) rfl own_z (hb hby at_158) (fun _ _ => ⟨rfl, e3, (by decide : 20 + 2 ≤ _), (by decide : 3078 + 32 ≤ _)⟩)
  dsimp only [Pt.U, Pt.locs, Pt.cells, Pt.slots] at X5 hS5 hg5 l5 y5 z5 st5 hQ5 hC5
  rw [y5, z5] at X5
  obtain ⟨X5r, hS5r, hZ5, hown5⟩ := rebS hS1r (n1 := T3.heap.size) (by rw [e3]; exact (Nat.le_refl T1.heap.size)) X5 hS5 hg5 hZ1 hown1
  obtain ⟨rfl, N5q, E5⟩ := hQ5
  have N5 := own_fr l5 N3 N5q
  have R5 := CHr.trans R1 hC5
  have Mm_5 := Mm1.ext E5
  have Y5 := Old.ext Y1 E5
  have pre6 : Pr p e below (T5.setTop (mkF m 176 #[iv pa, iv pb, iv pc, iv pd, iv xa, iv xb, iv xc, iv 1, rv ca, rv ra, rv ea1, rv ma1] [(.int 7), (.ref ma1)])) START := fun t k => pre4 t (by
    show Steps _ _ _ (T3.setTop (mkF m 146 #[iv pa, iv pb, iv pc, iv pd, iv xa, iv xb, iv xc, iv 1, rv ca, rv ra, rv ea1, rv ma1] [(.int 23)])) _
    refine XT.bipushV X3.here hx rfl (22 : Int32) (hb hby at_146) (by decide) ?_
    refine XS.iload X3.here hx rfl (hb hby at_148) rfl ?_
    refine XS.iadd X3.here hx rfl (hb hby at_150) rfl ?_
    show Steps _ _ _ (T3.setTop (mkF m 151 #[iv pa, iv pb, iv pc, iv pd, iv xa, iv xb, iv xc, iv 1, rv ca, rv ra, rv ea1, rv ma1] [(.int ((22 : Int32) + (1 : Int32))), (.int 23)])) _
    refine castTop (g' := (mkF m 151 #[iv pa, iv pb, iv pc, iv pd, iv xa, iv xb, iv xc, iv 1, rv ca, rv ra, rv ea1, rv ma1] [(.int 23), (.int 23)])) (by rw [(by decide : ((22 : Int32) + (1 : Int32)) = (23 : Int32))]) ?_
    show Steps _ _ _ (T3.setTop (mkF m 151 #[iv pa, iv pb, iv pc, iv pd, iv xa, iv xb, iv xc, iv 1, rv ca, rv ra, rv ea1, rv ma1] [(.int 23), (.int 23)])) _
    refine XS.icmpYes X3.here hx rfl (pc0 := 151) (pc' := 156) rfl (hb hby at_151) rfl (teq (by decide : ((23 : Int32) = (23 : Int32)))).1 (by decide) (by decide) ?_
    refine XS.aload X3.here hx rfl (hb hby at_156) rfl rfl ?_
    refine st5.trans ?_
    show Steps _ _ _ (T5.setTop (mkF m 161 #[iv pa, iv pb, iv pc, iv pd, iv xa, iv xb, iv xc, iv 1, rv ca, rv ra, rv ea1, rv ma1] [(.int 1)])) _
    refine XS.ifYes X5r.here hx rfl (pc0 := 161) (pc' := 166) rfl (hb hby at_161) rfl ((if0 _ _).trans (feq (by decide : ¬ ((1 : Int32) = (0 : Int32)))).2) (by decide) (by decide) ?_
    refine XS.iload X5r.here hx rfl (hb hby at_166) rfl ?_
    refine XT.iconstV X5r.here hx rfl (1 : Int32) (hb hby at_168) (by decide) ?_
    show Steps _ _ _ (T5.setTop (mkF m 169 #[iv pa, iv pb, iv pc, iv pd, iv xa, iv xb, iv xc, iv 1, rv ca, rv ra, rv ea1, rv ma1] [(.int 1), (.int 1)])) _
    refine XS.icmpNo X5r.here hx rfl (hb hby at_169) rfl (flt (by decide : ¬ ((1 : Int32) < (1 : Int32)))).1 ?_
    refine XS.aload X5r.here hx rfl (hb hby at_172) rfl rfl ?_
    refine XT.bipushV X5r.here hx rfl (7 : Int32) (hb hby at_174) (by decide) ?_
    exact k)
  obtain ⟨cq7, kq7, q7a, q7b, q7c⟩ := isOf hZ5 rfl Mm_5.exa
  obtain ⟨_, _, ⟨T7, L7, k7, n7⟩, -, X7, ⟨Lc7, hQ7, l7, y7, z7⟩, st7⟩ := X5r.virtualBack hx (y := mN26) (z := mN26) hown5 (mw hZ5 hw 232 rfl) (mw hZ5 hw 233 rfl) (notFace_of_selects (args := #[]) (mw hZ5 hw 235 rfl)) (mw hZ5 hw 235 rfl) (mw hZ5 hw 234 rfl) (by decide) (backOf (W := 0) (rm_ca l Z a0 hw [] ma1 (7 : Int32) T5.heap n0 (own_old0 Y5) Y5 zc fm S (own_opt ++ [xa] ++ own_suf) Mm_5 7 (show 7 < 23 from by decide) rfl xa rfl) hZ5 (ww hw 236 rfl) (ww hw 4 rfl) (by decide) (by decide)) q7a q7c (g := (mkF m 176 #[iv pa, iv pb, iv pc, iv pd, iv xa, iv xb, iv xc, iv 1, rv ca, rv ra, rv ea1, rv ma1] [(.int 7), (.ref ma1)])) rfl (by rw [hml]; rfl) (Steps.refl _) (argsL := [(.int 7)]) (rest := []) (lenOf pd_33 rfl) rfl own_z (hb hby at_176) (fun _ _ => ⟨rfl, rfl, (by decide : 22 + 0 ≤ _), (by decide : 3110 + 0 ≤ _)⟩)
  dsimp only [Pt.U, Pt.locs, Pt.cells, Pt.slots] at X7 l7 y7 z7 st7 hQ7
  rw [y7, z7] at X7
  obtain ⟨rfl, N7q, e7⟩ := hQ7
  have N7 := own_fr l7 N5 N7q
  have pre8 : Pr p e below (T7.setTop (mkF m 233 #[iv pa, iv pb, iv pc, iv pd, iv xa, iv xb, iv xc, iv 1, rv ca, rv ra, rv ea1, rv ma1] [(.int 8), (.ref ma1)])) START := fun t k => pre6 t (by
    show Steps _ _ _ (T5.setTop (mkF m 176 #[iv pa, iv pb, iv pc, iv pd, iv xa, iv xb, iv xc, iv 1, rv ca, rv ra, rv ea1, rv ma1] [(.int 7), (.ref ma1)])) _
    refine st7.trans ?_
    refine XS.iload X7.here hx rfl (hb hby at_179) rfl ?_
    show Steps _ _ _ (T7.setTop (mkF m 181 #[iv pa, iv pb, iv pc, iv pd, iv xa, iv xb, iv xc, iv 1, rv ca, rv ra, rv ea1, rv ma1] [(.int xa), (.int xa)])) _
    refine XS.icmpYes X7.here hx rfl (pc0 := 181) (pc' := 186) rfl (hb hby at_181) rfl (teq (rfl : xa = xa)).1 (by decide) (by decide) ?_
    refine XS.iload X7.here hx rfl (hb hby at_186) rfl ?_
    refine XT.iconstV X7.here hx rfl (2 : Int32) (hb hby at_188) (by decide) ?_
    show Steps _ _ _ (T7.setTop (mkF m 189 #[iv pa, iv pb, iv pc, iv pd, iv xa, iv xb, iv xc, iv 1, rv ca, rv ra, rv ea1, rv ma1] [(.int 2), (.int 1)])) _
    refine XS.icmpYes X7.here hx rfl (pc0 := 189) (pc' := 206) rfl (hb hby at_189) rfl (tlt (by decide : ((1 : Int32) < (2 : Int32)))).1 (by decide) (by decide) ?_
    refine XS.iload X7.here hx rfl (hb hby at_206) rfl ?_
    refine XT.iconstV X7.here hx rfl (3 : Int32) (hb hby at_208) (by decide) ?_
    show Steps _ _ _ (T7.setTop (mkF m 209 #[iv pa, iv pb, iv pc, iv pd, iv xa, iv xb, iv xc, iv 1, rv ca, rv ra, rv ea1, rv ma1] [(.int 3), (.int 1)])) _
    refine XS.icmpYes X7.here hx rfl (pc0 := 209) (pc' := 226) rfl (hb hby at_209) rfl (tlt (by decide : ((1 : Int32) < (3 : Int32)))).1 (by decide) (by decide) ?_
    refine XS.aload X7.here hx rfl (hb hby at_226) rfl rfl ?_
    refine XT.bipushV X7.here hx rfl (7 : Int32) (hb hby at_228) (by decide) ?_
    refine XS.iload X7.here hx rfl (hb hby at_230) rfl ?_
    refine XS.iadd X7.here hx rfl (hb hby at_232) rfl ?_
    show Steps _ _ _ (T7.setTop (mkF m 233 #[iv pa, iv pb, iv pc, iv pd, iv xa, iv xb, iv xc, iv 1, rv ca, rv ra, rv ea1, rv ma1] [(.int ((7 : Int32) + (1 : Int32))), (.ref ma1)])) _
    refine castTop (g' := (mkF m 233 #[iv pa, iv pb, iv pc, iv pd, iv xa, iv xb, iv xc, iv 1, rv ca, rv ra, rv ea1, rv ma1] [(.int 8), (.ref ma1)])) (by rw [(by decide : ((7 : Int32) + (1 : Int32)) = (8 : Int32))]) ?_
    exact k)
  obtain ⟨_, vq9, ⟨T9, L9, k9, n9⟩, hm9, X9, hS9, hg9, ⟨Lc9, hQ9, l9, y9, z9, hC9⟩, st9⟩ := Jvm.RoadKit.callSS X7 hx (y := mN54) hown5 (mw hZ5 hw 254 rfl) (mw hZ5 hw 255 rfl) (mw hZ5 hw 229 rfl) (mw hZ5 hw 256 rfl) (by decide) (backOfSH (W := 0) (s := s) (vm0 := T5.vm) (rm_sx l Z a0 hw [] ma1 (8 : Int32) T5.heap n0 (own_old0 Y5) Y5 zc fm S (own_opt ++ [xa] ++ own_suf) Mm_5 8 (by decide) rfl rfl rfl rfl rfl rfl rfl rfl rfl rfl rfl rfl rfl rfl rfl rfl rfl) hZ5 (ww hw 256 rfl) (ww hw 229 rfl) (by decide) (by decide) hEL R5.1) (g := (mkF m 233 #[iv pa, iv pb, iv pc, iv pd, iv xa, iv xb, iv xc, iv 1, rv ca, rv ra, rv ea1, rv ma1] [(.int 8), (.ref ma1)])) rfl (by rw [hml]; rfl) (argsL := [(.ref ma1), (.int 8)]) (rest := []) (lenOf pd_36 rfl) rfl own_z (hb hby at_233) (fun _ _ => ⟨rfl, e7, (by decide : 22 + 2 ≤ _), (by decide : 3110 + 64 ≤ _)⟩)
  dsimp only [Pt.U, Pt.locs, Pt.cells, Pt.slots] at X9 hS9 hg9 l9 y9 z9 st9 hQ9 hC9
  rw [y9, z9] at X9
  obtain ⟨X9r, hS9r, hZ9, hown9⟩ := rebS hS5r (n1 := T7.heap.size) (by rw [e7]; exact (Nat.le_refl T5.heap.size)) X9 hS9 hg9 hZ5 hown5
  obtain ⟨rfl, N9q, E9⟩ := hQ9
  have N9 := own_fr l9 N7 N9q
  have R9 := CHr.trans R5 hC9
  have pre10 : Pr p e below (T9.setTop (mkF m 236 #[iv pa, iv pb, iv pc, iv pd, iv xa, iv xb, iv xc, iv 1, rv ca, rv ra, rv ea1, rv ma1] [(.int 1)])) START := fun t k => pre8 t (by
    show Steps _ _ _ (T7.setTop (mkF m 233 #[iv pa, iv pb, iv pc, iv pd, iv xa, iv xb, iv xc, iv 1, rv ca, rv ra, rv ea1, rv ma1] [(.int 8), (.ref ma1)])) _
    refine st9.trans ?_
    exact k)
  obtain ⟨fs, hr, hrun, hended, hEnd⟩ := X9r.leaveW hS9r (Nat.le_refl T9.heap.size) (v := some (.int 1)) (fun h => by rw [hret] at h; cases h) (hlocks := hlk)
  refine ⟨_, _, pre10 _ ?_, hrun, hended, _, _, rfl, ⟨rfl, N9⟩, ?_, own_endW hEnd (by decide) (by decide)⟩
  · show Steps _ _ _ (T9.setTop (mkF m 236 #[iv pa, iv pb, iv pc, iv pd, iv xa, iv xb, iv xc, iv 1, rv ca, rv ra, rv ea1, rv ma1] [(.int 1)])) _
    exact retOut X9r hx hret rfl (Or.inl ⟨rfl, by simp, _, rfl⟩) (hb hby at_236) hr
  · show CHr Z consts_1 s.vm s.heap T9.vm T9.heap
    exact CHr.trans R9 (CHv.at (s := s) (vm0 := T9.vm) X9r hZ9 hEL R9.1)
theorem own_t2 {p : Program} {l : Launch} {e : Env} {s : State} {m : MethodId} {args : Array Value} {below : List Frame} {meth : Method} {c : Code} {T0 START : State} {vm0 : Vm} {locs : List Loc} {k0 : Nat} (Z : State) (a0 : Array Value) (hw : ∀ d ∈ tables_1, d.before a0 Z = true) (pa pb pc pd xa xb xc : Int32) (ca ra : Addr) (h0 : Heap) (n0 : Nat) (Z0 : n0 ≤ h0.size) (Y0 : Old Z n0 h0) (zc : Int32) (fm : Value) (S : Sts Z Z.heap zc fm) (hl : l.stackTraces = true) (ua us : Addr) (SU : Sta Z Z.heap "java/lang/Throwable" "UNASSIGNED_STACK" "[Ljava/lang/StackTraceElement;" (.ref ua)) (SS : Sta Z Z.heap "java/lang/Throwable" "SUPPRESSED_SENTINEL" "Ljava/util/List;" (.ref us)) 
    (X0 : Stand p l e room_1 (s.setVm vm0) m args below meth c T0 locs 8 50) (hx : p.tables.exec = Jvm.exec) (hby : c.code = code) (hml : c.maxLocals = 12) (hret : meth.sig.returnType = some .boolean) (hlk : meth.locks = false) (hZ : Z.Warmed39 (s.setVm vm0).vm) (hown : (s.setVm vm0).vm.findClass "com/example/tidegauge/tidegauge/OptionsGivenTwicePinLaw" = some m.cls) (hS : s.Since vm0 k0) (hk0 : k0 ≤ h0.size) (hK : s.vm.MethodsKnown ∧ s.vm.FramesKnown below) (e0 : T0.heap = h0) (N0 : Fr n0 locs) (R0 : CHr Z consts_1 s.vm s.heap vm0 h0) (M : TM Z h0 ra [xa, xb])
    (pre0 : ∀ t, Steps p.tables e below (T0.setTop (mkF m 111 #[iv pa, iv pb, iv pc, iv pd, iv xa, iv xb, iv xc, iv 2, rv ca, .unset, .unset, .unset] [(.ref ra)])) t → Steps p.tables e below START t) :
    ∃ s₂ o, Steps p.tables e below START s₂ ∧ s₂.status = .running ∧ Ended s₂ below o ∧ ∃ v L, o = .returned v ∧ (v = some (.int 1) ∧ Fr n0 L) ∧ CHr Z consts_1 s.vm s.heap s₂.vm s₂.heap ∧ ReturnedEndW s o s₂ L 48 11136 := by
  have hEL := own_EW hw
  obtain ⟨_, vq1, ⟨T1, L1, k1, n1⟩, hm1, X1, hS1, hg1, ⟨Lc1, hQ1, l1, y1, z1, hC1⟩, st1⟩ := Jvm.RoadKit.callSS X0 hx (y := mN52) hown (mw hZ hw 31 rfl) (mw hZ hw 32 rfl) (mw hZ hw 33 rfl) (mw hZ hw 34 rfl) (by decide) (own_backKH (W := 0) (s := s) (vm0 := vm0) (rm_gt l Z a0 hw [] ra h0 n0 (own_old0 Y0) Y0 zc fm S hl ua us SU SS [xa, xb] (show 2 ≤ 3 from by decide) M) hZ (ww hw 34 rfl) (ww hw 33 rfl) (by decide) (by decide) hEL R0.1 (Vm.MethodsKnown.alikeC hS.1.alike hK.1) (Vm.FramesKnown.alikeC hS.1.alike hK.2)) (g := (mkF m 115 #[iv pa, iv pb, iv pc, iv pd, iv xa, iv xb, iv xc, iv 2, rv ca, rv ra, .unset, .unset] [(.ref ra)])) rfl (by rw [hml]; rfl) (argsL := [(.ref ra)]) (rest := []) (lenOf pd_34 rfl) rfl own_z (hb hby at_115) (fun _ _ => ⟨rfl, e0, (by decide : 8 + 12 ≤ _), (by decide : 50 + 3028 ≤ _)⟩)
  dsimp only [Pt.U, Pt.locs, Pt.cells, Pt.slots] at X1 hS1 hg1 l1 y1 z1 st1 hQ1 hC1
  rw [y1, z1] at X1
  obtain ⟨X1r, hS1r, hZ1, hown1⟩ := rebS hS (n1 := T0.heap.size) (by rw [e0]; exact hk0) X1 hS1 hg1 hZ hown
  obtain ⟨ea1, ma1, rfl, N1q, E1, Xe1, Fm1, Mm1⟩ := hQ1
  have N1 := own_fr l1 N0 N1q
  have R1 := CHr.trans R0 hC1
  have Y1 := Old.ext Y0 E1
  obtain ⟨cq2, kq2, q2a, q2b, q2c⟩ := isOf hZ1 rfl Xe1
  obtain ⟨_, _, ⟨T2, L2, k2, n2⟩, -, X2, ⟨Lc2, hQ2, l2, y2, z2⟩, st2⟩ := X1r.virtualBackUp hx (owner := "java/lang/Throwable") (x := mN56) (y := mN55) hown1 (mw hZ1 hw 220 rfl) (mw hZ1 hw 221 rfl) (mw hZ1 hw 222 rfl) (by decide) (mw hZ1 hw 224 rfl) (mw hZ1 hw 223 rfl) (backOf (W := 0) (rm_gm l Z a0 hw [] ea1 T1.heap n0 (own_old0 Y1) Y1 zc fm S ma1 Fm1) hZ1 (ww hw 225 rfl) (ww hw 181 rfl) (by decide) (by decide)) q2a q2c (g := (mkF m 129 #[iv pa, iv pb, iv pc, iv pd, iv xa, iv xb, iv xc, iv 2, rv ca, rv ra, rv ea1, .unset] [(.ref ea1)])) rfl (by rw [hml]; rfl) (Steps.refl _) (argsL := []) (rest := []) (lenOf pd_32 rfl) rfl own_z (hb hby at_129) (fun _ _ => ⟨rfl, rfl, (by decide : 20 + 0 ≤ _), (by decide : 3078 + 0 ≤ _)⟩)
  dsimp only [Pt.U, Pt.locs, Pt.cells, Pt.slots] at X2 l2 y2 z2 st2 hQ2
  rw [y2, z2] at X2
  obtain ⟨rfl, N2q, e2⟩ := hQ2
  have N2 := own_fr l2 N1 N2q
  obtain ⟨cq3, kq3, q3a, q3b, q3c⟩ := isOf hZ1 e2 Mm1.exa
  obtain ⟨_, _, ⟨T3, L3, k3, n3⟩, -, X3, ⟨Lc3, hQ3, l3, y3, z3⟩, st3⟩ := X2.virtualBack hx (y := mN1) (z := mN1) hown1 (mw hZ1 hw 226 rfl) (mw hZ1 hw 70 rfl) (notFace_of_selects (args := #[]) (mw hZ1 hw 72 rfl)) (mw hZ1 hw 72 rfl) (mw hZ1 hw 71 rfl) (by decide) (backOf (W := 0) (rm_lenM l Z a0 hw [] ma1 T1.heap n0 (own_old0 Y1) Y1 zc fm S (own_opt ++ [xa, xb] ++ own_suf) Mm1 (24 : Int32) rfl) hZ1 (ww hw 73 rfl) (ww hw 4 rfl) (by decide) (by decide)) q3a q3c (g := (mkF m 143 #[iv pa, iv pb, iv pc, iv pd, iv xa, iv xb, iv xc, iv 2, rv ca, rv ra, rv ea1, rv ma1] [(.ref ma1)])) rfl (by rw [hml]; rfl) (Steps.refl _) (argsL := []) (rest := []) (lenOf pd_1 rfl) rfl own_z (hb hby at_143) (fun _ _ => ⟨rfl, e2, (by decide : 20 + 0 ≤ _), (by decide : 3078 + 0 ≤ _)⟩)
  dsimp only [Pt.U, Pt.locs, Pt.cells, Pt.slots] at X3 l3 y3 z3 st3 hQ3
  rw [y3, z3] at X3
  obtain ⟨rfl, N3q, e3⟩ := hQ3
  have N3 := own_fr l3 N2 N3q
  have pre4 : Pr p e below (T3.setTop (mkF m 146 #[iv pa, iv pb, iv pc, iv pd, iv xa, iv xb, iv xc, iv 2, rv ca, rv ra, rv ea1, rv ma1] [(.int 24)])) START := fun t k => pre0 t (by
    show Steps _ _ _ (T0.setTop (mkF m 111 #[iv pa, iv pb, iv pc, iv pd, iv xa, iv xb, iv xc, iv 2, rv ca, .unset, .unset, .unset] [(.ref ra)])) _
    refine XS.astore X0.here hx rfl (hb hby at_111) rfl rfl (l' := #[iv pa, iv pb, iv pc, iv pd, iv xa, iv xb, iv xc, iv 2, rv ca, rv ra, .unset, .unset]) rfl ?_
    refine XS.aload X0.here hx rfl (hb hby at_113) rfl rfl ?_
    refine st1.trans ?_
    refine XS.astore X1r.here hx rfl (hb hby at_118) rfl rfl (l' := #[iv pa, iv pb, iv pc, iv pd, iv xa, iv xb, iv xc, iv 2, rv ca, rv ra, rv ea1, .unset]) rfl ?_
    refine XS.aload X1r.here hx rfl (hb hby at_120) rfl rfl ?_
    refine XS.ifnonnullYes X1r.here hx rfl (pc0 := 122) (pc' := 127) rfl (hb hby at_122) rfl (by decide) (by decide) ?_
    refine XS.aload X1r.here hx rfl (hb hby at_127) rfl rfl ?_
    refine st2.trans ?_
    refine XS.astore X2.here hx rfl (hb hby at_132) rfl rfl (l' := #[iv pa, iv pb, iv pc, iv pd, iv xa, iv xb, iv xc, iv 2, rv ca, rv ra, rv ea1, rv ma1]) rfl ?_
    refine XS.aload X2.here hx rfl (hb hby at_134) rfl rfl ?_
    refine XS.ifnonnullYes X2.here hx rfl (pc0 := 136) (pc' := 141) rfl (hb hby at_136) rfl (by decide) (by decide) ?_
    refine XS.aload X2.here hx rfl (hb hby at_141) rfl rfl ?_
    refine st3.trans ?_
    exact k)
  obtain ⟨_, vq5, ⟨T5, L5, k5, n5⟩, hm5, X5, hS5, hg5, ⟨Lc5, hQ5, l5, y5, z5, hC5⟩, st5⟩ := Jvm.RoadKit.callSS X3 hx (y := mN53) hown1 (mw hZ1 hw 227 rfl) (mw hZ1 hw 228 rfl) (mw hZ1 hw 229 rfl) (mw hZ1 hw 230 rfl) (by decide) (backOfSH (W := 0) (s := s) (vm0 := T1.vm) (rm_px l Z a0 hw [] ma1 T1.heap n0 (own_old0 Y1) Y1 zc fm S (own_opt ++ [xa, xb] ++ own_suf) Mm1 (show 7 ≤ 24 from by decide) rfl rfl rfl rfl rfl rfl rfl) hZ1 (ww hw 230 rfl) (ww hw 229 rfl) (by decide) (by decide) hEL R1.1) (g := (mkF m 158 #[iv pa, iv pb, iv pc, iv pd, iv xa, iv xb, iv xc, iv 2, rv ca, rv ra, rv ea1, rv ma1] [(.ref ma1)])) rfl (by rw [hml]; rfl) (argsL := [(.ref ma1)]) (rest := []) (lenOf pd_35 rfl) rfl own_z (hb hby at_158) (fun _ _ => ⟨rfl, e3, (by decide : 20 + 2 ≤ _), (by decide : 3078 + 32 ≤ _)⟩)
  dsimp only [Pt.U, Pt.locs, Pt.cells, Pt.slots] at X5 hS5 hg5 l5 y5 z5 st5 hQ5 hC5
  rw [y5, z5] at X5
  obtain ⟨X5r, hS5r, hZ5, hown5⟩ := rebS hS1r (n1 := T3.heap.size) (by rw [e3]; exact (Nat.le_refl T1.heap.size)) X5 hS5 hg5 hZ1 hown1
  obtain ⟨rfl, N5q, E5⟩ := hQ5
  have N5 := own_fr l5 N3 N5q
  have R5 := CHr.trans R1 hC5
  have Mm_5 := Mm1.ext E5
  have Y5 := Old.ext Y1 E5
  have pre6 : Pr p e below (T5.setTop (mkF m 176 #[iv pa, iv pb, iv pc, iv pd, iv xa, iv xb, iv xc, iv 2, rv ca, rv ra, rv ea1, rv ma1] [(.int 7), (.ref ma1)])) START := fun t k => pre4 t (by
    show Steps _ _ _ (T3.setTop (mkF m 146 #[iv pa, iv pb, iv pc, iv pd, iv xa, iv xb, iv xc, iv 2, rv ca, rv ra, rv ea1, rv ma1] [(.int 24)])) _
    refine XT.bipushV X3.here hx rfl (22 : Int32) (hb hby at_146) (by decide) ?_
    refine XS.iload X3.here hx rfl (hb hby at_148) rfl ?_
    refine XS.iadd X3.here hx rfl (hb hby at_150) rfl ?_
    show Steps _ _ _ (T3.setTop (mkF m 151 #[iv pa, iv pb, iv pc, iv pd, iv xa, iv xb, iv xc, iv 2, rv ca, rv ra, rv ea1, rv ma1] [(.int ((22 : Int32) + (2 : Int32))), (.int 24)])) _
    refine castTop (g' := (mkF m 151 #[iv pa, iv pb, iv pc, iv pd, iv xa, iv xb, iv xc, iv 2, rv ca, rv ra, rv ea1, rv ma1] [(.int 24), (.int 24)])) (by rw [(by decide : ((22 : Int32) + (2 : Int32)) = (24 : Int32))]) ?_
    show Steps _ _ _ (T3.setTop (mkF m 151 #[iv pa, iv pb, iv pc, iv pd, iv xa, iv xb, iv xc, iv 2, rv ca, rv ra, rv ea1, rv ma1] [(.int 24), (.int 24)])) _
    refine XS.icmpYes X3.here hx rfl (pc0 := 151) (pc' := 156) rfl (hb hby at_151) rfl (teq (by decide : ((24 : Int32) = (24 : Int32)))).1 (by decide) (by decide) ?_
    refine XS.aload X3.here hx rfl (hb hby at_156) rfl rfl ?_
    refine st5.trans ?_
    show Steps _ _ _ (T5.setTop (mkF m 161 #[iv pa, iv pb, iv pc, iv pd, iv xa, iv xb, iv xc, iv 2, rv ca, rv ra, rv ea1, rv ma1] [(.int 1)])) _
    refine XS.ifYes X5r.here hx rfl (pc0 := 161) (pc' := 166) rfl (hb hby at_161) rfl ((if0 _ _).trans (feq (by decide : ¬ ((1 : Int32) = (0 : Int32)))).2) (by decide) (by decide) ?_
    refine XS.iload X5r.here hx rfl (hb hby at_166) rfl ?_
    refine XT.iconstV X5r.here hx rfl (1 : Int32) (hb hby at_168) (by decide) ?_
    show Steps _ _ _ (T5.setTop (mkF m 169 #[iv pa, iv pb, iv pc, iv pd, iv xa, iv xb, iv xc, iv 2, rv ca, rv ra, rv ea1, rv ma1] [(.int 1), (.int 2)])) _
    refine XS.icmpNo X5r.here hx rfl (hb hby at_169) rfl (flt (by decide : ¬ ((2 : Int32) < (1 : Int32)))).1 ?_
    refine XS.aload X5r.here hx rfl (hb hby at_172) rfl rfl ?_
    refine XT.bipushV X5r.here hx rfl (7 : Int32) (hb hby at_174) (by decide) ?_
    exact k)
  obtain ⟨cq7, kq7, q7a, q7b, q7c⟩ := isOf hZ5 rfl Mm_5.exa
  obtain ⟨_, _, ⟨T7, L7, k7, n7⟩, -, X7, ⟨Lc7, hQ7, l7, y7, z7⟩, st7⟩ := X5r.virtualBack hx (y := mN26) (z := mN26) hown5 (mw hZ5 hw 232 rfl) (mw hZ5 hw 233 rfl) (notFace_of_selects (args := #[]) (mw hZ5 hw 235 rfl)) (mw hZ5 hw 235 rfl) (mw hZ5 hw 234 rfl) (by decide) (backOf (W := 0) (rm_ca l Z a0 hw [] ma1 (7 : Int32) T5.heap n0 (own_old0 Y5) Y5 zc fm S (own_opt ++ [xa, xb] ++ own_suf) Mm_5 7 (show 7 < 24 from by decide) rfl xa rfl) hZ5 (ww hw 236 rfl) (ww hw 4 rfl) (by decide) (by decide)) q7a q7c (g := (mkF m 176 #[iv pa, iv pb, iv pc, iv pd, iv xa, iv xb, iv xc, iv 2, rv ca, rv ra, rv ea1, rv ma1] [(.int 7), (.ref ma1)])) rfl (by rw [hml]; rfl) (Steps.refl _) (argsL := [(.int 7)]) (rest := []) (lenOf pd_33 rfl) rfl own_z (hb hby at_176) (fun _ _ => ⟨rfl, rfl, (by decide : 22 + 0 ≤ _), (by decide : 3110 + 0 ≤ _)⟩)
  dsimp only [Pt.U, Pt.locs, Pt.cells, Pt.slots] at X7 l7 y7 z7 st7 hQ7
  rw [y7, z7] at X7
  obtain ⟨rfl, N7q, e7⟩ := hQ7
  have N7 := own_fr l7 N5 N7q
  obtain ⟨cq8, kq8, q8a, q8b, q8c⟩ := isOf hZ5 e7 Mm_5.exa
  obtain ⟨_, _, ⟨T8, L8, k8, n8⟩, -, X8, ⟨Lc8, hQ8, l8, y8, z8⟩, st8⟩ := X7.virtualBack hx (y := mN26) (z := mN26) hown5 (mw hZ5 hw 232 rfl) (mw hZ5 hw 233 rfl) (notFace_of_selects (args := #[]) (mw hZ5 hw 235 rfl)) (mw hZ5 hw 235 rfl) (mw hZ5 hw 234 rfl) (by decide) (backOf (W := 0) (rm_ca l Z a0 hw [] ma1 (8 : Int32) T5.heap n0 (own_old0 Y5) Y5 zc fm S (own_opt ++ [xa, xb] ++ own_suf) Mm_5 8 (show 8 < 24 from by decide) rfl xb rfl) hZ5 (ww hw 236 rfl) (ww hw 4 rfl) (by decide) (by decide)) q8a q8c (g := (mkF m 196 #[iv pa, iv pb, iv pc, iv pd, iv xa, iv xb, iv xc, iv 2, rv ca, rv ra, rv ea1, rv ma1] [(.int 8), (.ref ma1)])) rfl (by rw [hml]; rfl) (Steps.refl _) (argsL := [(.int 8)]) (rest := []) (lenOf pd_33 rfl) rfl own_z (hb hby at_196) (fun _ _ => ⟨rfl, e7, (by decide : 22 + 0 ≤ _), (by decide : 3110 + 0 ≤ _)⟩)
  dsimp only [Pt.U, Pt.locs, Pt.cells, Pt.slots] at X8 l8 y8 z8 st8 hQ8
  rw [y8, z8] at X8
  obtain ⟨rfl, N8q, e8⟩ := hQ8
  have N8 := own_fr l8 N7 N8q
  have pre9 : Pr p e below (T8.setTop (mkF m 209 #[iv pa, iv pb, iv pc, iv pd, iv xa, iv xb, iv xc, iv 2, rv ca, rv ra, rv ea1, rv ma1] [(.int 3), (.int 2)])) START := fun t k => pre6 t (by
    show Steps _ _ _ (T5.setTop (mkF m 176 #[iv pa, iv pb, iv pc, iv pd, iv xa, iv xb, iv xc, iv 2, rv ca, rv ra, rv ea1, rv ma1] [(.int 7), (.ref ma1)])) _
    refine st7.trans ?_
    refine XS.iload X7.here hx rfl (hb hby at_179) rfl ?_
    show Steps _ _ _ (T7.setTop (mkF m 181 #[iv pa, iv pb, iv pc, iv pd, iv xa, iv xb, iv xc, iv 2, rv ca, rv ra, rv ea1, rv ma1] [(.int xa), (.int xa)])) _
    refine XS.icmpYes X7.here hx rfl (pc0 := 181) (pc' := 186) rfl (hb hby at_181) rfl (teq (rfl : xa = xa)).1 (by decide) (by decide) ?_
    refine XS.iload X7.here hx rfl (hb hby at_186) rfl ?_
    refine XT.iconstV X7.here hx rfl (2 : Int32) (hb hby at_188) (by decide) ?_
    show Steps _ _ _ (T7.setTop (mkF m 189 #[iv pa, iv pb, iv pc, iv pd, iv xa, iv xb, iv xc, iv 2, rv ca, rv ra, rv ea1, rv ma1] [(.int 2), (.int 2)])) _
    refine XS.icmpNo X7.here hx rfl (hb hby at_189) rfl (flt (by decide : ¬ ((2 : Int32) < (2 : Int32)))).1 ?_
    refine XS.aload X7.here hx rfl (hb hby at_192) rfl rfl ?_
    refine XT.bipushV X7.here hx rfl (8 : Int32) (hb hby at_194) (by decide) ?_
    refine st8.trans ?_
    refine XS.iload X8.here hx rfl (hb hby at_199) rfl ?_
    show Steps _ _ _ (T8.setTop (mkF m 201 #[iv pa, iv pb, iv pc, iv pd, iv xa, iv xb, iv xc, iv 2, rv ca, rv ra, rv ea1, rv ma1] [(.int xb), (.int xb)])) _
    refine XS.icmpYes X8.here hx rfl (pc0 := 201) (pc' := 206) rfl (hb hby at_201) rfl (teq (rfl : xb = xb)).1 (by decide) (by decide) ?_
    refine XS.iload X8.here hx rfl (hb hby at_206) rfl ?_
    refine XT.iconstV X8.here hx rfl (3 : Int32) (hb hby at_208) (by decide) ?_
    exact k)
  obtain ⟨_, vq10, ⟨T10, L10, k10, n10⟩, hm10, X10, hS10, hg10, ⟨Lc10, hQ10, l10, y10, z10, hC10⟩, st10⟩ := Jvm.RoadKit.callSS X8 hx (y := mN54) hown5 (mw hZ5 hw 254 rfl) (mw hZ5 hw 255 rfl) (mw hZ5 hw 229 rfl) (mw hZ5 hw 256 rfl) (by decide) (backOfSH (W := 0) (s := s) (vm0 := T5.vm) (rm_sx l Z a0 hw [] ma1 (9 : Int32) T5.heap n0 (own_old0 Y5) Y5 zc fm S (own_opt ++ [xa, xb] ++ own_suf) Mm_5 9 (by decide) rfl rfl rfl rfl rfl rfl rfl rfl rfl rfl rfl rfl rfl rfl rfl rfl rfl) hZ5 (ww hw 256 rfl) (ww hw 229 rfl) (by decide) (by decide) hEL R5.1) (g := (mkF m 233 #[iv pa, iv pb, iv pc, iv pd, iv xa, iv xb, iv xc, iv 2, rv ca, rv ra, rv ea1, rv ma1] [(.int 9), (.ref ma1)])) rfl (by rw [hml]; rfl) (argsL := [(.ref ma1), (.int 9)]) (rest := []) (lenOf pd_36 rfl) rfl own_z (hb hby at_233) (fun _ _ => ⟨rfl, e8, (by decide : 22 + 2 ≤ _), (by decide : 3110 + 64 ≤ _)⟩)
  dsimp only [Pt.U, Pt.locs, Pt.cells, Pt.slots] at X10 hS10 hg10 l10 y10 z10 st10 hQ10 hC10
  rw [y10, z10] at X10
  obtain ⟨X10r, hS10r, hZ10, hown10⟩ := rebS hS5r (n1 := T8.heap.size) (by rw [e8]; exact (Nat.le_refl T5.heap.size)) X10 hS10 hg10 hZ5 hown5
  obtain ⟨rfl, N10q, E10⟩ := hQ10
  have N10 := own_fr l10 N8 N10q
  have R10 := CHr.trans R5 hC10
  have pre11 : Pr p e below (T10.setTop (mkF m 236 #[iv pa, iv pb, iv pc, iv pd, iv xa, iv xb, iv xc, iv 2, rv ca, rv ra, rv ea1, rv ma1] [(.int 1)])) START := fun t k => pre9 t (by
    show Steps _ _ _ (T8.setTop (mkF m 209 #[iv pa, iv pb, iv pc, iv pd, iv xa, iv xb, iv xc, iv 2, rv ca, rv ra, rv ea1, rv ma1] [(.int 3), (.int 2)])) _
    refine XS.icmpYes X8.here hx rfl (pc0 := 209) (pc' := 226) rfl (hb hby at_209) rfl (tlt (by decide : ((2 : Int32) < (3 : Int32)))).1 (by decide) (by decide) ?_
    refine XS.aload X8.here hx rfl (hb hby at_226) rfl rfl ?_
    refine XT.bipushV X8.here hx rfl (7 : Int32) (hb hby at_228) (by decide) ?_
    refine XS.iload X8.here hx rfl (hb hby at_230) rfl ?_
    refine XS.iadd X8.here hx rfl (hb hby at_232) rfl ?_
    show Steps _ _ _ (T8.setTop (mkF m 233 #[iv pa, iv pb, iv pc, iv pd, iv xa, iv xb, iv xc, iv 2, rv ca, rv ra, rv ea1, rv ma1] [(.int ((7 : Int32) + (2 : Int32))), (.ref ma1)])) _
    refine castTop (g' := (mkF m 233 #[iv pa, iv pb, iv pc, iv pd, iv xa, iv xb, iv xc, iv 2, rv ca, rv ra, rv ea1, rv ma1] [(.int 9), (.ref ma1)])) (by rw [(by decide : ((7 : Int32) + (2 : Int32)) = (9 : Int32))]) ?_
    refine st10.trans ?_
    exact k)
  obtain ⟨fs, hr, hrun, hended, hEnd⟩ := X10r.leaveW hS10r (Nat.le_refl T10.heap.size) (v := some (.int 1)) (fun h => by rw [hret] at h; cases h) (hlocks := hlk)
  refine ⟨_, _, pre11 _ ?_, hrun, hended, _, _, rfl, ⟨rfl, N10⟩, ?_, own_endW hEnd (by decide) (by decide)⟩
  · show Steps _ _ _ (T10.setTop (mkF m 236 #[iv pa, iv pb, iv pc, iv pd, iv xa, iv xb, iv xc, iv 2, rv ca, rv ra, rv ea1, rv ma1] [(.int 1)])) _
    exact retOut X10r hx hret rfl (Or.inl ⟨rfl, by simp, _, rfl⟩) (hb hby at_236) hr
  · show CHr Z consts_1 s.vm s.heap T10.vm T10.heap
    exact CHr.trans R10 (CHv.at (s := s) (vm0 := T10.vm) X10r hZ10 hEL R10.1)
theorem own_t3 {p : Program} {l : Launch} {e : Env} {s : State} {m : MethodId} {args : Array Value} {below : List Frame} {meth : Method} {c : Code} {T0 START : State} {vm0 : Vm} {locs : List Loc} {k0 : Nat} (Z : State) (a0 : Array Value) (hw : ∀ d ∈ tables_1, d.before a0 Z = true) (pa pb pc pd xa xb xc : Int32) (ca ra : Addr) (h0 : Heap) (n0 : Nat) (Z0 : n0 ≤ h0.size) (Y0 : Old Z n0 h0) (zc : Int32) (fm : Value) (S : Sts Z Z.heap zc fm) (hl : l.stackTraces = true) (ua us : Addr) (SU : Sta Z Z.heap "java/lang/Throwable" "UNASSIGNED_STACK" "[Ljava/lang/StackTraceElement;" (.ref ua)) (SS : Sta Z Z.heap "java/lang/Throwable" "SUPPRESSED_SENTINEL" "Ljava/util/List;" (.ref us)) 
    (X0 : Stand p l e room_1 (s.setVm vm0) m args below meth c T0 locs 8 50) (hx : p.tables.exec = Jvm.exec) (hby : c.code = code) (hml : c.maxLocals = 12) (hret : meth.sig.returnType = some .boolean) (hlk : meth.locks = false) (hZ : Z.Warmed39 (s.setVm vm0).vm) (hown : (s.setVm vm0).vm.findClass "com/example/tidegauge/tidegauge/OptionsGivenTwicePinLaw" = some m.cls) (hS : s.Since vm0 k0) (hk0 : k0 ≤ h0.size) (hK : s.vm.MethodsKnown ∧ s.vm.FramesKnown below) (e0 : T0.heap = h0) (N0 : Fr n0 locs) (R0 : CHr Z consts_1 s.vm s.heap vm0 h0) (M : TM Z h0 ra [xa, xb, xc])
    (pre0 : ∀ t, Steps p.tables e below (T0.setTop (mkF m 111 #[iv pa, iv pb, iv pc, iv pd, iv xa, iv xb, iv xc, iv 3, rv ca, .unset, .unset, .unset] [(.ref ra)])) t → Steps p.tables e below START t) :
    ∃ s₂ o, Steps p.tables e below START s₂ ∧ s₂.status = .running ∧ Ended s₂ below o ∧ ∃ v L, o = .returned v ∧ (v = some (.int 1) ∧ Fr n0 L) ∧ CHr Z consts_1 s.vm s.heap s₂.vm s₂.heap ∧ ReturnedEndW s o s₂ L 48 11136 := by
  have hEL := own_EW hw
  obtain ⟨_, vq1, ⟨T1, L1, k1, n1⟩, hm1, X1, hS1, hg1, ⟨Lc1, hQ1, l1, y1, z1, hC1⟩, st1⟩ := Jvm.RoadKit.callSS X0 hx (y := mN52) hown (mw hZ hw 31 rfl) (mw hZ hw 32 rfl) (mw hZ hw 33 rfl) (mw hZ hw 34 rfl) (by decide) (own_backKH (W := 0) (s := s) (vm0 := vm0) (rm_gt l Z a0 hw [] ra h0 n0 (own_old0 Y0) Y0 zc fm S hl ua us SU SS [xa, xb, xc] (show 3 ≤ 3 from by decide) M) hZ (ww hw 34 rfl) (ww hw 33 rfl) (by decide) (by decide) hEL R0.1 (Vm.MethodsKnown.alikeC hS.1.alike hK.1) (Vm.FramesKnown.alikeC hS.1.alike hK.2)) (g := (mkF m 115 #[iv pa, iv pb, iv pc, iv pd, iv xa, iv xb, iv xc, iv 3, rv ca, rv ra, .unset, .unset] [(.ref ra)])) rfl (by rw [hml]; rfl) (argsL := [(.ref ra)]) (rest := []) (lenOf pd_34 rfl) rfl own_z (hb hby at_115) (fun _ _ => ⟨rfl, e0, (by decide : 8 + 12 ≤ _), (by decide : 50 + 3028 ≤ _)⟩)
  dsimp only [Pt.U, Pt.locs, Pt.cells, Pt.slots] at X1 hS1 hg1 l1 y1 z1 st1 hQ1 hC1
  rw [y1, z1] at X1
  obtain ⟨X1r, hS1r, hZ1, hown1⟩ := rebS hS (n1 := T0.heap.size) (by rw [e0]; exact hk0) X1 hS1 hg1 hZ hown
  obtain ⟨ea1, ma1, rfl, N1q, E1, Xe1, Fm1, Mm1⟩ := hQ1
  have N1 := own_fr l1 N0 N1q
  have R1 := CHr.trans R0 hC1
  have Y1 := Old.ext Y0 E1
  obtain ⟨cq2, kq2, q2a, q2b, q2c⟩ := isOf hZ1 rfl Xe1
  obtain ⟨_, _, ⟨T2, L2, k2, n2⟩, -, X2, ⟨Lc2, hQ2, l2, y2, z2⟩, st2⟩ := X1r.virtualBackUp hx (owner := "java/lang/Throwable") (x := mN56) (y := mN55) hown1 (mw hZ1 hw 220 rfl) (mw hZ1 hw 221 rfl) (mw hZ1 hw 222 rfl) (by decide) (mw hZ1 hw 224 rfl) (mw hZ1 hw 223 rfl) (backOf (W := 0) (rm_gm l Z a0 hw [] ea1 T1.heap n0 (own_old0 Y1) Y1 zc fm S ma1 Fm1) hZ1 (ww hw 225 rfl) (ww hw 181 rfl) (by decide) (by decide)) q2a q2c (g := (mkF m 129 #[iv pa, iv pb, iv pc, iv pd, iv xa, iv xb, iv xc, iv 3, rv ca, rv ra, rv ea1, .unset] [(.ref ea1)])) rfl (by rw [hml]; rfl) (Steps.refl _) (argsL := []) (rest := []) (lenOf pd_32 rfl) rfl own_z (hb hby at_129) (fun _ _ => ⟨rfl, rfl, (by decide : 20 + 0 ≤ _), (by decide : 3078 + 0 ≤ _)⟩)
  dsimp only [Pt.U, Pt.locs, Pt.cells, Pt.slots] at X2 l2 y2 z2 st2 hQ2
  rw [y2, z2] at X2
  obtain ⟨rfl, N2q, e2⟩ := hQ2
  have N2 := own_fr l2 N1 N2q
  obtain ⟨cq3, kq3, q3a, q3b, q3c⟩ := isOf hZ1 e2 Mm1.exa
  obtain ⟨_, _, ⟨T3, L3, k3, n3⟩, -, X3, ⟨Lc3, hQ3, l3, y3, z3⟩, st3⟩ := X2.virtualBack hx (y := mN1) (z := mN1) hown1 (mw hZ1 hw 226 rfl) (mw hZ1 hw 70 rfl) (notFace_of_selects (args := #[]) (mw hZ1 hw 72 rfl)) (mw hZ1 hw 72 rfl) (mw hZ1 hw 71 rfl) (by decide) (backOf (W := 0) (rm_lenM l Z a0 hw [] ma1 T1.heap n0 (own_old0 Y1) Y1 zc fm S (own_opt ++ [xa, xb, xc] ++ own_suf) Mm1 (25 : Int32) rfl) hZ1 (ww hw 73 rfl) (ww hw 4 rfl) (by decide) (by decide)) q3a q3c (g := (mkF m 143 #[iv pa, iv pb, iv pc, iv pd, iv xa, iv xb, iv xc, iv 3, rv ca, rv ra, rv ea1, rv ma1] [(.ref ma1)])) rfl (by rw [hml]; rfl) (Steps.refl _) (argsL := []) (rest := []) (lenOf pd_1 rfl) rfl own_z (hb hby at_143) (fun _ _ => ⟨rfl, e2, (by decide : 20 + 0 ≤ _), (by decide : 3078 + 0 ≤ _)⟩)
  dsimp only [Pt.U, Pt.locs, Pt.cells, Pt.slots] at X3 l3 y3 z3 st3 hQ3
  rw [y3, z3] at X3
  obtain ⟨rfl, N3q, e3⟩ := hQ3
  have N3 := own_fr l3 N2 N3q
  have pre4 : Pr p e below (T3.setTop (mkF m 146 #[iv pa, iv pb, iv pc, iv pd, iv xa, iv xb, iv xc, iv 3, rv ca, rv ra, rv ea1, rv ma1] [(.int 25)])) START := fun t k => pre0 t (by
    show Steps _ _ _ (T0.setTop (mkF m 111 #[iv pa, iv pb, iv pc, iv pd, iv xa, iv xb, iv xc, iv 3, rv ca, .unset, .unset, .unset] [(.ref ra)])) _
    refine XS.astore X0.here hx rfl (hb hby at_111) rfl rfl (l' := #[iv pa, iv pb, iv pc, iv pd, iv xa, iv xb, iv xc, iv 3, rv ca, rv ra, .unset, .unset]) rfl ?_
    refine XS.aload X0.here hx rfl (hb hby at_113) rfl rfl ?_
    refine st1.trans ?_
    refine XS.astore X1r.here hx rfl (hb hby at_118) rfl rfl (l' := #[iv pa, iv pb, iv pc, iv pd, iv xa, iv xb, iv xc, iv 3, rv ca, rv ra, rv ea1, .unset]) rfl ?_
    refine XS.aload X1r.here hx rfl (hb hby at_120) rfl rfl ?_
    refine XS.ifnonnullYes X1r.here hx rfl (pc0 := 122) (pc' := 127) rfl (hb hby at_122) rfl (by decide) (by decide) ?_
    refine XS.aload X1r.here hx rfl (hb hby at_127) rfl rfl ?_
    refine st2.trans ?_
    refine XS.astore X2.here hx rfl (hb hby at_132) rfl rfl (l' := #[iv pa, iv pb, iv pc, iv pd, iv xa, iv xb, iv xc, iv 3, rv ca, rv ra, rv ea1, rv ma1]) rfl ?_
    refine XS.aload X2.here hx rfl (hb hby at_134) rfl rfl ?_
    refine XS.ifnonnullYes X2.here hx rfl (pc0 := 136) (pc' := 141) rfl (hb hby at_136) rfl (by decide) (by decide) ?_
    refine XS.aload X2.here hx rfl (hb hby at_141) rfl rfl ?_
    refine st3.trans ?_
    exact k)
  obtain ⟨_, vq5, ⟨T5, L5, k5, n5⟩, hm5, X5, hS5, hg5, ⟨Lc5, hQ5, l5, y5, z5, hC5⟩, st5⟩ := Jvm.RoadKit.callSS X3 hx (y := mN53) hown1 (mw hZ1 hw 227 rfl) (mw hZ1 hw 228 rfl) (mw hZ1 hw 229 rfl) (mw hZ1 hw 230 rfl) (by decide) (backOfSH (W := 0) (s := s) (vm0 := T1.vm) (rm_px l Z a0 hw [] ma1 T1.heap n0 (own_old0 Y1) Y1 zc fm S (own_opt ++ [xa, xb, xc] ++ own_suf) Mm1 (show 7 ≤ 25 from by decide) rfl rfl rfl rfl rfl rfl rfl) hZ1 (ww hw 230 rfl) (ww hw 229 rfl) (by decide) (by decide) hEL R1.1) (g := (mkF m 158 #[iv pa, iv pb, iv pc, iv pd, iv xa, iv xb, iv xc, iv 3, rv ca, rv ra, rv ea1, rv ma1] [(.ref ma1)])) rfl (by rw [hml]; rfl) (argsL := [(.ref ma1)]) (rest := []) (lenOf pd_35 rfl) rfl own_z (hb hby at_158) (fun _ _ => ⟨rfl, e3, (by decide : 20 + 2 ≤ _), (by decide : 3078 + 32 ≤ _)⟩)
  dsimp only [Pt.U, Pt.locs, Pt.cells, Pt.slots] at X5 hS5 hg5 l5 y5 z5 st5 hQ5 hC5
  rw [y5, z5] at X5
  obtain ⟨X5r, hS5r, hZ5, hown5⟩ := rebS hS1r (n1 := T3.heap.size) (by rw [e3]; exact (Nat.le_refl T1.heap.size)) X5 hS5 hg5 hZ1 hown1
  obtain ⟨rfl, N5q, E5⟩ := hQ5
  have N5 := own_fr l5 N3 N5q
  have R5 := CHr.trans R1 hC5
  have Mm_5 := Mm1.ext E5
  have Y5 := Old.ext Y1 E5
  have pre6 : Pr p e below (T5.setTop (mkF m 176 #[iv pa, iv pb, iv pc, iv pd, iv xa, iv xb, iv xc, iv 3, rv ca, rv ra, rv ea1, rv ma1] [(.int 7), (.ref ma1)])) START := fun t k => pre4 t (by
    show Steps _ _ _ (T3.setTop (mkF m 146 #[iv pa, iv pb, iv pc, iv pd, iv xa, iv xb, iv xc, iv 3, rv ca, rv ra, rv ea1, rv ma1] [(.int 25)])) _
    refine XT.bipushV X3.here hx rfl (22 : Int32) (hb hby at_146) (by decide) ?_
    refine XS.iload X3.here hx rfl (hb hby at_148) rfl ?_
    refine XS.iadd X3.here hx rfl (hb hby at_150) rfl ?_
    show Steps _ _ _ (T3.setTop (mkF m 151 #[iv pa, iv pb, iv pc, iv pd, iv xa, iv xb, iv xc, iv 3, rv ca, rv ra, rv ea1, rv ma1] [(.int ((22 : Int32) + (3 : Int32))), (.int 25)])) _
    refine castTop (g' := (mkF m 151 #[iv pa, iv pb, iv pc, iv pd, iv xa, iv xb, iv xc, iv 3, rv ca, rv ra, rv ea1, rv ma1] [(.int 25), (.int 25)])) (by rw [(by decide : ((22 : Int32) + (3 : Int32)) = (25 : Int32))]) ?_
    show Steps _ _ _ (T3.setTop (mkF m 151 #[iv pa, iv pb, iv pc, iv pd, iv xa, iv xb, iv xc, iv 3, rv ca, rv ra, rv ea1, rv ma1] [(.int 25), (.int 25)])) _
    refine XS.icmpYes X3.here hx rfl (pc0 := 151) (pc' := 156) rfl (hb hby at_151) rfl (teq (by decide : ((25 : Int32) = (25 : Int32)))).1 (by decide) (by decide) ?_
    refine XS.aload X3.here hx rfl (hb hby at_156) rfl rfl ?_
    refine st5.trans ?_
    show Steps _ _ _ (T5.setTop (mkF m 161 #[iv pa, iv pb, iv pc, iv pd, iv xa, iv xb, iv xc, iv 3, rv ca, rv ra, rv ea1, rv ma1] [(.int 1)])) _
    refine XS.ifYes X5r.here hx rfl (pc0 := 161) (pc' := 166) rfl (hb hby at_161) rfl ((if0 _ _).trans (feq (by decide : ¬ ((1 : Int32) = (0 : Int32)))).2) (by decide) (by decide) ?_
    refine XS.iload X5r.here hx rfl (hb hby at_166) rfl ?_
    refine XT.iconstV X5r.here hx rfl (1 : Int32) (hb hby at_168) (by decide) ?_
    show Steps _ _ _ (T5.setTop (mkF m 169 #[iv pa, iv pb, iv pc, iv pd, iv xa, iv xb, iv xc, iv 3, rv ca, rv ra, rv ea1, rv ma1] [(.int 1), (.int 3)])) _
    refine XS.icmpNo X5r.here hx rfl (hb hby at_169) rfl (flt (by decide : ¬ ((3 : Int32) < (1 : Int32)))).1 ?_
    refine XS.aload X5r.here hx rfl (hb hby at_172) rfl rfl ?_
    refine XT.bipushV X5r.here hx rfl (7 : Int32) (hb hby at_174) (by decide) ?_
    exact k)
  obtain ⟨cq7, kq7, q7a, q7b, q7c⟩ := isOf hZ5 rfl Mm_5.exa
  obtain ⟨_, _, ⟨T7, L7, k7, n7⟩, -, X7, ⟨Lc7, hQ7, l7, y7, z7⟩, st7⟩ := X5r.virtualBack hx (y := mN26) (z := mN26) hown5 (mw hZ5 hw 232 rfl) (mw hZ5 hw 233 rfl) (notFace_of_selects (args := #[]) (mw hZ5 hw 235 rfl)) (mw hZ5 hw 235 rfl) (mw hZ5 hw 234 rfl) (by decide) (backOf (W := 0) (rm_ca l Z a0 hw [] ma1 (7 : Int32) T5.heap n0 (own_old0 Y5) Y5 zc fm S (own_opt ++ [xa, xb, xc] ++ own_suf) Mm_5 7 (show 7 < 25 from by decide) rfl xa rfl) hZ5 (ww hw 236 rfl) (ww hw 4 rfl) (by decide) (by decide)) q7a q7c (g := (mkF m 176 #[iv pa, iv pb, iv pc, iv pd, iv xa, iv xb, iv xc, iv 3, rv ca, rv ra, rv ea1, rv ma1] [(.int 7), (.ref ma1)])) rfl (by rw [hml]; rfl) (Steps.refl _) (argsL := [(.int 7)]) (rest := []) (lenOf pd_33 rfl) rfl own_z (hb hby at_176) (fun _ _ => ⟨rfl, rfl, (by decide : 22 + 0 ≤ _), (by decide : 3110 + 0 ≤ _)⟩)
  dsimp only [Pt.U, Pt.locs, Pt.cells, Pt.slots] at X7 l7 y7 z7 st7 hQ7
  rw [y7, z7] at X7
  obtain ⟨rfl, N7q, e7⟩ := hQ7
  have N7 := own_fr l7 N5 N7q
  obtain ⟨cq8, kq8, q8a, q8b, q8c⟩ := isOf hZ5 e7 Mm_5.exa
  obtain ⟨_, _, ⟨T8, L8, k8, n8⟩, -, X8, ⟨Lc8, hQ8, l8, y8, z8⟩, st8⟩ := X7.virtualBack hx (y := mN26) (z := mN26) hown5 (mw hZ5 hw 232 rfl) (mw hZ5 hw 233 rfl) (notFace_of_selects (args := #[]) (mw hZ5 hw 235 rfl)) (mw hZ5 hw 235 rfl) (mw hZ5 hw 234 rfl) (by decide) (backOf (W := 0) (rm_ca l Z a0 hw [] ma1 (8 : Int32) T5.heap n0 (own_old0 Y5) Y5 zc fm S (own_opt ++ [xa, xb, xc] ++ own_suf) Mm_5 8 (show 8 < 25 from by decide) rfl xb rfl) hZ5 (ww hw 236 rfl) (ww hw 4 rfl) (by decide) (by decide)) q8a q8c (g := (mkF m 196 #[iv pa, iv pb, iv pc, iv pd, iv xa, iv xb, iv xc, iv 3, rv ca, rv ra, rv ea1, rv ma1] [(.int 8), (.ref ma1)])) rfl (by rw [hml]; rfl) (Steps.refl _) (argsL := [(.int 8)]) (rest := []) (lenOf pd_33 rfl) rfl own_z (hb hby at_196) (fun _ _ => ⟨rfl, e7, (by decide : 22 + 0 ≤ _), (by decide : 3110 + 0 ≤ _)⟩)
  dsimp only [Pt.U, Pt.locs, Pt.cells, Pt.slots] at X8 l8 y8 z8 st8 hQ8
  rw [y8, z8] at X8
  obtain ⟨rfl, N8q, e8⟩ := hQ8
  have N8 := own_fr l8 N7 N8q
  have pre9 : Pr p e below (T8.setTop (mkF m 209 #[iv pa, iv pb, iv pc, iv pd, iv xa, iv xb, iv xc, iv 3, rv ca, rv ra, rv ea1, rv ma1] [(.int 3), (.int 3)])) START := fun t k => pre6 t (by
    show Steps _ _ _ (T5.setTop (mkF m 176 #[iv pa, iv pb, iv pc, iv pd, iv xa, iv xb, iv xc, iv 3, rv ca, rv ra, rv ea1, rv ma1] [(.int 7), (.ref ma1)])) _
    refine st7.trans ?_
    refine XS.iload X7.here hx rfl (hb hby at_179) rfl ?_
    show Steps _ _ _ (T7.setTop (mkF m 181 #[iv pa, iv pb, iv pc, iv pd, iv xa, iv xb, iv xc, iv 3, rv ca, rv ra, rv ea1, rv ma1] [(.int xa), (.int xa)])) _
    refine XS.icmpYes X7.here hx rfl (pc0 := 181) (pc' := 186) rfl (hb hby at_181) rfl (teq (rfl : xa = xa)).1 (by decide) (by decide) ?_
    refine XS.iload X7.here hx rfl (hb hby at_186) rfl ?_
    refine XT.iconstV X7.here hx rfl (2 : Int32) (hb hby at_188) (by decide) ?_
    show Steps _ _ _ (T7.setTop (mkF m 189 #[iv pa, iv pb, iv pc, iv pd, iv xa, iv xb, iv xc, iv 3, rv ca, rv ra, rv ea1, rv ma1] [(.int 2), (.int 3)])) _
    refine XS.icmpNo X7.here hx rfl (hb hby at_189) rfl (flt (by decide : ¬ ((3 : Int32) < (2 : Int32)))).1 ?_
    refine XS.aload X7.here hx rfl (hb hby at_192) rfl rfl ?_
    refine XT.bipushV X7.here hx rfl (8 : Int32) (hb hby at_194) (by decide) ?_
    refine st8.trans ?_
    refine XS.iload X8.here hx rfl (hb hby at_199) rfl ?_
    show Steps _ _ _ (T8.setTop (mkF m 201 #[iv pa, iv pb, iv pc, iv pd, iv xa, iv xb, iv xc, iv 3, rv ca, rv ra, rv ea1, rv ma1] [(.int xb), (.int xb)])) _
    refine XS.icmpYes X8.here hx rfl (pc0 := 201) (pc' := 206) rfl (hb hby at_201) rfl (teq (rfl : xb = xb)).1 (by decide) (by decide) ?_
    refine XS.iload X8.here hx rfl (hb hby at_206) rfl ?_
    refine XT.iconstV X8.here hx rfl (3 : Int32) (hb hby at_208) (by decide) ?_
    exact k)
  obtain ⟨cq10, kq10, q10a, q10b, q10c⟩ := isOf hZ5 e8 Mm_5.exa
  obtain ⟨_, _, ⟨T10, L10, k10, n10⟩, -, X10, ⟨Lc10, hQ10, l10, y10, z10⟩, st10⟩ := X8.virtualBack hx (y := mN26) (z := mN26) hown5 (mw hZ5 hw 232 rfl) (mw hZ5 hw 233 rfl) (notFace_of_selects (args := #[]) (mw hZ5 hw 235 rfl)) (mw hZ5 hw 235 rfl) (mw hZ5 hw 234 rfl) (by decide) (backOf (W := 0) (rm_ca l Z a0 hw [] ma1 (9 : Int32) T5.heap n0 (own_old0 Y5) Y5 zc fm S (own_opt ++ [xa, xb, xc] ++ own_suf) Mm_5 9 (show 9 < 25 from by decide) rfl xc rfl) hZ5 (ww hw 236 rfl) (ww hw 4 rfl) (by decide) (by decide)) q10a q10c (g := (mkF m 216 #[iv pa, iv pb, iv pc, iv pd, iv xa, iv xb, iv xc, iv 3, rv ca, rv ra, rv ea1, rv ma1] [(.int 9), (.ref ma1)])) rfl (by rw [hml]; rfl) (Steps.refl _) (argsL := [(.int 9)]) (rest := []) (lenOf pd_33 rfl) rfl own_z (hb hby at_216) (fun _ _ => ⟨rfl, e8, (by decide : 22 + 0 ≤ _), (by decide : 3110 + 0 ≤ _)⟩)
  dsimp only [Pt.U, Pt.locs, Pt.cells, Pt.slots] at X10 l10 y10 z10 st10 hQ10
  rw [y10, z10] at X10
  obtain ⟨rfl, N10q, e10⟩ := hQ10
  have N10 := own_fr l10 N8 N10q
  obtain ⟨_, vq11, ⟨T11, L11, k11, n11⟩, hm11, X11, hS11, hg11, ⟨Lc11, hQ11, l11, y11, z11, hC11⟩, st11⟩ := Jvm.RoadKit.callSS X10 hx (y := mN54) hown5 (mw hZ5 hw 254 rfl) (mw hZ5 hw 255 rfl) (mw hZ5 hw 229 rfl) (mw hZ5 hw 256 rfl) (by decide) (backOfSH (W := 0) (s := s) (vm0 := T5.vm) (rm_sx l Z a0 hw [] ma1 (10 : Int32) T5.heap n0 (own_old0 Y5) Y5 zc fm S (own_opt ++ [xa, xb, xc] ++ own_suf) Mm_5 10 (by decide) rfl rfl rfl rfl rfl rfl rfl rfl rfl rfl rfl rfl rfl rfl rfl rfl rfl) hZ5 (ww hw 256 rfl) (ww hw 229 rfl) (by decide) (by decide) hEL R5.1) (g := (mkF m 233 #[iv pa, iv pb, iv pc, iv pd, iv xa, iv xb, iv xc, iv 3, rv ca, rv ra, rv ea1, rv ma1] [(.int 10), (.ref ma1)])) rfl (by rw [hml]; rfl) (argsL := [(.ref ma1), (.int 10)]) (rest := []) (lenOf pd_36 rfl) rfl own_z (hb hby at_233) (fun _ _ => ⟨rfl, e10, (by decide : 22 + 2 ≤ _), (by decide : 3110 + 64 ≤ _)⟩)
  dsimp only [Pt.U, Pt.locs, Pt.cells, Pt.slots] at X11 hS11 hg11 l11 y11 z11 st11 hQ11 hC11
  rw [y11, z11] at X11
  obtain ⟨X11r, hS11r, hZ11, hown11⟩ := rebS hS5r (n1 := T10.heap.size) (by rw [e10]; exact (Nat.le_refl T5.heap.size)) X11 hS11 hg11 hZ5 hown5
  obtain ⟨rfl, N11q, E11⟩ := hQ11
  have N11 := own_fr l11 N10 N11q
  have R11 := CHr.trans R5 hC11
  have pre12 : Pr p e below (T11.setTop (mkF m 236 #[iv pa, iv pb, iv pc, iv pd, iv xa, iv xb, iv xc, iv 3, rv ca, rv ra, rv ea1, rv ma1] [(.int 1)])) START := fun t k => pre9 t (by
    show Steps _ _ _ (T8.setTop (mkF m 209 #[iv pa, iv pb, iv pc, iv pd, iv xa, iv xb, iv xc, iv 3, rv ca, rv ra, rv ea1, rv ma1] [(.int 3), (.int 3)])) _
    refine XS.icmpNo X8.here hx rfl (hb hby at_209) rfl (flt (by decide : ¬ ((3 : Int32) < (3 : Int32)))).1 ?_
    refine XS.aload X8.here hx rfl (hb hby at_212) rfl rfl ?_
    refine XT.bipushV X8.here hx rfl (9 : Int32) (hb hby at_214) (by decide) ?_
    refine st10.trans ?_
    refine XS.iload X10.here hx rfl (hb hby at_219) rfl ?_
    show Steps _ _ _ (T10.setTop (mkF m 221 #[iv pa, iv pb, iv pc, iv pd, iv xa, iv xb, iv xc, iv 3, rv ca, rv ra, rv ea1, rv ma1] [(.int xc), (.int xc)])) _
    refine XS.icmpYes X10.here hx rfl (pc0 := 221) (pc' := 226) rfl (hb hby at_221) rfl (teq (rfl : xc = xc)).1 (by decide) (by decide) ?_
    refine XS.aload X10.here hx rfl (hb hby at_226) rfl rfl ?_
    refine XT.bipushV X10.here hx rfl (7 : Int32) (hb hby at_228) (by decide) ?_
    refine XS.iload X10.here hx rfl (hb hby at_230) rfl ?_
    refine XS.iadd X10.here hx rfl (hb hby at_232) rfl ?_
    show Steps _ _ _ (T10.setTop (mkF m 233 #[iv pa, iv pb, iv pc, iv pd, iv xa, iv xb, iv xc, iv 3, rv ca, rv ra, rv ea1, rv ma1] [(.int ((7 : Int32) + (3 : Int32))), (.ref ma1)])) _
    refine castTop (g' := (mkF m 233 #[iv pa, iv pb, iv pc, iv pd, iv xa, iv xb, iv xc, iv 3, rv ca, rv ra, rv ea1, rv ma1] [(.int 10), (.ref ma1)])) (by rw [(by decide : ((7 : Int32) + (3 : Int32)) = (10 : Int32))]) ?_
    refine st11.trans ?_
    exact k)
  obtain ⟨fs, hr, hrun, hended, hEnd⟩ := X11r.leaveW hS11r (Nat.le_refl T11.heap.size) (v := some (.int 1)) (fun h => by rw [hret] at h; cases h) (hlocks := hlk)
  refine ⟨_, _, pre12 _ ?_, hrun, hended, _, _, rfl, ⟨rfl, N11⟩, ?_, own_endW hEnd (by decide) (by decide)⟩
  · show Steps _ _ _ (T11.setTop (mkF m 236 #[iv pa, iv pb, iv pc, iv pd, iv xa, iv xb, iv xc, iv 3, rv ca, rv ra, rv ea1, rv ma1] [(.int 1)])) _
    exact retOut X11r hx hret rfl (Or.inl ⟨rfl, by simp, _, rfl⟩) (hb hby at_236) hr
  · show CHr Z consts_1 s.vm s.heap T11.vm T11.heap
    exact CHr.trans R11 (CHv.at (s := s) (vm0 := T11.vm) X11r hZ11 hEL R11.1)
theorem rm0 (l : Launch) (Z : State) (a0 : Array Value) (hw : ∀ d ∈ tables_1, d.before a0 Z = true) (ws : List Jvm.Cond) (pa : Int32) (pb : Int32) (pc : Int32) (pd : Int32) (h0 : Heap) (n0 : Nat) (Z0 : n0 ≤ h0.size) (Y0 : Old Z n0 h0) (zc : Int32) (fm : Value) (S : Sts Z Z.heap zc fm) (hl : l.stackTraces = true) (ua us : Addr) (SU : Sta Z Z.heap "java/lang/Throwable" "UNASSIGNED_STACK" "[Ljava/lang/StackTraceElement;" (.ref ua)) (SS : Sta Z Z.heap "java/lang/Throwable" "SUPPRESSED_SENTINEL" "Ljava/util/List;" (.ref us))  :
    MetFree l x (head1 (Jvm.Cond.code x code maxLocals ret :: ws) room_1) (fun a U => a = #[(.int pa), (.int pb), (.int pc), (.int pd)] ∧ Z.Warmed39 U.vm ∧ U.heap = h0 ∧ CHv Z consts_1 U.vm h0) (fun _ _ bl s _ => s.vm.MethodsKnown ∧ s.vm.FramesKnown bl) (fun _ U o U' => ∃ v L, o = .returned v ∧ Q0 h0 n0 v U'.heap L ∧ CHr Z consts_1 U.vm U.heap U'.vm U'.heap ∧ ReturnedEndW U o U' L 48 11136) := by
  refine MetFree.of_bodySF (plainFor_of_name pn_39) hisR ?_
  intro p e s m args below meth c s₁ Bd hml0 hP hK
  obtain ⟨rfl, hZ, hh, hG⟩ := hP
  have hx := Bd.exec
  have hby := Bd.bytes
  have hml : c.maxLocals = 12 := hml0
  have hown : s.vm.findClass "com/example/tidegauge/tidegauge/OptionsGivenTwicePinLaw" = some m.cls := findClass_of_methodNamed Bd.named
  have X0 : Stand p l e room_1 s m #[(.int pa), (.int pb), (.int pc), (.int pd)] below meth c s₁ [] 0 0 := Stand.of_body Bd
  have e0 : s₁.heap = h0 := by rw [← hh, Bd.state]; rfl
  have N0 := Fr.nil n0
  have pre0 : Pr p e below (s₁.setTop (mkF m 0 #[iv pa, iv pb, iv pc, iv pd, .unset, .unset, .unset, .unset, .unset, .unset, .unset, .unset] [])) (s₁.setTop (entryFrame m #[(.int pa), (.int pb), (.int pc), (.int pd)] maxLocals)) := fun t k => castTop (by first | (simp [entryFrame, mkF, argsToLocals, Value.category, maxLocals]; done) | rfl) k
  have hEL := own_EW hw
  have R0 : CHr Z consts_1 s.vm h0 s.vm h0 := CHr.refl hG
  have hws : ∀ d ∈ StrChars.Road.words, d.before a0 Z = true := fun d hd => hw d ((by decide +kernel : ∀ d ∈ StrChars.Road.words, d ∈ tables_1) d hd)
  have pre1 : Pr p e below (s₁.setTop (mkF m 5 #[iv pa, iv pb, iv pc, iv pd, .unset, .unset, .unset, .unset, .unset, .unset, .unset, .unset] [(.int ((pa &&& (65535 : Int32)).toUInt32.toUInt16.toUInt32.toInt32))])) (s₁.setTop (entryFrame m #[(.int pa), (.int pb), (.int pc), (.int pd)] maxLocals)) := fun t k => pre0 t (by
    show Steps _ _ _ (s₁.setTop (mkF m 0 #[iv pa, iv pb, iv pc, iv pd, .unset, .unset, .unset, .unset, .unset, .unset, .unset, .unset] [])) _
    refine XS.iloadN X0.here hx rfl (hb hby at_0) rfl ?_
    refine X0.ldcInt hx hown (mw hZ hw 0 rfl) (g := (mkF m 1 #[iv pa, iv pb, iv pc, iv pd, .unset, .unset, .unset, .unset, .unset, .unset, .unset, .unset] [(.int pa)])) rfl (hb hby at_1) _ ?_
    refine XS.iand X0.here hx rfl (hb hby at_3) rfl ?_
    refine XS.i2c X0.here hx rfl (hb hby at_4) rfl ?_
    exact k)
  obtain ⟨xa, e_xa⟩ : ∃ z, z = ((pa &&& (65535 : Int32)).toUInt32.toUInt16.toUInt32.toInt32) := ⟨_, rfl⟩
  rw [← e_xa] at pre1
  have h_xa : own_c16 xa := by rw [e_xa]; exact own_c16i _
  have pre2 : Pr p e below (s₁.setTop (mkF m 12 #[iv pa, iv pb, iv pc, iv pd, iv xa, .unset, .unset, .unset, .unset, .unset, .unset, .unset] [(.int ((pb &&& (65535 : Int32)).toUInt32.toUInt16.toUInt32.toInt32))])) (s₁.setTop (entryFrame m #[(.int pa), (.int pb), (.int pc), (.int pd)] maxLocals)) := fun t k => pre1 t (by
    show Steps _ _ _ (s₁.setTop (mkF m 5 #[iv pa, iv pb, iv pc, iv pd, .unset, .unset, .unset, .unset, .unset, .unset, .unset, .unset] [(.int xa)])) _
    refine XS.istore X0.here hx rfl (hb hby at_5) rfl (l' := #[iv pa, iv pb, iv pc, iv pd, iv xa, .unset, .unset, .unset, .unset, .unset, .unset, .unset]) rfl ?_
    refine XS.iloadN X0.here hx rfl (hb hby at_7) rfl ?_
    refine X0.ldcInt hx hown (mw hZ hw 0 rfl) (g := (mkF m 8 #[iv pa, iv pb, iv pc, iv pd, iv xa, .unset, .unset, .unset, .unset, .unset, .unset, .unset] [(.int pb)])) rfl (hb hby at_8) _ ?_
    refine XS.iand X0.here hx rfl (hb hby at_10) rfl ?_
    refine XS.i2c X0.here hx rfl (hb hby at_11) rfl ?_
    exact k)
  obtain ⟨xb, e_xb⟩ : ∃ z, z = ((pb &&& (65535 : Int32)).toUInt32.toUInt16.toUInt32.toInt32) := ⟨_, rfl⟩
  rw [← e_xb] at pre2
  have h_xb : own_c16 xb := by rw [e_xb]; exact own_c16i _
  have pre3 : Pr p e below (s₁.setTop (mkF m 19 #[iv pa, iv pb, iv pc, iv pd, iv xa, iv xb, .unset, .unset, .unset, .unset, .unset, .unset] [(.int ((pc &&& (65535 : Int32)).toUInt32.toUInt16.toUInt32.toInt32))])) (s₁.setTop (entryFrame m #[(.int pa), (.int pb), (.int pc), (.int pd)] maxLocals)) := fun t k => pre2 t (by
    show Steps _ _ _ (s₁.setTop (mkF m 12 #[iv pa, iv pb, iv pc, iv pd, iv xa, .unset, .unset, .unset, .unset, .unset, .unset, .unset] [(.int xb)])) _
    refine XS.istore X0.here hx rfl (hb hby at_12) rfl (l' := #[iv pa, iv pb, iv pc, iv pd, iv xa, iv xb, .unset, .unset, .unset, .unset, .unset, .unset]) rfl ?_
    refine XS.iloadN X0.here hx rfl (hb hby at_14) rfl ?_
    refine X0.ldcInt hx hown (mw hZ hw 0 rfl) (g := (mkF m 15 #[iv pa, iv pb, iv pc, iv pd, iv xa, iv xb, .unset, .unset, .unset, .unset, .unset, .unset] [(.int pc)])) rfl (hb hby at_15) _ ?_
    refine XS.iand X0.here hx rfl (hb hby at_17) rfl ?_
    refine XS.i2c X0.here hx rfl (hb hby at_18) rfl ?_
    exact k)
  obtain ⟨xc, e_xc⟩ : ∃ z, z = ((pc &&& (65535 : Int32)).toUInt32.toUInt16.toUInt32.toInt32) := ⟨_, rfl⟩
  rw [← e_xc] at pre3
  have h_xc : own_c16 xc := by rw [e_xc]; exact own_c16i _
  have pre4 : Pr p e below (s₁.setTop (mkF m 24 #[iv pa, iv pb, iv pc, iv pd, iv xa, iv xb, iv xc, .unset, .unset, .unset, .unset, .unset] [(.int (pd &&& (3 : Int32)))])) (s₁.setTop (entryFrame m #[(.int pa), (.int pb), (.int pc), (.int pd)] maxLocals)) := fun t k => pre3 t (by
    show Steps _ _ _ (s₁.setTop (mkF m 19 #[iv pa, iv pb, iv pc, iv pd, iv xa, iv xb, .unset, .unset, .unset, .unset, .unset, .unset] [(.int xc)])) _
    refine XS.istore X0.here hx rfl (hb hby at_19) rfl (l' := #[iv pa, iv pb, iv pc, iv pd, iv xa, iv xb, iv xc, .unset, .unset, .unset, .unset, .unset]) rfl ?_
    refine XS.iloadN X0.here hx rfl (hb hby at_21) rfl ?_
    refine XT.iconstV X0.here hx rfl (3 : Int32) (hb hby at_22) (by decide) ?_
    refine XS.iand X0.here hx rfl (hb hby at_23) rfl ?_
    exact k)
  rcases own_m3 pd with hm | hm | hm | hm
  · rw [hm] at pre4
    obtain ⟨T5, h5, k5, X5, e5, E5, A5, st5⟩ := newP X0 hx hZ (ww hw 1 rfl) e0 (g := (mkF m 32 #[iv pa, iv pb, iv pc, iv pd, iv xa, iv xb, iv xc, iv 0, .unset, .unset, .unset, .unset] [(.int 0)])) rfl (hb hby at_32) rfl (by decide) (cap := 0) (by decide) (by decide) (by decide) (by decide)
    obtain ⟨b5, g5⟩ : ∃ z, z = h0.size := ⟨_, rfl⟩
    rw [← g5] at A5 st5
    have Y5 := Old.ext Y0 E5
    have sz5 : h0.size ≤ h5.size := Nat.le_trans (Nat.le_refl h0.size) E5.1
    have R5 := CHr.trans R0 (CHr.ext E5 R0.1)
    have V5 : Arv Z h5 b5 k5 .char (0 : Int32) [] (.int 0) := (Arv.new A5 (by decide)).pad (pad_rep [] (.int 0) 0)
    obtain ⟨T6, h6, X6, e6, E6, A6, D6, -, st6⟩ := newO X5 hx hZ hown (ww hw 2 rfl) (ww hw 3 rfl) (ww hw 4 rfl) e5 (g := (mkF m 102 #[iv pa, iv pb, iv pc, iv pd, iv xa, iv xb, iv xc, iv 0, rv b5, .unset, .unset, .unset] [])) rfl (hb hby at_102) (by decide) (by decide)
    obtain ⟨b6, g6⟩ : ∃ z, z = h5.size := ⟨_, rfl⟩
    rw [← g6] at A6 D6 st6
    have z_b6 : h0.size ≤ b6 := Nat.le_trans sz5 (Nat.le_of_eq g6.symm)
    have g_b6 : n0 ≤ b6 := Nat.le_trans Z0 z_b6
    have V6_b5 := V5.ext E6
    have Y6 := Old.ext Y5 E6
    have R6 := CHr.trans R5 (CHr.ext E6 R5.1)
    have F6_b6_coder : Fld Z h6 b6 "java/lang/String" "coder" "B" (.int 0) := D6 (Or.inr (ww hw 28 rfl)) (ty := .byte) (by decide)
    have F6_b6_value : Fld Z h6 b6 "java/lang/String" "value" "[B" .null := D6 (Or.inr (ww hw 30 rfl)) (ty := (.array .byte)) (by decide)
    obtain ⟨_, vq7, ⟨T7, L7, k7, n7⟩, hm7, X7, hS7, hg7, ⟨Lc7, hQ7, l7, y7, z7, hC7⟩, st7⟩ := X6.specialBackS hx (y := mN48) rfl hown (mw hZ hw 5 rfl) (mw hZ hw 6 rfl) (mw hZ hw 7 rfl) (by decide) (backOfSH (W := 1) (s := s) (vm0 := s.vm) (rm_eB l Z a0 hw [] b6 b5 h6 n0 (own_old0 Y6) Y6 zc fm S A6 F6_b6_value F6_b6_coder g_b6 k5 V6_b5) hZ (ww hw 7 rfl) (ww hw 4 rfl) (by decide) (by decide) hEL R6.1) (g := (mkF m 108 #[iv pa, iv pb, iv pc, iv pd, iv xa, iv xb, iv xc, iv 0, rv b5, .unset, .unset, .unset] [(.ref b5), (.ref b6), (.ref b6)])) rfl (by rw [hml]; rfl) (Steps.refl _) (a := b6) (argsL := [(.ref b5)]) (rest := [(.ref b6)]) (lenOf pd_37 rfl) rfl own_z (hb hby at_108) (fun _ _ => ⟨rfl, e6, (by decide : 2 + 2 ≤ _), (by decide : 4 + 4 ≤ _)⟩)
    dsimp only [Pt.U, Pt.locs, Pt.cells, Pt.slots] at X7 hS7 hg7 l7 y7 z7 st7 hQ7 hC7
    rw [y7, z7] at X7
    have hZ7 : Z.Warmed39 (s.setVm T7.vm).vm := State.Warmed39.trans hZ hS7.1
    have hown7 : (s.setVm T7.vm).vm.findClass "com/example/tidegauge/tidegauge/OptionsGivenTwicePinLaw" = some m.cls := (hS7.1.alike.findClass _ _).trans hown
    obtain ⟨u7, ku7, rfl, N7q, Kc7, Tc7⟩ := hQ7
    have N7 := own_fr l7 N0 N7q
    have R7 := CHr.trans R6 hC7
    have Y7 := Old.keep Y6 Kc7 (allS g_b6 all0)
    have M7n : TM Z T7.heap b6 [] := ⟨_, _, _, _, _, Tc7, Or.inl ⟨rfl, rfl, rfl, own_all0⟩, by decide⟩
    have pre8 : Pr p e below (T7.setTop (mkF m 111 #[iv pa, iv pb, iv pc, iv pd, iv xa, iv xb, iv xc, iv 0, rv b5, .unset, .unset, .unset] [(.ref b6)])) (s₁.setTop (entryFrame m #[(.int pa), (.int pb), (.int pc), (.int pd)] maxLocals)) := fun t k => pre4 t (by
      show Steps _ _ _ (s₁.setTop (mkF m 24 #[iv pa, iv pb, iv pc, iv pd, iv xa, iv xb, iv xc, .unset, .unset, .unset, .unset, .unset] [(.int 0)])) _
      refine XS.istore X0.here hx rfl (hb hby at_24) rfl (l' := #[iv pa, iv pb, iv pc, iv pd, iv xa, iv xb, iv xc, iv 0, .unset, .unset, .unset, .unset]) rfl ?_
      refine XS.iload X0.here hx rfl (hb hby at_26) rfl ?_
      show Steps _ _ _ (s₁.setTop (mkF m 28 #[iv pa, iv pb, iv pc, iv pd, iv xa, iv xb, iv xc, iv 0, .unset, .unset, .unset, .unset] [(.int 0)])) _
      refine XS.ifNo X0.here hx rfl (hb hby at_28) rfl ((if0 _ _).trans (teq (by decide : ((0 : Int32) = (0 : Int32)))).2) ?_
      refine XT.iconstV X0.here hx rfl (0 : Int32) (hb hby at_31) (by decide) ?_
      refine st5 _ ?_
      refine XS.astore X5.here hx rfl (hb hby at_34) rfl rfl (l' := #[iv pa, iv pb, iv pc, iv pd, iv xa, iv xb, iv xc, iv 0, rv b5, .unset, .unset, .unset]) rfl ?_
      refine XS.goto X5.here hx rfl (pc0 := 36) (pc' := 102) rfl (hb hby at_36) (by decide) (by decide) ?_
      refine st6 _ ?_
      refine XS.dup X6.here hx rfl (hb hby at_105) rfl rfl ?_
      refine XS.aload X6.here hx rfl (hb hby at_106) rfl rfl ?_
      refine st7.trans ?_
      exact k)
    refine own_t0 (s := s) (vm0 := T7.vm) Z a0 hw pa pb pc pd xa xb xc b5 b6 T7.heap n0 (own_old0 Y7) Y7 zc fm S hl ua us SU SS (X7.more (by decide) (by decide)) hx hby hml Bd.returns Bd.notSynchronized hZ7 hown7 hS7 (Nat.le_refl T7.heap.size) hK rfl N7 (by rw [hh]; exact R7) M7n pre8
  · rw [hm] at pre4
    obtain ⟨T9, h9, k9, X9, e9, E9, A9, st9⟩ := newP X0 hx hZ (ww hw 1 rfl) e0 (g := (mkF m 46 #[iv pa, iv pb, iv pc, iv pd, iv xa, iv xb, iv xc, iv 1, .unset, .unset, .unset, .unset] [(.int 1)])) rfl (hb hby at_46) rfl (by decide) (cap := 1) (by decide) (by decide) (by decide) (by decide)
    obtain ⟨b9, g9⟩ : ∃ z, z = h0.size := ⟨_, rfl⟩
    rw [← g9] at A9 st9
    have z_b9 : h0.size ≤ b9 := Nat.le_trans (Nat.le_refl h0.size) (Nat.le_of_eq g9.symm)
    have g_b9 : n0 ≤ b9 := Nat.le_trans Z0 z_b9
    have sf_b9 : Safe Z consts_1 _ _ b9 := Safe.new (vm := s.vm) (h := h0) (Nat.le_of_eq g9.symm)
    have Y9 := Old.ext Y0 E9
    have sz9 : h0.size ≤ h9.size := Nat.le_trans (Nat.le_refl h0.size) E9.1
    have sf9_b9 := Safe.ext E9 R0.1 sf_b9
    have R9 := CHr.trans R0 (CHr.ext E9 R0.1)
    have V9 : Arv Z h9 b9 k9 .char (1 : Int32) [(.int 0)] (.int 0) := (Arv.new A9 (by decide)).pad (pad_rep [] (.int 0) 1)
    obtain ⟨cl10, Ar10, q10, S10, n10', H10, G10⟩ := id V9
    have hin10 : ¬ ((0 : Int32) < 0 ∨ cl10.slots.size ≤ ((0 : Int32)).toNatClampNeg) := inb_of S10 ⟨by decide, by decide⟩
    obtain ⟨T10, h10, X10, e10, W10, st10⟩ := stC X9 hx hZ e9 Ar10 (j := (0 : Int32)) hin10 (g := (mkF m 52 #[iv pa, iv pb, iv pc, iv pd, iv xa, iv xb, iv xc, iv 1, .unset, .unset, .unset, .unset] [(.int xa), (.int 0), (.ref b9), (.ref b9)])) rfl rfl (hb hby at_52)
    rw [own_nar16 h_xa] at W10
    have V10 : Arv Z h10 b9 k9 .char (1 : Int32) [(.int xa)] (.int 0) := Arv.set Ar10 q10 S10 n10' H10 G10 (own_fit16 h_xa) W10 0 rfl (Nat.le_of_ble_eq_true rfl)
    have Y10 := Old.wr Y9 W10 g_b9
    have sz10 : h0.size ≤ h10.size := by rw [W10.size]; exact sz9
    have R10 := CHr.trans R9 (CHr.wr W10 sf9_b9 R9.1)
    have N10 := Fr.snoc X10 N0 g_b9
    have pre11 : Pr p e below (T10.setTop (mkF m 55 #[iv pa, iv pb, iv pc, iv pd, iv xa, iv xb, iv xc, iv 1, rv b9, .unset, .unset, .unset] [])) (s₁.setTop (entryFrame m #[(.int pa), (.int pb), (.int pc), (.int pd)] maxLocals)) := fun t k => pre4 t (by
      show Steps _ _ _ (s₁.setTop (mkF m 24 #[iv pa, iv pb, iv pc, iv pd, iv xa, iv xb, iv xc, .unset, .unset, .unset, .unset, .unset] [(.int 1)])) _
      refine XS.istore X0.here hx rfl (hb hby at_24) rfl (l' := #[iv pa, iv pb, iv pc, iv pd, iv xa, iv xb, iv xc, iv 1, .unset, .unset, .unset, .unset]) rfl ?_
      refine XS.iload X0.here hx rfl (hb hby at_26) rfl ?_
      show Steps _ _ _ (s₁.setTop (mkF m 28 #[iv pa, iv pb, iv pc, iv pd, iv xa, iv xb, iv xc, iv 1, .unset, .unset, .unset, .unset] [(.int 1)])) _
      refine XS.ifYes X0.here hx rfl (pc0 := 28) (pc' := 39) rfl (hb hby at_28) rfl ((if0 _ _).trans (feq (by decide : ¬ ((1 : Int32) = (0 : Int32)))).2) (by decide) (by decide) ?_
      refine XS.iload X0.here hx rfl (hb hby at_39) rfl ?_
      refine XT.iconstV X0.here hx rfl (1 : Int32) (hb hby at_41) (by decide) ?_
      show Steps _ _ _ (s₁.setTop (mkF m 42 #[iv pa, iv pb, iv pc, iv pd, iv xa, iv xb, iv xc, iv 1, .unset, .unset, .unset, .unset] [(.int 1), (.int 1)])) _
      refine XS.icmpNo X0.here hx rfl (hb hby at_42) rfl (teq (by decide : ((1 : Int32) = (1 : Int32)))).2 ?_
      refine XT.iconstV X0.here hx rfl (1 : Int32) (hb hby at_45) (by decide) ?_
      refine st9 _ ?_
      refine XS.dup X9.here hx rfl (hb hby at_48) rfl rfl ?_
      refine XT.iconstV X9.here hx rfl (0 : Int32) (hb hby at_49) (by decide) ?_
      refine XS.iload X9.here hx rfl (hb hby at_50) rfl ?_
      refine st10 _ ?_
      refine XS.astore X10.here hx rfl (hb hby at_53) rfl rfl (l' := #[iv pa, iv pb, iv pc, iv pd, iv xa, iv xb, iv xc, iv 1, rv b9, .unset, .unset, .unset]) rfl ?_
      exact k)
    obtain ⟨T12, h12, X12, e12, E12, A12, D12, -, st12⟩ := newO X10 hx hZ hown (ww hw 2 rfl) (ww hw 3 rfl) (ww hw 4 rfl) e10 (g := (mkF m 102 #[iv pa, iv pb, iv pc, iv pd, iv xa, iv xb, iv xc, iv 1, rv b9, .unset, .unset, .unset] [])) rfl (hb hby at_102) (by decide) (by decide)
    obtain ⟨b12, g12⟩ : ∃ z, z = h10.size := ⟨_, rfl⟩
    rw [← g12] at A12 D12 st12
    have z_b12 : h0.size ≤ b12 := Nat.le_trans sz10 (Nat.le_of_eq g12.symm)
    have g_b12 : n0 ≤ b12 := Nat.le_trans Z0 z_b12
    have sf_b12 : Safe Z consts_1 _ _ b12 := Safe.new (vm := s.vm) (h := h10) (Nat.le_of_eq g12.symm)
    have V12_b9 := V10.ext E12
    have Y12 := Old.ext Y10 E12
    have sf12_b12 := Safe.ext E12 R10.1 sf_b12
    have R12 := CHr.trans R10 (CHr.ext E12 R10.1)
    have F12_b12_coder : Fld Z h12 b12 "java/lang/String" "coder" "B" (.int 0) := D12 (Or.inr (ww hw 28 rfl)) (ty := .byte) (by decide)
    have F12_b12_value : Fld Z h12 b12 "java/lang/String" "value" "[B" .null := D12 (Or.inr (ww hw 30 rfl)) (ty := (.array .byte)) (by decide)
    have pre13 : Pr p e below (T12.setTop (mkF m 108 #[iv pa, iv pb, iv pc, iv pd, iv xa, iv xb, iv xc, iv 1, rv b9, .unset, .unset, .unset] [(.ref b9), (.ref b12), (.ref b12)])) (s₁.setTop (entryFrame m #[(.int pa), (.int pb), (.int pc), (.int pd)] maxLocals)) := fun t k => pre11 t (by
      show Steps _ _ _ (T10.setTop (mkF m 55 #[iv pa, iv pb, iv pc, iv pd, iv xa, iv xb, iv xc, iv 1, rv b9, .unset, .unset, .unset] [])) _
      refine XS.goto X10.here hx rfl (pc0 := 55) (pc' := 102) rfl (hb hby at_55) (by decide) (by decide) ?_
      refine st12 _ ?_
      refine XS.dup X12.here hx rfl (hb hby at_105) rfl rfl ?_
      refine XS.aload X12.here hx rfl (hb hby at_106) rfl rfl ?_
      exact k)
    rcases own_sp1 xa with hq | hq
    · have _ := 0
      obtain ⟨_, _, ⟨T14, L14, k14, n14⟩, -, X14, ⟨Lc14, hQ14, l14, y14, z14⟩, st14⟩ := X12.specialBack hx (y := mN48) rfl hown (mw hZ hw 5 rfl) (mw hZ hw 6 rfl) (mw hZ hw 7 rfl) (by decide) (backOf (W := 1) (rm_nw l Z a0 hw [] b12 b9 h12 n0 (own_old0 Y12) Y12 zc fm S (1 : Int32) A12 F12_b12_value F12_b12_coder g_b12 k9 _ V12_b9 (2 : Int32) [xa] 1 (by decide) rfl rfl (by decide) (own_vc [xa]) (by decide) (by decide) (by decide) 0 (by decide) (fun i hi => absurd hi (Nat.not_lt_zero i)) hq h_xa rfl rfl (-1 : Int32) (by decide) (by decide) (by decide)) hZ (ww hw 7 rfl) (ww hw 4 rfl) (by decide) (by decide)) (g := (mkF m 108 #[iv pa, iv pb, iv pc, iv pd, iv xa, iv xb, iv xc, iv 1, rv b9, .unset, .unset, .unset] [(.ref b9), (.ref b12), (.ref b12)])) rfl (by rw [hml]; rfl) (Steps.refl _) (a := b12) (argsL := [(.ref b9)]) (rest := [(.ref b12)]) (lenOf pd_37 rfl) rfl own_z (hb hby at_108) (fun _ _ => ⟨rfl, e12, (by decide : 2 + 2 ≤ _), (by decide : 5 + 35 ≤ _)⟩)
      dsimp only [Pt.U, Pt.locs, Pt.cells, Pt.slots] at X14 l14 y14 z14 st14 hQ14
      rw [y14, z14] at X14
      obtain ⟨u14, ku14, rfl, N14q, Kc14, zz14, Tc14⟩ := hQ14
      have N14 := own_fr l14 N10 N14q
      have Y14 := Old.keep Y12 Kc14 (allS g_b12 all0)
      have R14 := CHr.trans R12 (CHr.keep Kc14 (allS sf12_b12 all0) R12.1)
      have M14n : TM Z T14.heap b12 [xa] := ⟨_, _, _, _, _, Tc14, Or.inr ⟨rfl, rfl, rfl, (own_allc h_xa own_all0)⟩, (show 1 ≤ 32 from by decide)⟩
      have pre15 : Pr p e below (T14.setTop (mkF m 111 #[iv pa, iv pb, iv pc, iv pd, iv xa, iv xb, iv xc, iv 1, rv b9, .unset, .unset, .unset] [(.ref b12)])) (s₁.setTop (entryFrame m #[(.int pa), (.int pb), (.int pc), (.int pd)] maxLocals)) := fun t k => pre13 t (by
        show Steps _ _ _ (T12.setTop (mkF m 108 #[iv pa, iv pb, iv pc, iv pd, iv xa, iv xb, iv xc, iv 1, rv b9, .unset, .unset, .unset] [(.ref b9), (.ref b12), (.ref b12)])) _
        refine st14.trans ?_
        exact k)
      refine own_t1 (s := s) (vm0 := s.vm) Z a0 hw pa pb pc pd xa xb xc b9 b12 T14.heap n0 (own_old0 Y14) Y14 zc fm S hl ua us SU SS (X14.more (by decide) (by decide)) hx hby hml Bd.returns Bd.notSynchronized hZ hown ((State.WarmedH.refl s).since T14.heap.size) (Nat.le_refl _) hK rfl N14 (by rw [hh]; exact R14) M14n pre15
    · have _ := 0
      obtain ⟨_, _, ⟨T16, L16, k16, n16⟩, -, X16, ⟨Lc16, hQ16, l16, y16, z16⟩, st16⟩ := X12.specialBack hx (y := mN48) rfl hown (mw hZ hw 5 rfl) (mw hZ hw 6 rfl) (mw hZ hw 7 rfl) (by decide) (StrChars.Road.backV (W := 1) hZ hws (kI := 4) (ww hw 3 rfl) (x := b12) (b := b9) (cs := [xa]) (bs := [xa.toInt8.toInt32]) (n := 1) (n0 := n0) g_b12 (own_old0 Y12) A12 F12_b12_value F12_b12_coder V12_b9 (S.1.ext Y12.2) S.2.2.2.2.2.1 rfl rfl (by decide) (by decide) (own_allc (own_chof h_xa hq) own_all0) rfl (by decide) (by decide)) (g := (mkF m 108 #[iv pa, iv pb, iv pc, iv pd, iv xa, iv xb, iv xc, iv 1, rv b9, .unset, .unset, .unset] [(.ref b9), (.ref b12), (.ref b12)])) rfl (by rw [hml]; rfl) (Steps.refl _) (a := b12) (argsL := [(.ref b9)]) (rest := [(.ref b12)]) (lenOf pd_37 rfl) rfl own_z (hb hby at_108) (fun _ _ => ⟨rfl, e12, (by decide : 2 + 1 ≤ _), (by decide : 5 + 1 ≤ _)⟩)
      dsimp only [Pt.U, Pt.locs, Pt.cells, Pt.slots] at X16 l16 y16 z16 st16 hQ16
      rw [y16, z16] at X16
      obtain ⟨rfl, N16q, Kc16, Ec16, Cc16, t16, kt16, _, _, _, Vc16, Ac16⟩ := hQ16
      have N16 := own_fr l16 N10 N16q
      have Y16 := Old.keep Y12 Kc16 (allS g_b12 all0)
      have R16 := CHr.trans R12 (CHr.keep Kc16 (allS sf12_b12 all0) R12.1)
      have M16n : TM Z T16.heap b12 [xa] := ⟨t16, kt16, _, _, _, ⟨Ec16, Cc16, Vc16, Ac16⟩, Or.inl ⟨rfl, rfl, rfl, (own_allc (own_chof h_xa hq) own_all0)⟩, (show 1 ≤ 32 from by decide)⟩
      have pre17 : Pr p e below (T16.setTop (mkF m 111 #[iv pa, iv pb, iv pc, iv pd, iv xa, iv xb, iv xc, iv 1, rv b9, .unset, .unset, .unset] [(.ref b12)])) (s₁.setTop (entryFrame m #[(.int pa), (.int pb), (.int pc), (.int pd)] maxLocals)) := fun t k => pre13 t (by
        show Steps _ _ _ (T12.setTop (mkF m 108 #[iv pa, iv pb, iv pc, iv pd, iv xa, iv xb, iv xc, iv 1, rv b9, .unset, .unset, .unset] [(.ref b9), (.ref b12), (.ref b12)])) _
        refine st16.trans ?_
        exact k)
      refine own_t1 (s := s) (vm0 := s.vm) Z a0 hw pa pb pc pd xa xb xc b9 b12 T16.heap n0 (own_old0 Y16) Y16 zc fm S hl ua us SU SS (X16.more (by decide) (by decide)) hx hby hml Bd.returns Bd.notSynchronized hZ hown ((State.WarmedH.refl s).since T16.heap.size) (Nat.le_refl _) hK rfl N16 (by rw [hh]; exact R16) M16n pre17
  · rw [hm] at pre4
    obtain ⟨T18, h18, k18, X18, e18, E18, A18, st18⟩ := newP X0 hx hZ (ww hw 1 rfl) e0 (g := (mkF m 65 #[iv pa, iv pb, iv pc, iv pd, iv xa, iv xb, iv xc, iv 2, .unset, .unset, .unset, .unset] [(.int 2)])) rfl (hb hby at_65) rfl (by decide) (cap := 2) (by decide) (by decide) (by decide) (by decide)
    obtain ⟨b18, g18⟩ : ∃ z, z = h0.size := ⟨_, rfl⟩
    rw [← g18] at A18 st18
    have z_b18 : h0.size ≤ b18 := Nat.le_trans (Nat.le_refl h0.size) (Nat.le_of_eq g18.symm)
    have g_b18 : n0 ≤ b18 := Nat.le_trans Z0 z_b18
    have sf_b18 : Safe Z consts_1 _ _ b18 := Safe.new (vm := s.vm) (h := h0) (Nat.le_of_eq g18.symm)
    have Y18 := Old.ext Y0 E18
    have sz18 : h0.size ≤ h18.size := Nat.le_trans (Nat.le_refl h0.size) E18.1
    have sf18_b18 := Safe.ext E18 R0.1 sf_b18
    have R18 := CHr.trans R0 (CHr.ext E18 R0.1)
    have V18 : Arv Z h18 b18 k18 .char (2 : Int32) [(.int 0), (.int 0)] (.int 0) := (Arv.new A18 (by decide)).pad (pad_rep [] (.int 0) 2)
    have pre19 : Pr p e below (T18.setTop (mkF m 69 #[iv pa, iv pb, iv pc, iv pd, iv xa, iv xb, iv xc, iv 2, .unset, .unset, .unset, .unset] [(.int 0), (.ref b18), (.ref b18)])) (s₁.setTop (entryFrame m #[(.int pa), (.int pb), (.int pc), (.int pd)] maxLocals)) := fun t k => pre4 t (by
      show Steps _ _ _ (s₁.setTop (mkF m 24 #[iv pa, iv pb, iv pc, iv pd, iv xa, iv xb, iv xc, .unset, .unset, .unset, .unset, .unset] [(.int 2)])) _
      refine XS.istore X0.here hx rfl (hb hby at_24) rfl (l' := #[iv pa, iv pb, iv pc, iv pd, iv xa, iv xb, iv xc, iv 2, .unset, .unset, .unset, .unset]) rfl ?_
      refine XS.iload X0.here hx rfl (hb hby at_26) rfl ?_
      show Steps _ _ _ (s₁.setTop (mkF m 28 #[iv pa, iv pb, iv pc, iv pd, iv xa, iv xb, iv xc, iv 2, .unset, .unset, .unset, .unset] [(.int 2)])) _
      refine XS.ifYes X0.here hx rfl (pc0 := 28) (pc' := 39) rfl (hb hby at_28) rfl ((if0 _ _).trans (feq (by decide : ¬ ((2 : Int32) = (0 : Int32)))).2) (by decide) (by decide) ?_
      refine XS.iload X0.here hx rfl (hb hby at_39) rfl ?_
      refine XT.iconstV X0.here hx rfl (1 : Int32) (hb hby at_41) (by decide) ?_
      show Steps _ _ _ (s₁.setTop (mkF m 42 #[iv pa, iv pb, iv pc, iv pd, iv xa, iv xb, iv xc, iv 2, .unset, .unset, .unset, .unset] [(.int 1), (.int 2)])) _
      refine XS.icmpYes X0.here hx rfl (pc0 := 42) (pc' := 58) rfl (hb hby at_42) rfl (feq (by decide : ¬ ((2 : Int32) = (1 : Int32)))).2 (by decide) (by decide) ?_
      refine XS.iload X0.here hx rfl (hb hby at_58) rfl ?_
      refine XT.iconstV X0.here hx rfl (2 : Int32) (hb hby at_60) (by decide) ?_
      show Steps _ _ _ (s₁.setTop (mkF m 61 #[iv pa, iv pb, iv pc, iv pd, iv xa, iv xb, iv xc, iv 2, .unset, .unset, .unset, .unset] [(.int 2), (.int 2)])) _
      refine XS.icmpNo X0.here hx rfl (hb hby at_61) rfl (teq (by decide : ((2 : Int32) = (2 : Int32)))).2 ?_
      refine XT.iconstV X0.here hx rfl (2 : Int32) (hb hby at_64) (by decide) ?_
      refine st18 _ ?_
      refine XS.dup X18.here hx rfl (hb hby at_67) rfl rfl ?_
      refine XT.iconstV X18.here hx rfl (0 : Int32) (hb hby at_68) (by decide) ?_
      exact k)
    obtain ⟨cl20, Ar20, q20, S20, n20', H20, G20⟩ := id V18
    have hin20 : ¬ ((0 : Int32) < 0 ∨ cl20.slots.size ≤ ((0 : Int32)).toNatClampNeg) := inb_of S20 ⟨by decide, by decide⟩
    obtain ⟨T20, h20, X20, e20, W20, st20⟩ := stC X18 hx hZ e18 Ar20 (j := (0 : Int32)) hin20 (g := (mkF m 71 #[iv pa, iv pb, iv pc, iv pd, iv xa, iv xb, iv xc, iv 2, .unset, .unset, .unset, .unset] [(.int xa), (.int 0), (.ref b18), (.ref b18)])) rfl rfl (hb hby at_71)
    rw [own_nar16 h_xa] at W20
    have V20 : Arv Z h20 b18 k18 .char (2 : Int32) [(.int xa), (.int 0)] (.int 0) := Arv.set Ar20 q20 S20 n20' H20 G20 (own_fit16 h_xa) W20 0 rfl (Nat.le_of_ble_eq_true rfl)
    have Y20 := Old.wr Y18 W20 g_b18
    have sz20 : h0.size ≤ h20.size := by rw [W20.size]; exact sz18
    have sf20_b18 := Safe.wr W20 sf18_b18 R18.1 sf18_b18
    have R20 := CHr.trans R18 (CHr.wr W20 sf18_b18 R18.1)
    have N20 := Fr.snoc X20 N0 g_b18
    obtain ⟨cl21, Ar21, q21, S21, n21', H21, G21⟩ := id V20
    have hin21 : ¬ ((1 : Int32) < 0 ∨ cl21.slots.size ≤ ((1 : Int32)).toNatClampNeg) := inb_of S21 ⟨by decide, by decide⟩
    obtain ⟨T21, h21, X21, e21, W21, st21⟩ := stC X20 hx hZ e20 Ar21 (j := (1 : Int32)) hin21 (g := (mkF m 76 #[iv pa, iv pb, iv pc, iv pd, iv xa, iv xb, iv xc, iv 2, .unset, .unset, .unset, .unset] [(.int xb), (.int 1), (.ref b18), (.ref b18)])) rfl rfl (hb hby at_76)
    rw [own_nar16 h_xb] at W21
    have V21 : Arv Z h21 b18 k18 .char (2 : Int32) [(.int xa), (.int xb)] (.int 0) := Arv.set Ar21 q21 S21 n21' H21 G21 (own_fit16 h_xb) W21 1 rfl (Nat.le_of_ble_eq_true rfl)
    have Y21 := Old.wr Y20 W21 g_b18
    have sz21 : h0.size ≤ h21.size := by rw [W21.size]; exact sz20
    have R21 := CHr.trans R20 (CHr.wr W21 sf20_b18 R20.1)
    have N21 := Fr.snoc X21 N20 g_b18
    obtain ⟨T22, h22, X22, e22, E22, A22, D22, -, st22⟩ := newO X21 hx hZ hown (ww hw 2 rfl) (ww hw 3 rfl) (ww hw 4 rfl) e21 (g := (mkF m 102 #[iv pa, iv pb, iv pc, iv pd, iv xa, iv xb, iv xc, iv 2, rv b18, .unset, .unset, .unset] [])) rfl (hb hby at_102) (by decide) (by decide)
    obtain ⟨b22, g22⟩ : ∃ z, z = h21.size := ⟨_, rfl⟩
    rw [← g22] at A22 D22 st22
    have z_b22 : h0.size ≤ b22 := Nat.le_trans sz21 (Nat.le_of_eq g22.symm)
    have g_b22 : n0 ≤ b22 := Nat.le_trans Z0 z_b22
    have sf_b22 : Safe Z consts_1 _ _ b22 := Safe.new (vm := s.vm) (h := h21) (Nat.le_of_eq g22.symm)
    have V22_b18 := V21.ext E22
    have Y22 := Old.ext Y21 E22
    have sf22_b22 := Safe.ext E22 R21.1 sf_b22
    have R22 := CHr.trans R21 (CHr.ext E22 R21.1)
    have F22_b22_coder : Fld Z h22 b22 "java/lang/String" "coder" "B" (.int 0) := D22 (Or.inr (ww hw 28 rfl)) (ty := .byte) (by decide)
    have F22_b22_value : Fld Z h22 b22 "java/lang/String" "value" "[B" .null := D22 (Or.inr (ww hw 30 rfl)) (ty := (.array .byte)) (by decide)
    have pre23 : Pr p e below (T22.setTop (mkF m 108 #[iv pa, iv pb, iv pc, iv pd, iv xa, iv xb, iv xc, iv 2, rv b18, .unset, .unset, .unset] [(.ref b18), (.ref b22), (.ref b22)])) (s₁.setTop (entryFrame m #[(.int pa), (.int pb), (.int pc), (.int pd)] maxLocals)) := fun t k => pre19 t (by
      show Steps _ _ _ (T18.setTop (mkF m 69 #[iv pa, iv pb, iv pc, iv pd, iv xa, iv xb, iv xc, iv 2, .unset, .unset, .unset, .unset] [(.int 0), (.ref b18), (.ref b18)])) _
      refine XS.iload X18.here hx rfl (hb hby at_69) rfl ?_
      refine st20 _ ?_
      refine XS.dup X20.here hx rfl (hb hby at_72) rfl rfl ?_
      refine XT.iconstV X20.here hx rfl (1 : Int32) (hb hby at_73) (by decide) ?_
      refine XS.iload X20.here hx rfl (hb hby at_74) rfl ?_
      refine st21 _ ?_
      refine XS.astore X21.here hx rfl (hb hby at_77) rfl rfl (l' := #[iv pa, iv pb, iv pc, iv pd, iv xa, iv xb, iv xc, iv 2, rv b18, .unset, .unset, .unset]) rfl ?_
      refine XS.goto X21.here hx rfl (pc0 := 79) (pc' := 102) rfl (hb hby at_79) (by decide) (by decide) ?_
      refine st22 _ ?_
      refine XS.dup X22.here hx rfl (hb hby at_105) rfl rfl ?_
      refine XS.aload X22.here hx rfl (hb hby at_106) rfl rfl ?_
      exact k)
    rcases own_sp2 xa xb with hq | hq | hq
    · have _ := 0
      obtain ⟨_, _, ⟨T24, L24, k24, n24⟩, -, X24, ⟨Lc24, hQ24, l24, y24, z24⟩, st24⟩ := X22.specialBack hx (y := mN48) rfl hown (mw hZ hw 5 rfl) (mw hZ hw 6 rfl) (mw hZ hw 7 rfl) (by decide) (backOf (W := 1) (rm_nw l Z a0 hw [] b22 b18 h22 n0 (own_old0 Y22) Y22 zc fm S (2 : Int32) A22 F22_b22_value F22_b22_coder g_b22 k18 _ V22_b18 (4 : Int32) [xa, xb] 2 (by decide) rfl rfl (by decide) (own_vc [xa, xb]) (by decide) (by decide) (by decide) 0 (by decide) (fun i hi => absurd hi (Nat.not_lt_zero i)) hq h_xa rfl rfl (-2 : Int32) (by decide) (by decide) (by decide)) hZ (ww hw 7 rfl) (ww hw 4 rfl) (by decide) (by decide)) (g := (mkF m 108 #[iv pa, iv pb, iv pc, iv pd, iv xa, iv xb, iv xc, iv 2, rv b18, .unset, .unset, .unset] [(.ref b18), (.ref b22), (.ref b22)])) rfl (by rw [hml]; rfl) (Steps.refl _) (a := b22) (argsL := [(.ref b18)]) (rest := [(.ref b22)]) (lenOf pd_37 rfl) rfl own_z (hb hby at_108) (fun _ _ => ⟨rfl, e22, (by decide : 2 + 2 ≤ _), (by decide : 6 + 35 ≤ _)⟩)
      dsimp only [Pt.U, Pt.locs, Pt.cells, Pt.slots] at X24 l24 y24 z24 st24 hQ24
      rw [y24, z24] at X24
      obtain ⟨u24, ku24, rfl, N24q, Kc24, zz24, Tc24⟩ := hQ24
      have N24 := own_fr l24 N21 N24q
      have Y24 := Old.keep Y22 Kc24 (allS g_b22 all0)
      have R24 := CHr.trans R22 (CHr.keep Kc24 (allS sf22_b22 all0) R22.1)
      have M24n : TM Z T24.heap b22 [xa, xb] := ⟨_, _, _, _, _, Tc24, Or.inr ⟨rfl, rfl, rfl, (own_allc h_xa (own_allc h_xb own_all0))⟩, (show 2 ≤ 32 from by decide)⟩
      have pre25 : Pr p e below (T24.setTop (mkF m 111 #[iv pa, iv pb, iv pc, iv pd, iv xa, iv xb, iv xc, iv 2, rv b18, .unset, .unset, .unset] [(.ref b22)])) (s₁.setTop (entryFrame m #[(.int pa), (.int pb), (.int pc), (.int pd)] maxLocals)) := fun t k => pre23 t (by
        show Steps _ _ _ (T22.setTop (mkF m 108 #[iv pa, iv pb, iv pc, iv pd, iv xa, iv xb, iv xc, iv 2, rv b18, .unset, .unset, .unset] [(.ref b18), (.ref b22), (.ref b22)])) _
        refine st24.trans ?_
        exact k)
      refine own_t2 (s := s) (vm0 := s.vm) Z a0 hw pa pb pc pd xa xb xc b18 b22 T24.heap n0 (own_old0 Y24) Y24 zc fm S hl ua us SU SS (X24.more (by decide) (by decide)) hx hby hml Bd.returns Bd.notSynchronized hZ hown ((State.WarmedH.refl s).since T24.heap.size) (Nat.le_refl _) hK rfl N24 (by rw [hh]; exact R24) M24n pre25
    · have _ := 0
      obtain ⟨_, _, ⟨T26, L26, k26, n26⟩, -, X26, ⟨Lc26, hQ26, l26, y26, z26⟩, st26⟩ := X22.specialBack hx (y := mN48) rfl hown (mw hZ hw 5 rfl) (mw hZ hw 6 rfl) (mw hZ hw 7 rfl) (by decide) (backOf (W := 1) (rm_nw l Z a0 hw [] b22 b18 h22 n0 (own_old0 Y22) Y22 zc fm S (2 : Int32) A22 F22_b22_value F22_b22_coder g_b22 k18 _ V22_b18 (4 : Int32) [xa, xb] 2 (by decide) rfl rfl (by decide) (own_vc [xa, xb]) (by decide) (by decide) (by decide) 1 (by decide) (fun i hi => match i, hi with | 0, _ => hq.1 | k + 1, h => absurd h (by omega)) hq.2 h_xb rfl rfl (-2 : Int32) (by decide) (by decide) (by decide)) hZ (ww hw 7 rfl) (ww hw 4 rfl) (by decide) (by decide)) (g := (mkF m 108 #[iv pa, iv pb, iv pc, iv pd, iv xa, iv xb, iv xc, iv 2, rv b18, .unset, .unset, .unset] [(.ref b18), (.ref b22), (.ref b22)])) rfl (by rw [hml]; rfl) (Steps.refl _) (a := b22) (argsL := [(.ref b18)]) (rest := [(.ref b22)]) (lenOf pd_37 rfl) rfl own_z (hb hby at_108) (fun _ _ => ⟨rfl, e22, (by decide : 2 + 2 ≤ _), (by decide : 6 + 35 ≤ _)⟩)
      dsimp only [Pt.U, Pt.locs, Pt.cells, Pt.slots] at X26 l26 y26 z26 st26 hQ26
      rw [y26, z26] at X26
      obtain ⟨u26, ku26, rfl, N26q, Kc26, zz26, Tc26⟩ := hQ26
      have N26 := own_fr l26 N21 N26q
      have Y26 := Old.keep Y22 Kc26 (allS g_b22 all0)
      have R26 := CHr.trans R22 (CHr.keep Kc26 (allS sf22_b22 all0) R22.1)
      have M26n : TM Z T26.heap b22 [xa, xb] := ⟨_, _, _, _, _, Tc26, Or.inr ⟨rfl, rfl, rfl, (own_allc h_xa (own_allc h_xb own_all0))⟩, (show 2 ≤ 32 from by decide)⟩
      have pre27 : Pr p e below (T26.setTop (mkF m 111 #[iv pa, iv pb, iv pc, iv pd, iv xa, iv xb, iv xc, iv 2, rv b18, .unset, .unset, .unset] [(.ref b22)])) (s₁.setTop (entryFrame m #[(.int pa), (.int pb), (.int pc), (.int pd)] maxLocals)) := fun t k => pre23 t (by
        show Steps _ _ _ (T22.setTop (mkF m 108 #[iv pa, iv pb, iv pc, iv pd, iv xa, iv xb, iv xc, iv 2, rv b18, .unset, .unset, .unset] [(.ref b18), (.ref b22), (.ref b22)])) _
        refine st26.trans ?_
        exact k)
      refine own_t2 (s := s) (vm0 := s.vm) Z a0 hw pa pb pc pd xa xb xc b18 b22 T26.heap n0 (own_old0 Y26) Y26 zc fm S hl ua us SU SS (X26.more (by decide) (by decide)) hx hby hml Bd.returns Bd.notSynchronized hZ hown ((State.WarmedH.refl s).since T26.heap.size) (Nat.le_refl _) hK rfl N26 (by rw [hh]; exact R26) M26n pre27
    · have _ := 0
      obtain ⟨_, _, ⟨T28, L28, k28, n28⟩, -, X28, ⟨Lc28, hQ28, l28, y28, z28⟩, st28⟩ := X22.specialBack hx (y := mN48) rfl hown (mw hZ hw 5 rfl) (mw hZ hw 6 rfl) (mw hZ hw 7 rfl) (by decide) (StrChars.Road.backV (W := 1) hZ hws (kI := 4) (ww hw 3 rfl) (x := b22) (b := b18) (cs := [xa, xb]) (bs := [xa.toInt8.toInt32, xb.toInt8.toInt32]) (n := 2) (n0 := n0) g_b22 (own_old0 Y22) A22 F22_b22_value F22_b22_coder V22_b18 (S.1.ext Y22.2) S.2.2.2.2.2.1 rfl rfl (by decide) (by decide) (own_allc (own_chof h_xa hq.1) (own_allc (own_chof h_xb hq.2) own_all0)) rfl (by decide) (by decide)) (g := (mkF m 108 #[iv pa, iv pb, iv pc, iv pd, iv xa, iv xb, iv xc, iv 2, rv b18, .unset, .unset, .unset] [(.ref b18), (.ref b22), (.ref b22)])) rfl (by rw [hml]; rfl) (Steps.refl _) (a := b22) (argsL := [(.ref b18)]) (rest := [(.ref b22)]) (lenOf pd_37 rfl) rfl own_z (hb hby at_108) (fun _ _ => ⟨rfl, e22, (by decide : 2 + 1 ≤ _), (by decide : 6 + 2 ≤ _)⟩)
      dsimp only [Pt.U, Pt.locs, Pt.cells, Pt.slots] at X28 l28 y28 z28 st28 hQ28
      rw [y28, z28] at X28
      obtain ⟨rfl, N28q, Kc28, Ec28, Cc28, t28, kt28, _, _, _, Vc28, Ac28⟩ := hQ28
      have N28 := own_fr l28 N21 N28q
      have Y28 := Old.keep Y22 Kc28 (allS g_b22 all0)
      have R28 := CHr.trans R22 (CHr.keep Kc28 (allS sf22_b22 all0) R22.1)
      have M28n : TM Z T28.heap b22 [xa, xb] := ⟨t28, kt28, _, _, _, ⟨Ec28, Cc28, Vc28, Ac28⟩, Or.inl ⟨rfl, rfl, rfl, (own_allc (own_chof h_xa hq.1) (own_allc (own_chof h_xb hq.2) own_all0))⟩, (show 2 ≤ 32 from by decide)⟩
      have pre29 : Pr p e below (T28.setTop (mkF m 111 #[iv pa, iv pb, iv pc, iv pd, iv xa, iv xb, iv xc, iv 2, rv b18, .unset, .unset, .unset] [(.ref b22)])) (s₁.setTop (entryFrame m #[(.int pa), (.int pb), (.int pc), (.int pd)] maxLocals)) := fun t k => pre23 t (by
        show Steps _ _ _ (T22.setTop (mkF m 108 #[iv pa, iv pb, iv pc, iv pd, iv xa, iv xb, iv xc, iv 2, rv b18, .unset, .unset, .unset] [(.ref b18), (.ref b22), (.ref b22)])) _
        refine st28.trans ?_
        exact k)
      refine own_t2 (s := s) (vm0 := s.vm) Z a0 hw pa pb pc pd xa xb xc b18 b22 T28.heap n0 (own_old0 Y28) Y28 zc fm S hl ua us SU SS (X28.more (by decide) (by decide)) hx hby hml Bd.returns Bd.notSynchronized hZ hown ((State.WarmedH.refl s).since T28.heap.size) (Nat.le_refl _) hK rfl N28 (by rw [hh]; exact R28) M28n pre29
  · rw [hm] at pre4
    obtain ⟨T30, h30, k30, X30, e30, E30, A30, st30⟩ := newP X0 hx hZ (ww hw 1 rfl) e0 (g := (mkF m 83 #[iv pa, iv pb, iv pc, iv pd, iv xa, iv xb, iv xc, iv 3, .unset, .unset, .unset, .unset] [(.int 3)])) rfl (hb hby at_83) rfl (by decide) (cap := 3) (by decide) (by decide) (by decide) (by decide)
    obtain ⟨b30, g30⟩ : ∃ z, z = h0.size := ⟨_, rfl⟩
    rw [← g30] at A30 st30
    have z_b30 : h0.size ≤ b30 := Nat.le_trans (Nat.le_refl h0.size) (Nat.le_of_eq g30.symm)
    have g_b30 : n0 ≤ b30 := Nat.le_trans Z0 z_b30
    have sf_b30 : Safe Z consts_1 _ _ b30 := Safe.new (vm := s.vm) (h := h0) (Nat.le_of_eq g30.symm)
    have Y30 := Old.ext Y0 E30
    have sz30 : h0.size ≤ h30.size := Nat.le_trans (Nat.le_refl h0.size) E30.1
    have sf30_b30 := Safe.ext E30 R0.1 sf_b30
    have R30 := CHr.trans R0 (CHr.ext E30 R0.1)
    have V30 : Arv Z h30 b30 k30 .char (3 : Int32) [(.int 0), (.int 0), (.int 0)] (.int 0) := (Arv.new A30 (by decide)).pad (pad_rep [] (.int 0) 3)
    have pre31 : Pr p e below (T30.setTop (mkF m 87 #[iv pa, iv pb, iv pc, iv pd, iv xa, iv xb, iv xc, iv 3, .unset, .unset, .unset, .unset] [(.int 0), (.ref b30), (.ref b30)])) (s₁.setTop (entryFrame m #[(.int pa), (.int pb), (.int pc), (.int pd)] maxLocals)) := fun t k => pre4 t (by
      show Steps _ _ _ (s₁.setTop (mkF m 24 #[iv pa, iv pb, iv pc, iv pd, iv xa, iv xb, iv xc, .unset, .unset, .unset, .unset, .unset] [(.int 3)])) _
      refine XS.istore X0.here hx rfl (hb hby at_24) rfl (l' := #[iv pa, iv pb, iv pc, iv pd, iv xa, iv xb, iv xc, iv 3, .unset, .unset, .unset, .unset]) rfl ?_
      refine XS.iload X0.here hx rfl (hb hby at_26) rfl ?_
      show Steps _ _ _ (s₁.setTop (mkF m 28 #[iv pa, iv pb, iv pc, iv pd, iv xa, iv xb, iv xc, iv 3, .unset, .unset, .unset, .unset] [(.int 3)])) _
      refine XS.ifYes X0.here hx rfl (pc0 := 28) (pc' := 39) rfl (hb hby at_28) rfl ((if0 _ _).trans (feq (by decide : ¬ ((3 : Int32) = (0 : Int32)))).2) (by decide) (by decide) ?_
      refine XS.iload X0.here hx rfl (hb hby at_39) rfl ?_
      refine XT.iconstV X0.here hx rfl (1 : Int32) (hb hby at_41) (by decide) ?_
      show Steps _ _ _ (s₁.setTop (mkF m 42 #[iv pa, iv pb, iv pc, iv pd, iv xa, iv xb, iv xc, iv 3, .unset, .unset, .unset, .unset] [(.int 1), (.int 3)])) _
      refine XS.icmpYes X0.here hx rfl (pc0 := 42) (pc' := 58) rfl (hb hby at_42) rfl (feq (by decide : ¬ ((3 : Int32) = (1 : Int32)))).2 (by decide) (by decide) ?_
      refine XS.iload X0.here hx rfl (hb hby at_58) rfl ?_
      refine XT.iconstV X0.here hx rfl (2 : Int32) (hb hby at_60) (by decide) ?_
      show Steps _ _ _ (s₁.setTop (mkF m 61 #[iv pa, iv pb, iv pc, iv pd, iv xa, iv xb, iv xc, iv 3, .unset, .unset, .unset, .unset] [(.int 2), (.int 3)])) _
      refine XS.icmpYes X0.here hx rfl (pc0 := 61) (pc' := 82) rfl (hb hby at_61) rfl (feq (by decide : ¬ ((3 : Int32) = (2 : Int32)))).2 (by decide) (by decide) ?_
      refine XT.iconstV X0.here hx rfl (3 : Int32) (hb hby at_82) (by decide) ?_
      refine st30 _ ?_
      refine XS.dup X30.here hx rfl (hb hby at_85) rfl rfl ?_
      refine XT.iconstV X30.here hx rfl (0 : Int32) (hb hby at_86) (by decide) ?_
      exact k)
    obtain ⟨cl32, Ar32, q32, S32, n32', H32, G32⟩ := id V30
    have hin32 : ¬ ((0 : Int32) < 0 ∨ cl32.slots.size ≤ ((0 : Int32)).toNatClampNeg) := inb_of S32 ⟨by decide, by decide⟩
    obtain ⟨T32, h32, X32, e32, W32, st32⟩ := stC X30 hx hZ e30 Ar32 (j := (0 : Int32)) hin32 (g := (mkF m 89 #[iv pa, iv pb, iv pc, iv pd, iv xa, iv xb, iv xc, iv 3, .unset, .unset, .unset, .unset] [(.int xa), (.int 0), (.ref b30), (.ref b30)])) rfl rfl (hb hby at_89)
    rw [own_nar16 h_xa] at W32
    have V32 : Arv Z h32 b30 k30 .char (3 : Int32) [(.int xa), (.int 0), (.int 0)] (.int 0) := Arv.set Ar32 q32 S32 n32' H32 G32 (own_fit16 h_xa) W32 0 rfl (Nat.le_of_ble_eq_true rfl)
    have Y32 := Old.wr Y30 W32 g_b30
    have sz32 : h0.size ≤ h32.size := by rw [W32.size]; exact sz30
    have sf32_b30 := Safe.wr W32 sf30_b30 R30.1 sf30_b30
    have R32 := CHr.trans R30 (CHr.wr W32 sf30_b30 R30.1)
    have N32 := Fr.snoc X32 N0 g_b30
    obtain ⟨cl33, Ar33, q33, S33, n33', H33, G33⟩ := id V32
    have hin33 : ¬ ((1 : Int32) < 0 ∨ cl33.slots.size ≤ ((1 : Int32)).toNatClampNeg) := inb_of S33 ⟨by decide, by decide⟩
    obtain ⟨T33, h33, X33, e33, W33, st33⟩ := stC X32 hx hZ e32 Ar33 (j := (1 : Int32)) hin33 (g := (mkF m 94 #[iv pa, iv pb, iv pc, iv pd, iv xa, iv xb, iv xc, iv 3, .unset, .unset, .unset, .unset] [(.int xb), (.int 1), (.ref b30), (.ref b30)])) rfl rfl (hb hby at_94)
    rw [own_nar16 h_xb] at W33
    have V33 : Arv Z h33 b30 k30 .char (3 : Int32) [(.int xa), (.int xb), (.int 0)] (.int 0) := Arv.set Ar33 q33 S33 n33' H33 G33 (own_fit16 h_xb) W33 1 rfl (Nat.le_of_ble_eq_true rfl)
    have Y33 := Old.wr Y32 W33 g_b30
    have sz33 : h0.size ≤ h33.size := by rw [W33.size]; exact sz32
    have sf33_b30 := Safe.wr W33 sf32_b30 R32.1 sf32_b30
    have R33 := CHr.trans R32 (CHr.wr W33 sf32_b30 R32.1)
    have N33 := Fr.snoc X33 N32 g_b30
    obtain ⟨cl34, Ar34, q34, S34, n34', H34, G34⟩ := id V33
    have hin34 : ¬ ((2 : Int32) < 0 ∨ cl34.slots.size ≤ ((2 : Int32)).toNatClampNeg) := inb_of S34 ⟨by decide, by decide⟩
    obtain ⟨T34, h34, X34, e34, W34, st34⟩ := stC X33 hx hZ e33 Ar34 (j := (2 : Int32)) hin34 (g := (mkF m 99 #[iv pa, iv pb, iv pc, iv pd, iv xa, iv xb, iv xc, iv 3, .unset, .unset, .unset, .unset] [(.int xc), (.int 2), (.ref b30), (.ref b30)])) rfl rfl (hb hby at_99)
    rw [own_nar16 h_xc] at W34
    have V34 : Arv Z h34 b30 k30 .char (3 : Int32) [(.int xa), (.int xb), (.int xc)] (.int 0) := Arv.set Ar34 q34 S34 n34' H34 G34 (own_fit16 h_xc) W34 2 rfl (Nat.le_of_ble_eq_true rfl)
    have Y34 := Old.wr Y33 W34 g_b30
    have sz34 : h0.size ≤ h34.size := by rw [W34.size]; exact sz33
    have R34 := CHr.trans R33 (CHr.wr W34 sf33_b30 R33.1)
    have N34 := Fr.snoc X34 N33 g_b30
    obtain ⟨T35, h35, X35, e35, E35, A35, D35, -, st35⟩ := newO X34 hx hZ hown (ww hw 2 rfl) (ww hw 3 rfl) (ww hw 4 rfl) e34 (g := (mkF m 102 #[iv pa, iv pb, iv pc, iv pd, iv xa, iv xb, iv xc, iv 3, rv b30, .unset, .unset, .unset] [])) rfl (hb hby at_102) (by decide) (by decide)
    obtain ⟨b35, g35⟩ : ∃ z, z = h34.size := ⟨_, rfl⟩
    rw [← g35] at A35 D35 st35
    have z_b35 : h0.size ≤ b35 := Nat.le_trans sz34 (Nat.le_of_eq g35.symm)
    have g_b35 : n0 ≤ b35 := Nat.le_trans Z0 z_b35
    have sf_b35 : Safe Z consts_1 _ _ b35 := Safe.new (vm := s.vm) (h := h34) (Nat.le_of_eq g35.symm)
    have V35_b30 := V34.ext E35
    have Y35 := Old.ext Y34 E35
    have sf35_b35 := Safe.ext E35 R34.1 sf_b35
    have R35 := CHr.trans R34 (CHr.ext E35 R34.1)
    have F35_b35_coder : Fld Z h35 b35 "java/lang/String" "coder" "B" (.int 0) := D35 (Or.inr (ww hw 28 rfl)) (ty := .byte) (by decide)
    have F35_b35_value : Fld Z h35 b35 "java/lang/String" "value" "[B" .null := D35 (Or.inr (ww hw 30 rfl)) (ty := (.array .byte)) (by decide)
    have pre36 : Pr p e below (T35.setTop (mkF m 106 #[iv pa, iv pb, iv pc, iv pd, iv xa, iv xb, iv xc, iv 3, rv b30, .unset, .unset, .unset] [(.ref b35), (.ref b35)])) (s₁.setTop (entryFrame m #[(.int pa), (.int pb), (.int pc), (.int pd)] maxLocals)) := fun t k => pre31 t (by
      show Steps _ _ _ (T30.setTop (mkF m 87 #[iv pa, iv pb, iv pc, iv pd, iv xa, iv xb, iv xc, iv 3, .unset, .unset, .unset, .unset] [(.int 0), (.ref b30), (.ref b30)])) _
      refine XS.iload X30.here hx rfl (hb hby at_87) rfl ?_
      refine st32 _ ?_
      refine XS.dup X32.here hx rfl (hb hby at_90) rfl rfl ?_
      refine XT.iconstV X32.here hx rfl (1 : Int32) (hb hby at_91) (by decide) ?_
      refine XS.iload X32.here hx rfl (hb hby at_92) rfl ?_
      refine st33 _ ?_
      refine XS.dup X33.here hx rfl (hb hby at_95) rfl rfl ?_
      refine XT.iconstV X33.here hx rfl (2 : Int32) (hb hby at_96) (by decide) ?_
      refine XS.iload X33.here hx rfl (hb hby at_97) rfl ?_
      refine st34 _ ?_
      refine XS.astore X34.here hx rfl (hb hby at_100) rfl rfl (l' := #[iv pa, iv pb, iv pc, iv pd, iv xa, iv xb, iv xc, iv 3, rv b30, .unset, .unset, .unset]) rfl ?_
      refine st35 _ ?_
      refine XS.dup X35.here hx rfl (hb hby at_105) rfl rfl ?_
      exact k)
    have pre37 : Pr p e below (T35.setTop (mkF m 108 #[iv pa, iv pb, iv pc, iv pd, iv xa, iv xb, iv xc, iv 3, rv b30, .unset, .unset, .unset] [(.ref b30), (.ref b35), (.ref b35)])) (s₁.setTop (entryFrame m #[(.int pa), (.int pb), (.int pc), (.int pd)] maxLocals)) := fun t k => pre36 t (by
      show Steps _ _ _ (T35.setTop (mkF m 106 #[iv pa, iv pb, iv pc, iv pd, iv xa, iv xb, iv xc, iv 3, rv b30, .unset, .unset, .unset] [(.ref b35), (.ref b35)])) _
      refine XS.aload X35.here hx rfl (hb hby at_106) rfl rfl ?_
      exact k)
    rcases own_sp3 xa xb xc with hq | hq | hq | hq
    · have _ := 0
      obtain ⟨_, _, ⟨T38, L38, k38, n38⟩, -, X38, ⟨Lc38, hQ38, l38, y38, z38⟩, st38⟩ := X35.specialBack hx (y := mN48) rfl hown (mw hZ hw 5 rfl) (mw hZ hw 6 rfl) (mw hZ hw 7 rfl) (by decide) (backOf (W := 1) (rm_nw l Z a0 hw [] b35 b30 h35 n0 (own_old0 Y35) Y35 zc fm S (3 : Int32) A35 F35_b35_value F35_b35_coder g_b35 k30 _ V35_b30 (6 : Int32) [xa, xb, xc] 3 (by decide) rfl rfl (by decide) (own_vc [xa, xb, xc]) (by decide) (by decide) (by decide) 0 (by decide) (fun i hi => absurd hi (Nat.not_lt_zero i)) hq h_xa rfl rfl (-3 : Int32) (by decide) (by decide) (by decide)) hZ (ww hw 7 rfl) (ww hw 4 rfl) (by decide) (by decide)) (g := (mkF m 108 #[iv pa, iv pb, iv pc, iv pd, iv xa, iv xb, iv xc, iv 3, rv b30, .unset, .unset, .unset] [(.ref b30), (.ref b35), (.ref b35)])) rfl (by rw [hml]; rfl) (Steps.refl _) (a := b35) (argsL := [(.ref b30)]) (rest := [(.ref b35)]) (lenOf pd_37 rfl) rfl own_z (hb hby at_108) (fun _ _ => ⟨rfl, e35, (by decide : 2 + 2 ≤ _), (by decide : 7 + 35 ≤ _)⟩)
      dsimp only [Pt.U, Pt.locs, Pt.cells, Pt.slots] at X38 l38 y38 z38 st38 hQ38
      rw [y38, z38] at X38
      obtain ⟨u38, ku38, rfl, N38q, Kc38, zz38, Tc38⟩ := hQ38
      have N38 := own_fr l38 N34 N38q
      have Y38 := Old.keep Y35 Kc38 (allS g_b35 all0)
      have R38 := CHr.trans R35 (CHr.keep Kc38 (allS sf35_b35 all0) R35.1)
      have M38n : TM Z T38.heap b35 [xa, xb, xc] := ⟨_, _, _, _, _, Tc38, Or.inr ⟨rfl, rfl, rfl, (own_allc h_xa (own_allc h_xb (own_allc h_xc own_all0)))⟩, (show 3 ≤ 32 from by decide)⟩
      have pre39 : Pr p e below (T38.setTop (mkF m 111 #[iv pa, iv pb, iv pc, iv pd, iv xa, iv xb, iv xc, iv 3, rv b30, .unset, .unset, .unset] [(.ref b35)])) (s₁.setTop (entryFrame m #[(.int pa), (.int pb), (.int pc), (.int pd)] maxLocals)) := fun t k => pre37 t (by
        show Steps _ _ _ (T35.setTop (mkF m 108 #[iv pa, iv pb, iv pc, iv pd, iv xa, iv xb, iv xc, iv 3, rv b30, .unset, .unset, .unset] [(.ref b30), (.ref b35), (.ref b35)])) _
        refine st38.trans ?_
        exact k)
      refine own_t3 (s := s) (vm0 := s.vm) Z a0 hw pa pb pc pd xa xb xc b30 b35 T38.heap n0 (own_old0 Y38) Y38 zc fm S hl ua us SU SS (X38.more (by decide) (by decide)) hx hby hml Bd.returns Bd.notSynchronized hZ hown ((State.WarmedH.refl s).since T38.heap.size) (Nat.le_refl _) hK rfl N38 (by rw [hh]; exact R38) M38n pre39
    · have _ := 0
      obtain ⟨_, _, ⟨T40, L40, k40, n40⟩, -, X40, ⟨Lc40, hQ40, l40, y40, z40⟩, st40⟩ := X35.specialBack hx (y := mN48) rfl hown (mw hZ hw 5 rfl) (mw hZ hw 6 rfl) (mw hZ hw 7 rfl) (by decide) (backOf (W := 1) (rm_nw l Z a0 hw [] b35 b30 h35 n0 (own_old0 Y35) Y35 zc fm S (3 : Int32) A35 F35_b35_value F35_b35_coder g_b35 k30 _ V35_b30 (6 : Int32) [xa, xb, xc] 3 (by decide) rfl rfl (by decide) (own_vc [xa, xb, xc]) (by decide) (by decide) (by decide) 1 (by decide) (fun i hi => match i, hi with | 0, _ => hq.1 | k + 1, h => absurd h (by omega)) hq.2 h_xb rfl rfl (-3 : Int32) (by decide) (by decide) (by decide)) hZ (ww hw 7 rfl) (ww hw 4 rfl) (by decide) (by decide)) (g := (mkF m 108 #[iv pa, iv pb, iv pc, iv pd, iv xa, iv xb, iv xc, iv 3, rv b30, .unset, .unset, .unset] [(.ref b30), (.ref b35), (.ref b35)])) rfl (by rw [hml]; rfl) (Steps.refl _) (a := b35) (argsL := [(.ref b30)]) (rest := [(.ref b35)]) (lenOf pd_37 rfl) rfl own_z (hb hby at_108) (fun _ _ => ⟨rfl, e35, (by decide : 2 + 2 ≤ _), (by decide : 7 + 35 ≤ _)⟩)
      dsimp only [Pt.U, Pt.locs, Pt.cells, Pt.slots] at X40 l40 y40 z40 st40 hQ40
      rw [y40, z40] at X40
      obtain ⟨u40, ku40, rfl, N40q, Kc40, zz40, Tc40⟩ := hQ40
      have N40 := own_fr l40 N34 N40q
      have Y40 := Old.keep Y35 Kc40 (allS g_b35 all0)
      have R40 := CHr.trans R35 (CHr.keep Kc40 (allS sf35_b35 all0) R35.1)
      have M40n : TM Z T40.heap b35 [xa, xb, xc] := ⟨_, _, _, _, _, Tc40, Or.inr ⟨rfl, rfl, rfl, (own_allc h_xa (own_allc h_xb (own_allc h_xc own_all0)))⟩, (show 3 ≤ 32 from by decide)⟩
      have pre41 : Pr p e below (T40.setTop (mkF m 111 #[iv pa, iv pb, iv pc, iv pd, iv xa, iv xb, iv xc, iv 3, rv b30, .unset, .unset, .unset] [(.ref b35)])) (s₁.setTop (entryFrame m #[(.int pa), (.int pb), (.int pc), (.int pd)] maxLocals)) := fun t k => pre37 t (by
        show Steps _ _ _ (T35.setTop (mkF m 108 #[iv pa, iv pb, iv pc, iv pd, iv xa, iv xb, iv xc, iv 3, rv b30, .unset, .unset, .unset] [(.ref b30), (.ref b35), (.ref b35)])) _
        refine st40.trans ?_
        exact k)
      refine own_t3 (s := s) (vm0 := s.vm) Z a0 hw pa pb pc pd xa xb xc b30 b35 T40.heap n0 (own_old0 Y40) Y40 zc fm S hl ua us SU SS (X40.more (by decide) (by decide)) hx hby hml Bd.returns Bd.notSynchronized hZ hown ((State.WarmedH.refl s).since T40.heap.size) (Nat.le_refl _) hK rfl N40 (by rw [hh]; exact R40) M40n pre41
    · have _ := 0
      obtain ⟨_, _, ⟨T42, L42, k42, n42⟩, -, X42, ⟨Lc42, hQ42, l42, y42, z42⟩, st42⟩ := X35.specialBack hx (y := mN48) rfl hown (mw hZ hw 5 rfl) (mw hZ hw 6 rfl) (mw hZ hw 7 rfl) (by decide) (backOf (W := 1) (rm_nw l Z a0 hw [] b35 b30 h35 n0 (own_old0 Y35) Y35 zc fm S (3 : Int32) A35 F35_b35_value F35_b35_coder g_b35 k30 _ V35_b30 (6 : Int32) [xa, xb, xc] 3 (by decide) rfl rfl (by decide) (own_vc [xa, xb, xc]) (by decide) (by decide) (by decide) 2 (by decide) (fun i hi => match i, hi with | 0, _ => hq.1 | 1, _ => hq.2.1 | k + 2, h => absurd h (by omega)) hq.2.2 h_xc rfl rfl (-3 : Int32) (by decide) (by decide) (by decide)) hZ (ww hw 7 rfl) (ww hw 4 rfl) (by decide) (by decide)) (g := (mkF m 108 #[iv pa, iv pb, iv pc, iv pd, iv xa, iv xb, iv xc, iv 3, rv b30, .unset, .unset, .unset] [(.ref b30), (.ref b35), (.ref b35)])) rfl (by rw [hml]; rfl) (Steps.refl _) (a := b35) (argsL := [(.ref b30)]) (rest := [(.ref b35)]) (lenOf pd_37 rfl) rfl own_z (hb hby at_108) (fun _ _ => ⟨rfl, e35, (by decide : 2 + 2 ≤ _), (by decide : 7 + 35 ≤ _)⟩)
      dsimp only [Pt.U, Pt.locs, Pt.cells, Pt.slots] at X42 l42 y42 z42 st42 hQ42
      rw [y42, z42] at X42
      obtain ⟨u42, ku42, rfl, N42q, Kc42, zz42, Tc42⟩ := hQ42
      have N42 := own_fr l42 N34 N42q
      have Y42 := Old.keep Y35 Kc42 (allS g_b35 all0)
      have R42 := CHr.trans R35 (CHr.keep Kc42 (allS sf35_b35 all0) R35.1)
      have M42n : TM Z T42.heap b35 [xa, xb, xc] := ⟨_, _, _, _, _, Tc42, Or.inr ⟨rfl, rfl, rfl, (own_allc h_xa (own_allc h_xb (own_allc h_xc own_all0)))⟩, (show 3 ≤ 32 from by decide)⟩
      have pre43 : Pr p e below (T42.setTop (mkF m 111 #[iv pa, iv pb, iv pc, iv pd, iv xa, iv xb, iv xc, iv 3, rv b30, .unset, .unset, .unset] [(.ref b35)])) (s₁.setTop (entryFrame m #[(.int pa), (.int pb), (.int pc), (.int pd)] maxLocals)) := fun t k => pre37 t (by
        show Steps _ _ _ (T35.setTop (mkF m 108 #[iv pa, iv pb, iv pc, iv pd, iv xa, iv xb, iv xc, iv 3, rv b30, .unset, .unset, .unset] [(.ref b30), (.ref b35), (.ref b35)])) _
        refine st42.trans ?_
        exact k)
      refine own_t3 (s := s) (vm0 := s.vm) Z a0 hw pa pb pc pd xa xb xc b30 b35 T42.heap n0 (own_old0 Y42) Y42 zc fm S hl ua us SU SS (X42.more (by decide) (by decide)) hx hby hml Bd.returns Bd.notSynchronized hZ hown ((State.WarmedH.refl s).since T42.heap.size) (Nat.le_refl _) hK rfl N42 (by rw [hh]; exact R42) M42n pre43
    · have _ := 0
      obtain ⟨_, _, ⟨T44, L44, k44, n44⟩, -, X44, ⟨Lc44, hQ44, l44, y44, z44⟩, st44⟩ := X35.specialBack hx (y := mN48) rfl hown (mw hZ hw 5 rfl) (mw hZ hw 6 rfl) (mw hZ hw 7 rfl) (by decide) (StrChars.Road.backV (W := 1) hZ hws (kI := 4) (ww hw 3 rfl) (x := b35) (b := b30) (cs := [xa, xb, xc]) (bs := [xa.toInt8.toInt32, xb.toInt8.toInt32, xc.toInt8.toInt32]) (n := 3) (n0 := n0) g_b35 (own_old0 Y35) A35 F35_b35_value F35_b35_coder V35_b30 (S.1.ext Y35.2) S.2.2.2.2.2.1 rfl rfl (by decide) (by decide) (own_allc (own_chof h_xa hq.1) (own_allc (own_chof h_xb hq.2.1) (own_allc (own_chof h_xc hq.2.2) own_all0))) rfl (by decide) (by decide)) (g := (mkF m 108 #[iv pa, iv pb, iv pc, iv pd, iv xa, iv xb, iv xc, iv 3, rv b30, .unset, .unset, .unset] [(.ref b30), (.ref b35), (.ref b35)])) rfl (by rw [hml]; rfl) (Steps.refl _) (a := b35) (argsL := [(.ref b30)]) (rest := [(.ref b35)]) (lenOf pd_37 rfl) rfl own_z (hb hby at_108) (fun _ _ => ⟨rfl, e35, (by decide : 2 + 1 ≤ _), (by decide : 7 + 3 ≤ _)⟩)
      dsimp only [Pt.U, Pt.locs, Pt.cells, Pt.slots] at X44 l44 y44 z44 st44 hQ44
      rw [y44, z44] at X44
      obtain ⟨rfl, N44q, Kc44, Ec44, Cc44, t44, kt44, _, _, _, Vc44, Ac44⟩ := hQ44
      have N44 := own_fr l44 N34 N44q
      have Y44 := Old.keep Y35 Kc44 (allS g_b35 all0)
      have R44 := CHr.trans R35 (CHr.keep Kc44 (allS sf35_b35 all0) R35.1)
      have M44n : TM Z T44.heap b35 [xa, xb, xc] := ⟨t44, kt44, _, _, _, ⟨Ec44, Cc44, Vc44, Ac44⟩, Or.inl ⟨rfl, rfl, rfl, (own_allc (own_chof h_xa hq.1) (own_allc (own_chof h_xb hq.2.1) (own_allc (own_chof h_xc hq.2.2) own_all0)))⟩, (show 3 ≤ 32 from by decide)⟩
      have pre45 : Pr p e below (T44.setTop (mkF m 111 #[iv pa, iv pb, iv pc, iv pd, iv xa, iv xb, iv xc, iv 3, rv b30, .unset, .unset, .unset] [(.ref b35)])) (s₁.setTop (entryFrame m #[(.int pa), (.int pb), (.int pc), (.int pd)] maxLocals)) := fun t k => pre37 t (by
        show Steps _ _ _ (T35.setTop (mkF m 108 #[iv pa, iv pb, iv pc, iv pd, iv xa, iv xb, iv xc, iv 3, rv b30, .unset, .unset, .unset] [(.ref b30), (.ref b35), (.ref b35)])) _
        refine st44.trans ?_
        exact k)
      refine own_t3 (s := s) (vm0 := s.vm) Z a0 hw pa pb pc pd xa xb xc b30 b35 T44.heap n0 (own_old0 Y44) Y44 zc fm S hl ua us SU SS (X44.more (by decide) (by decide)) hx hby hml Bd.returns Bd.notSynchronized hZ hown ((State.WarmedH.refl s).since T44.heap.size) (Nat.le_refl _) hK rfl N44 (by rw [hh]; exact R44) M44n pre45
theorem own_stapin {C n d : String} {k : Int32} {args : Array Value} {s : State} (h : (Cond.eq (.static C n d) (.int k)).before args s = true) : (Term.static C n d).eval args s none [] s = some (.int k) := by
  have h := Cond.before_iff.mp h
  cases hf : (Term.static C n d).eval args s none [] s with
  | none => simp [Cond.value, hf] at h
  | some v =>
    have e2 : (Term.int k).eval args s none [] s = some (.int k) := rfl
    cases v <;> simp [Cond.value, hf, e2] at h ⊢
    exact h
theorem own_kn {vm : Vm} {m : MethodId} (h : methodKnown vm m = true) : vm.knowsMethod m := by
  unfold methodKnown at h
  cases hk : vm.classes[m.cls]? with
  | none => simp [hk] at h
  | some k => exact ⟨k, hk, fun cf hcf => by simpa [hk, hcf] using h⟩
theorem own_mk {s : State} (h : tablesKnown s = true) : s.vm.MethodsKnown := by
  intro m x hm
  unfold Vm.method? at hm
  cases hk : s.vm.classes[m.cls]? with
  | none => simp [hk] at hm
  | some k =>
    simp only [hk, Option.bind_some] at hm
    refine ⟨k, hk, fun cf hcf => ?_⟩
    have h1 := (Array.all_eq_true_iff_forall_mem.mp h) k (Array.mem_of_getElem? hk)
    simp only [hcf, beq_iff_eq] at h1
    have hlt : m.idx < k.methods.size := (Array.getElem?_eq_some_iff.mp hm).1
    rw [h1] at hlt
    simp [hlt]
theorem own_fk {s : State} {m : MethodId} {args : Array Value} {below : List Frame} (h : framesKnown s = true) (hf : s.frames = .invoking m args :: below) : s.vm.FramesKnown below := by
  intro y hy m' hm'
  unfold framesKnown at h
  rw [hf] at h
  have h1 := (List.all_eq_true.mp h) y (List.mem_cons_of_mem _ hy)
  cases y with
  | java g => cases hm'; exact own_kn h1
  | native n => cases hm'; exact own_kn h1
  | _ => cases hm'
set_option maxRecDepth 65536 in
set_option maxHeartbeats 40000000 in
theorem comes_1 {Post : Tables → Env → Array Value → State → Outcome → State → Prop} (hpost : ∀ tb e args s v u, (limb_1_1.after args s (.returned v) u = true ∧ limb_1_2.after args s (.returned v) u = true ∧ True) → ReturnedEndW s (.returned v) u (Jvm.fieldLocs frame_1_writes args s ++ Jvm.arrayLocs frame_1_arrays args s ++ Jvm.staticLocs frame_1_statics s) 48 11136 → Post tb e args s (.returned v) u) :
    ArmFor flags0 classFile x code maxLocals ret World_1 tables_1 room_1 Calls_1 rest_1 Pre_1 Post := by
  intro l hfl _ _ p e ha hc hk s m args below hf hA hF happ hP
  obtain ⟨hcalls, hrest, hpre⟩ := hP
  obtain ⟨-, -, -, hnamed, -, -, -, hat⟩ := (Spec.applies_iff hf).mp happ
  obtain ⟨hg, hn⟩ := and_e (Cond.before_iff.mp (show (Jvm.Cond.and given_1 narrow_1).before args s = true from hpre))
  obtain ⟨gc, gr0⟩ := and_e hg
  obtain ⟨ga0, gr1⟩ := and_e gr0
  obtain ⟨ga1, gr2⟩ := and_e gr1
  obtain ⟨ga2, gr3⟩ := and_e gr2
  obtain ⟨w0, w1, w2, w3, rfl⟩ : ∃ w0 w1 w2 w3 : Value, args = #[w0, w1, w2, w3] := by
    have hs : args.size = 4 := by simpa [Cond.value, given_1] using gc
    obtain ⟨L⟩ := args
    match L, hs with
    | [w0, w1, w2, w3], _ => exact ⟨w0, w1, w2, w3, rfl⟩
  have hw := fun d (hd : d ∈ tables_1) => atoms_spec (ws := Jvm.Cond.code x code maxLocals ret :: tables_1) hat d (List.mem_cons_of_mem _ hd)
  have hfit : Fit s := fun {y c} hc i hi => by
    obtain ⟨ha, rfl⟩ := Array.getElem?_eq_some_iff.mp hc
    have q := List.all_eq_true.mp ((Array.all_eq_true_iff_forall_mem.mp hF) _ (Array.getElem_mem ha)) i (List.mem_range.mpr hi)
    simpa [Array.getElem?_eq_getElem hi] using q
  obtain ⟨i0, ei0⟩ := is_v ga0
  obtain rfl : w0 = (.int i0) := Option.some.inj ei0
  obtain ⟨i1, ei1⟩ := is_v ga1
  obtain rfl : w1 = (.int i1) := Option.some.inj ei1
  obtain ⟨i2, ei2⟩ := is_v ga2
  obtain rfl : w2 = (.int i2) := Option.some.inj ei2
  obtain ⟨i3, ei3⟩ := is_v gr3
  obtain rfl : w3 = (.int i3) := Option.some.inj ei3
  obtain ⟨hsets, hown0⟩ := atoms_of _ (rest_1_c_eq ▸ (show rest_1_c.before _ s = true from hrest))
  have n3 := not_v (Cond.before_iff.mp (hsets _ (List.mem_of_getElem? (i := 2) rfl)))
  obtain ⟨i7, e6⟩ := is_v (Cond.before_iff.mp (hsets _ (List.mem_of_getElem? (i := 1) rfl)))
  have S8 : Sta s s.heap "java/lang/String" "COMPACT_STRINGS" "Z" (.int i7) := Sta.start e6 (Or.inl (hsets _ (List.mem_of_getElem? (i := 0) rfl)))
  have c9 : ¬ (i7 = (0 : Int32)) := gotF (Cond.eq_ints e6 (Term.int_eval (0))) n3
  obtain ⟨fm, e7, r7⟩ := isR_v (Cond.before_iff.mp (hsets _ (List.mem_of_getElem? (i := 8) rfl)))
  have S7 := Sta.start e7 (Or.inl (hsets _ (List.mem_of_getElem? (i := 7) rfl)))
  have S32 := Sta.start (own_stapin (hsets _ (List.mem_of_getElem? (i := 32) rfl))) (Or.inl (hsets _ (List.mem_of_getElem? (i := 31) rfl)))
  have S35 := Sta.start (own_stapin (hsets _ (List.mem_of_getElem? (i := 35) rfl))) (Or.inl (hsets _ (List.mem_of_getElem? (i := 34) rfl)))
  have S38 := Sta.start (own_stapin (hsets _ (List.mem_of_getElem? (i := 38) rfl))) (Or.inl (hsets _ (List.mem_of_getElem? (i := 37) rfl)))
  obtain ⟨ua, eu⟩ := arr_v (Cond.before_iff.mp (hsets _ (List.mem_of_getElem? (i := 17) rfl)))
  have SU := Sta.start eu (Or.inl (hsets _ (List.mem_of_getElem? (i := 15) rfl)))
  obtain ⟨us, eus⟩ := exa_v (Cond.before_iff.mp (hsets _ (List.mem_of_getElem? (i := 22) rfl)))
  have SS := Sta.start eus (Or.inl (hsets _ (List.mem_of_getElem? (i := 20) rfl)))
  have hl : l.stackTraces = true := by simp only [Launch.stackTraces, hfl]; decide
  have hCH : CHv s consts_1 s.vm s.heap := CHv.start (own_EW hw) (fun p hp => hcalls.2.2.1 p hp) (hsets _ (List.mem_of_getElem? (i := 2) rfl)) (hw _ (List.mem_of_getElem? (i := 20) rfl)) (hw _ (List.mem_of_getElem? (i := 3) rfl))
  obtain ⟨n, o, h1, h2, h3, _, L, rfl, ⟨rfl, N⟩, hC, hq⟩ := rm0 l s _ hw tables_1 i0 i1 i2 i3 s.heap s.heap.size (Nat.le_refl _) (Old.start s) i7 fm ⟨S8, S7, S32, S35, S38, c9, r7⟩ hl ua us SU SS p e ha hc hk s m _ below hf ((Spec.applies_iff_loose hf).mp happ).1 ⟨rfl, State.Warmed39.refl s, rfl, hCH⟩ ⟨own_mk hcalls.2.1, own_fk hcalls.1 hf⟩
  exact ⟨n, _, h1, h2, h3, hpost _ _ _ _ _ _ ⟨Cond.after_iff.mpr rfl, Cond.after_iff.mpr (eq_i res_at (Term.int_eval (1)) rfl), trivial⟩ ⟨hq.1, hq.2.1, hq.2.2.1, (hq.2.2.2.sift fun y hy => Or.inr (N y hy)).mono (by decide) (by decide)⟩⟩
theorem main_1_1 : Claimed_1_1 := comes_1 fun _ _ _ _ _ _ h hF => ⟨h.1, hF⟩
theorem main_1_2 : Claimed_1_2 := comes_1 fun _ _ _ _ _ _ h hF => ⟨h.2.1, hF⟩
end Jvm.Pilot.@@N@@
namespace Jvm.Pilot.@@N@@
open Jvm Jvm.ClassFile Sem Op Lib Jvm.Free Jvm.Stand Jvm.Pilot.@@N@@.Jvm.D
/-! MADE BY PROGRAM (witnessworld.py) out of the Statement's table words and the real class files: 42 classes; the members and pool entries that the words name. The judged class is class 1, her method 3. -/
namespace start1
open Jvm.ClassFile
def u (s : String) : CpInfo := .utf8 (stringToUtf16 s)
/-- a pool by its gaps: so many unusable entries, then the entry; so many at the end -/
def gap : Nat → List CpInfo → List CpInfo
  | 0, r => r
  | n + 1, r => .unusable :: gap n r
def poolList (es : List (Nat × CpInfo)) (last : Nat) : List CpInfo := es.foldr (fun e r => gap e.1 (e.2 :: r)) (gap last [])
def pool (es : List (Nat × CpInfo)) (last : Nat) : Array CpInfo := ⟨poolList es last⟩
def fileOf (pool : Array CpInfo) (this : Nat) (attrs : Array Attribute := #[]) (ms : Array MethodInfo := #[]) (fl : Nat := 33) (sup : Nat := 0) (ifs : Array Nat := #[]) (fds : Array FieldInfo := #[]) : ClassFile where
  minorVersion := 0
  majorVersion := 65
  constantPool := pool
  accessFlags := fl
  thisClass := this
  superClass := sup
  interfaces := ifs
  fields := fds
  methods := ms
  attributes := attrs
def plain (name : String) (sup : Option ClassId) : Class where
  name := name
  kind := .ordinary
  loader := none
  accessFlags := 33
  super := sup
  interfaces := #[]
  cf := none
  fields := #[]
  methods := #[]
  instanceTypes := #[]
  staticTypes := #[]
  resolved := #[]
  callSites := []
  init := .initialized
  statics := none
  mirror := none

def pool0 : Array CpInfo := pool [(5, u "<init>"), (0, u "()V"), (1, .class_ 10), (1, u "java/lang/Object")] 113

def k0c0 : Code := { maxStack := 0, maxLocals := 1, code := object_method_1_code, exceptionTable := #[], attributes := #[] }
def k0m0 : Method := { name := "<init>", desc := "()V", sig := { parameters := [], returnType := none }, accessFlags := 1, code := some k0c0 }
/-- java/lang/Object -/
def k0 : Class := { plain "java/lang/Object" none with
  accessFlags := 33
  interfaces := #[]
  cf := some (fileOf pool0 8 #[] #[{ accessFlags := 1, nameIndex := 5, descriptorIndex := 6, attributes := #[] }] 33 0 #[] #[])
  fields := #[]
  methods := #[k0m0]
  instanceTypes := #[]
  staticTypes := #[]
  resolved := Array.replicate 124 none
  statics := none }

def pool1 : Array CpInfo := pool [(2, .class_ 4), (1, u "java/lang/Object"), (0, u "<init>"), (0, u "()V"), (0, .string 8), (0, u "option "), (0, .methodref 10 11), (0, .class_ 12), (0, .nameAndType 13 14), (0, u "java/lang/String"), (0, u "charAt"), (0, u "(I)C"), (0, .string 16), (0, u " is given twice"), (0, .integer 65535), (0, .methodref 10 19), (0, .nameAndType 5 20), (0, u "([C)V"), (0, .methodref 22 23), (0, .class_ 24), (0, .nameAndType 25 26), (0, u "com/example/tidegauge/tidegauge/Options"), (0, u "givenTwice"), (0, u "(Ljava/lang/String;)Lcom/example/tidegauge/tidegauge/UsageException;"), (0, .methodref 28 29), (0, .class_ 30), (0, .nameAndType 31 32), (0, u "com/example/tidegauge/tidegauge/UsageException"), (0, u "getMessage"), (0, u "()Ljava/lang/String;"), (0, .methodref 10 34), (0, .nameAndType 35 36), (0, u "length"), (0, u "()I"), (0, .methodref 38 39), (0, .class_ 40), (0, .nameAndType 41 42), (0, u "com/example/tidegauge/tidegauge/OptionsGivenTwicePinLaw"), (0, u "prefixOk"), (0, u "(Ljava/lang/String;)Z"), (0, .methodref 38 44), (0, .nameAndType 45 46), (0, u "suffixOk"), (0, u "(Ljava/lang/String;I)Z"), (3, u "law"), (0, u "(IIII)Z")] 4

def k1m0 : Method := { name := "<init>", desc := "()V", sig := { parameters := [], returnType := none }, accessFlags := 1, code := none }
def k1c1 : Code := { maxStack := 3, maxLocals := 2, code := method_2_code, exceptionTable := #[], attributes := #[] }
def k1m1 : Method := { name := "prefixOk", desc := "(Ljava/lang/String;)Z", sig := { parameters := [(.object "java/lang/String")], returnType := some .boolean }, accessFlags := 10, code := some k1c1 }
def k1c2 : Code := { maxStack := 3, maxLocals := 3, code := method_3_code, exceptionTable := #[], attributes := #[] }
def k1m2 : Method := { name := "suffixOk", desc := "(Ljava/lang/String;I)Z", sig := { parameters := [(.object "java/lang/String"), .int], returnType := some .boolean }, accessFlags := 10, code := some k1c2 }
def k1c3 : Code := { maxStack := 4, maxLocals := 12, code := code, exceptionTable := #[], attributes := #[] }
def k1m3 : Method := { name := "law", desc := "(IIII)Z", sig := { parameters := [.int, .int, .int, .int], returnType := some .boolean }, accessFlags := 9, code := some k1c3 }
/-- com/example/tidegauge/tidegauge/OptionsGivenTwicePinLaw -/
def k1 : Class := { plain "com/example/tidegauge/tidegauge/OptionsGivenTwicePinLaw" (some 0) with
  accessFlags := 49
  interfaces := #[]
  cf := some (fileOf pool1 38 #[] #[{ accessFlags := 1, nameIndex := 5, descriptorIndex := 6, attributes := #[] }, { accessFlags := 10, nameIndex := 41, descriptorIndex := 42, attributes := #[] }, { accessFlags := 10, nameIndex := 45, descriptorIndex := 46, attributes := #[] }, { accessFlags := 9, nameIndex := 50, descriptorIndex := 51, attributes := #[] }] 49 2 #[] #[])
  fields := #[]
  methods := #[k1m0, k1m1, k1m2, k1m3]
  instanceTypes := #[]
  staticTypes := #[]
  resolved := Array.replicate 56 none
  statics := none }

def pool2 : Array CpInfo := pool [(1, .class_ 2), (0, u "java/io/Serializable"), (0, .class_ 4), (0, u "java/lang/Object")] 2

/-- java/io/Serializable -/
def k2 : Class := { plain "java/io/Serializable" (some 0) with
  accessFlags := 1537
  interfaces := #[]
  cf := some (fileOf pool2 1 #[] #[] 1537 3 #[] #[])
  fields := #[]
  methods := #[]
  instanceTypes := #[]
  staticTypes := #[]
  resolved := Array.replicate 7 none
  statics := none }

def pool3 : Array CpInfo := pool [(1, .class_ 2), (0, u "java/lang/Comparable"), (0, .class_ 4), (0, u "java/lang/Object")] 7

/-- java/lang/Comparable -/
def k3 : Class := { plain "java/lang/Comparable" (some 0) with
  accessFlags := 1537
  interfaces := #[]
  cf := some (fileOf pool3 1 #[] #[] 1537 3 #[] #[])
  fields := #[]
  methods := #[]
  instanceTypes := #[]
  staticTypes := #[]
  resolved := Array.replicate 12 none
  statics := none }

def pool4 : Array CpInfo := pool [(2, .class_ 4), (1, u "java/lang/CharSequence"), (42, .class_ 48), (0, u "java/lang/CharSequence$1CodePointIterator"), (10, .class_ 60), (0, u "java/lang/CharSequence$1CharIterator"), (5, .class_ 67), (0, u "java/lang/Object")] 63

/-- java/lang/CharSequence -/
def k4 : Class := { plain "java/lang/CharSequence" (some 0) with
  accessFlags := 1537
  interfaces := #[]
  cf := some (fileOf pool4 2 #[.nestMembers #[47, 59]] #[] 1537 66 #[] #[])
  fields := #[]
  methods := #[]
  instanceTypes := #[]
  staticTypes := #[]
  resolved := Array.replicate 131 none
  statics := none }

def pool5 : Array CpInfo := pool [(1, .class_ 2), (0, u "java/lang/constant/Constable"), (0, .class_ 4), (0, u "java/lang/Object")] 6

/-- java/lang/constant/Constable -/
def k5 : Class := { plain "java/lang/constant/Constable" (some 0) with
  accessFlags := 1537
  interfaces := #[]
  cf := some (fileOf pool5 1 #[] #[] 1537 3 #[] #[])
  fields := #[]
  methods := #[]
  instanceTypes := #[]
  staticTypes := #[]
  resolved := Array.replicate 11 none
  statics := none }

def pool6 : Array CpInfo := pool [(1, .class_ 2), (0, u "java/lang/constant/ConstantDesc"), (0, .class_ 4), (0, u "java/lang/Object")] 32

/-- java/lang/constant/ConstantDesc -/
def k6 : Class := { plain "java/lang/constant/ConstantDesc" (some 0) with
  accessFlags := 1537
  interfaces := #[]
  cf := some (fileOf pool6 1 #[] #[] 1537 3 #[] #[])
  fields := #[]
  methods := #[]
  instanceTypes := #[]
  staticTypes := #[]
  resolved := Array.replicate 37 none
  statics := none }

def pool7 : Array CpInfo := pool [(1, .methodref 2 3), (0, .class_ 4), (0, .nameAndType 5 6), (0, u "java/lang/Object"), (0, u "<init>"), (0, u "()V"), (0, .string 8), (0, u ""), (0, .fieldref 10 11), (0, .class_ 12), (0, .nameAndType 13 14), (0, u "java/lang/String"), (0, u "value"), (0, u "[B"), (0, .fieldref 10 16), (0, .nameAndType 17 18), (0, u "coder"), (0, u "B"), (2, u "hash"), (0, u "I"), (2, u "hashIsZero"), (0, u "Z"), (0, .methodref 10 28), (0, .nameAndType 5 29), (0, u "([CIILjava/lang/Void;)V"), (6, u "checkBoundsOffCount"), (0, u "(III)I"), (0, .fieldref 10 39), (0, .nameAndType 40 26), (0, u "COMPACT_STRINGS"), (1, .class_ 44), (1, u "java/lang/StringUTF16"), (0, u "compress"), (1, .methodref 42 48), (0, .nameAndType 49 50), (0, u "coderFromArrayLen"), (0, u "([BI)B"), (3, .methodref 55 56), (0, .class_ 57), (0, .nameAndType 58 59), (0, u "java/util/Arrays"), (0, u "copyOfRange"), (0, u "([BII)[B"), (46, .methodref 107 108), (0, .class_ 109), (0, .nameAndType 110 111), (0, u "java/lang/StringLatin1"), (0, u "inflate"), (0, u "([BI[BII)V"), (30, u "()Z"), (34, .methodref 42 178), (0, .nameAndType 45 179), (0, u "([CII)[B"), (13, .class_ 195), (1, u "java/lang/System"), (16, .methodref 193 213), (0, .nameAndType 214 215), (0, u "arraycopy"), (0, u "(Ljava/lang/Object;ILjava/lang/Object;II)V"), (118, u "()I"), (0, .methodref 10 336), (0, .nameAndType 17 337), (0, u "()B"), (2, u "()[B"), (22, u "([BI)C"), (27, u "(II)V"), (35, u "(I)C"), (61, .methodref 10 490), (0, .nameAndType 5 491), (0, u "(Ljava/lang/AbstractStringBuilder;Ljava/lang/Void;)V"), (0, .methodref 10 493), (0, .nameAndType 494 142), (0, u "isLatin1"), (0, .methodref 107 496), (0, .nameAndType 497 363), (0, u "charAt"), (0, .methodref 42 496), (2, u "checkIndex"), (4, .nameAndType 507 334), (0, u "length"), (24, u "getBytes"), (16, .methodref 550 506), (0, .class_ 551), (0, u "java/lang/AbstractStringBuilder"), (0, .methodref 550 553), (0, .nameAndType 554 340), (0, u "getValue"), (20, .class_ 576), (0, u "java/lang/CharSequence"), (22, u "CASE_INSENSITIVE_ORDER"), (0, u "Ljava/util/Comparator;"), (220, u "([BIB)V"), (188, u "([C)V"), (36, .methodref 550 493), (0, .fieldref 550 1049), (0, .nameAndType 1050 26), (0, u "maybeLatin1"), (2, .fieldref 1054 1055), (0, .class_ 1056), (0, .nameAndType 1057 1058), (0, u "jdk/internal/util/Preconditions"), (0, u "SIOOBE_FORMATTER"), (0, u "Ljava/util/function/BiFunction;"), (0, .methodref 1054 1060), (0, .nameAndType 501 1061), (0, u "(IILjava/util/function/BiFunction;)I"), (2, u "(IIILjava/util/function/BiFunction;)I"), (0, .methodref 1054 1066), (0, .nameAndType 1067 1064), (0, u "checkFromIndexSize"), (33, u "serialPersistentFields"), (0, u "[Ljava/io/ObjectStreamField;"), (0, .class_ 1104), (0, u "java/lang/String$CaseInsensitiveComparator"), (1, .class_ 1107), (0, u "java/io/Serializable"), (0, .class_ 1109), (0, u "java/lang/Comparable"), (0, .class_ 1111), (0, u "java/lang/constant/Constable"), (0, .class_ 1113), (0, u "java/lang/constant/ConstantDesc"), (2, u "serialVersionUID"), (0, u "J"), (3, u "REPL"), (0, u "C"), (2, u "LATIN1"), (1, u "UTF16"), (105, u "(Ljava/lang/StringBuilder;)V")] 217

def k7m0 : Method := { name := "<init>", desc := "()V", sig := { parameters := [], returnType := none }, accessFlags := 1, code := none }
def k7c1 : Code := { maxStack := 5, maxLocals := 2, code := jdk_42_method_3_code, exceptionTable := #[], attributes := #[] }
def k7m1 : Method := { name := "<init>", desc := "([C)V", sig := { parameters := [(.array .char)], returnType := none }, accessFlags := 1, code := some k7c1 }
def k7c2 : Code := { maxStack := 3, maxLocals := 2, code := jdk_42_method_53_code, exceptionTable := #[], attributes := #[] }
def k7m2 : Method := { name := "<init>", desc := "(Ljava/lang/StringBuilder;)V", sig := { parameters := [(.object "java/lang/StringBuilder")], returnType := none }, accessFlags := 1, code := some k7c2 }
def k7c3 : Code := { maxStack := 2, maxLocals := 1, code := jdk_42_method_54_code, exceptionTable := #[], attributes := #[] }
def k7m3 : Method := { name := "length", desc := "()I", sig := { parameters := [], returnType := some .int }, accessFlags := 1, code := some k7c3 }
def k7c4 : Code := { maxStack := 2, maxLocals := 2, code := jdk_42_method_56_code, exceptionTable := #[], attributes := #[] }
def k7m4 : Method := { name := "charAt", desc := "(I)C", sig := { parameters := [.int], returnType := some .char }, accessFlags := 1, code := some k7c4 }
def k7c5 : Code := { maxStack := 5, maxLocals := 4, code := jdk_42_method_147_code, exceptionTable := #[], attributes := #[] }
def k7m5 : Method := { name := "getBytes", desc := "([BIB)V", sig := { parameters := [(.array .byte), .int, .byte], returnType := none }, accessFlags := 0, code := some k7c5 }
def k7c6 : Code := { maxStack := 4, maxLocals := 6, code := jdk_42_method_149_code, exceptionTable := #[], attributes := #[] }
def k7m6 : Method := { name := "<init>", desc := "([CIILjava/lang/Void;)V", sig := { parameters := [(.array .char), .int, .int, (.object "java/lang/Void")], returnType := none }, accessFlags := 2, code := some k7c6 }
def k7c7 : Code := { maxStack := 5, maxLocals := 5, code := jdk_42_method_150_code, exceptionTable := #[], attributes := #[] }
def k7m7 : Method := { name := "<init>", desc := "(Ljava/lang/AbstractStringBuilder;Ljava/lang/Void;)V", sig := { parameters := [(.object "java/lang/AbstractStringBuilder"), (.object "java/lang/Void")], returnType := none }, accessFlags := 0, code := some k7c7 }
def k7c8 : Code := { maxStack := 1, maxLocals := 1, code := jdk_42_method_152_code, exceptionTable := #[], attributes := #[] }
def k7m8 : Method := { name := "coder", desc := "()B", sig := { parameters := [], returnType := some .byte }, accessFlags := 0, code := some k7c8 }
def k7c9 : Code := { maxStack := 1, maxLocals := 1, code := jdk_42_method_154_code, exceptionTable := #[], attributes := #[] }
def k7m9 : Method := { name := "isLatin1", desc := "()Z", sig := { parameters := [], returnType := some .boolean }, accessFlags := 0, code := some k7c9 }
def k7c10 : Code := { maxStack := 3, maxLocals := 2, code := jdk_42_method_155_code, exceptionTable := #[], attributes := #[] }
def k7m10 : Method := { name := "checkIndex", desc := "(II)V", sig := { parameters := [.int, .int], returnType := none }, accessFlags := 8, code := some k7c10 }
def k7c11 : Code := { maxStack := 4, maxLocals := 3, code := jdk_42_method_157_code, exceptionTable := #[], attributes := #[] }
def k7m11 : Method := { name := "checkBoundsOffCount", desc := "(III)I", sig := { parameters := [.int, .int, .int], returnType := some .int }, accessFlags := 8, code := some k7c11 }
/-- java/lang/String -/
def k7 : Class := { plain "java/lang/String" (some 0) with
  accessFlags := 49
  interfaces := #[2, 3, 4, 5, 6]
  cf := some (fileOf pool7 10 #[.nestMembers #[1103]] #[{ accessFlags := 1, nameIndex := 5, descriptorIndex := 6, attributes := #[] }, { accessFlags := 1, nameIndex := 5, descriptorIndex := 1010, attributes := #[] }, { accessFlags := 1, nameIndex := 5, descriptorIndex := 1233, attributes := #[] }, { accessFlags := 1, nameIndex := 507, descriptorIndex := 334, attributes := #[] }, { accessFlags := 1, nameIndex := 497, descriptorIndex := 427, attributes := #[] }, { accessFlags := 0, nameIndex := 532, descriptorIndex := 821, attributes := #[] }, { accessFlags := 2, nameIndex := 5, descriptorIndex := 29, attributes := #[] }, { accessFlags := 0, nameIndex := 5, descriptorIndex := 491, attributes := #[] }, { accessFlags := 0, nameIndex := 17, descriptorIndex := 337, attributes := #[] }, { accessFlags := 0, nameIndex := 494, descriptorIndex := 142, attributes := #[] }, { accessFlags := 8, nameIndex := 501, descriptorIndex := 391, attributes := #[] }, { accessFlags := 8, nameIndex := 36, descriptorIndex := 37, attributes := #[] }] 49 2 #[1106, 1108, 575, 1110, 1112] #[{ accessFlags := 18, nameIndex := 13, descriptorIndex := 14, attributes := #[] }, { accessFlags := 18, nameIndex := 17, descriptorIndex := 18, attributes := #[] }, { accessFlags := 2, nameIndex := 21, descriptorIndex := 22, attributes := #[] }, { accessFlags := 2, nameIndex := 25, descriptorIndex := 26, attributes := #[] }, { accessFlags := 26, nameIndex := 1116, descriptorIndex := 1117, attributes := #[] }, { accessFlags := 24, nameIndex := 40, descriptorIndex := 26, attributes := #[] }, { accessFlags := 26, nameIndex := 1101, descriptorIndex := 1102, attributes := #[] }, { accessFlags := 26, nameIndex := 1121, descriptorIndex := 1122, attributes := #[] }, { accessFlags := 25, nameIndex := 599, descriptorIndex := 600, attributes := #[] }, { accessFlags := 24, nameIndex := 1125, descriptorIndex := 18, attributes := #[] }, { accessFlags := 24, nameIndex := 1127, descriptorIndex := 18, attributes := #[] }])
  fields := #[{ name := "value", type := (.array .byte), accessFlags := 18, slot := 0, constantValue := 0 }, { name := "coder", type := .byte, accessFlags := 18, slot := 1, constantValue := 0 }, { name := "hash", type := .int, accessFlags := 2, slot := 2, constantValue := 0 }, { name := "hashIsZero", type := .boolean, accessFlags := 2, slot := 3, constantValue := 0 }, { name := "serialVersionUID", type := .long, accessFlags := 26, slot := 0, constantValue := 0 }, { name := "COMPACT_STRINGS", type := .boolean, accessFlags := 24, slot := 1, constantValue := 0 }, { name := "serialPersistentFields", type := (.array (.object "java/io/ObjectStreamField")), accessFlags := 26, slot := 2, constantValue := 0 }, { name := "REPL", type := .char, accessFlags := 26, slot := 3, constantValue := 0 }, { name := "CASE_INSENSITIVE_ORDER", type := (.object "java/util/Comparator"), accessFlags := 25, slot := 4, constantValue := 0 }, { name := "LATIN1", type := .byte, accessFlags := 24, slot := 5, constantValue := 0 }, { name := "UTF16", type := .byte, accessFlags := 24, slot := 6, constantValue := 0 }]
  methods := #[k7m0, k7m1, k7m2, k7m3, k7m4, k7m5, k7m6, k7m7, k7m8, k7m9, k7m10, k7m11]
  instanceTypes := #[(.array .byte), .byte, .int, .boolean]
  staticTypes := #[.long, .boolean, (.array (.object "java/io/ObjectStreamField")), .char, (.object "java/util/Comparator"), .byte, .byte]
  resolved := Array.replicate 1451 none
  statics := some 0 }

def pool8 : Array CpInfo := pool [(3, .class_ 4), (0, u "java/lang/String"), (1, .class_ 8), (1, u "java/lang/Object"), (0, u "<init>"), (0, u "()V"), (0, .methodref 12 13), (0, .class_ 14), (0, .nameAndType 15 16), (0, u "java/lang/StringUTF16"), (0, u "newBytesLength"), (0, u "(I)I"), (3, .integer 1073741823), (23, .fieldref 12 45), (0, .nameAndType 46 47), (0, u "$assertionsDisabled"), (0, u "Z"), (0, .methodref 12 49), (0, .nameAndType 50 51), (0, u "length"), (0, u "([B)I"), (7, .fieldref 12 60), (0, .nameAndType 61 62), (0, u "HI_BYTE_SHIFT"), (0, u "I"), (0, .fieldref 12 64), (0, .nameAndType 65 62), (0, u "LO_BYTE_SHIFT"), (1, .methodref 12 68), (0, .nameAndType 69 70), (0, u "checkIndex"), (0, u "(I[B)V"), (0, .methodref 12 72), (0, .nameAndType 73 74), (0, u "getChar"), (0, u "([BI)C"), (24, u "(II[B)V"), (7, .methodref 12 108), (0, .nameAndType 109 110), (0, u "newBytesFor"), (0, u "(I)[B"), (0, .methodref 12 112), (0, .nameAndType 113 114), (0, u "putChar"), (0, u "([BII)V"), (0, .methodref 12 116), (0, .nameAndType 117 118), (0, u "compress"), (0, u "([CI[BII)I"), (0, .methodref 12 120), (0, .nameAndType 121 122), (0, u "toBytes"), (0, u "([CII)[B"), (17, u "inflate"), (0, u "([BI[BII)V"), (31, .methodref 12 174), (0, .nameAndType 175 99), (0, u "checkBoundsOffCount"), (85, u "coderFromArrayLen"), (0, u "([BI)B"), (18, u "(III)I"), (87, .class_ 371), (1, u "java/lang/StringUTF16$LinesSpliterator"), (20, u "charAt"), (21, .methodref 3 415), (0, .nameAndType 69 416), (0, u "(II)V"), (2, .methodref 3 420), (0, .nameAndType 175 281), (9, u "MAX_LENGTH"), (196, .class_ 628), (0, u "java/lang/StringUTF16$CodePointsSpliterator"), (0, .class_ 630), (0, u "java/lang/StringUTF16$CharsSpliterator")] 4

def k8m0 : Method := { name := "<init>", desc := "()V", sig := { parameters := [], returnType := none }, accessFlags := 0, code := none }
def k8c1 : Code := { maxStack := 1, maxLocals := 1, code := jdk_52_method_2_code, exceptionTable := #[], attributes := #[] }
def k8m1 : Method := { name := "newBytesFor", desc := "(I)[B", sig := { parameters := [.int], returnType := some (.array .byte) }, accessFlags := 9, code := some k8c1 }
def k8c2 : Code := { maxStack := 4, maxLocals := 1, code := jdk_52_method_3_code, exceptionTable := #[], attributes := #[] }
def k8m2 : Method := { name := "newBytesLength", desc := "(I)I", sig := { parameters := [.int], returnType := some .int }, accessFlags := 9, code := some k8c2 }
def k8c3 : Code := { maxStack := 4, maxLocals := 3, code := jdk_52_method_4_code, exceptionTable := #[], attributes := #[] }
def k8m3 : Method := { name := "putChar", desc := "([BII)V", sig := { parameters := [(.array .byte), .int, .int], returnType := none }, accessFlags := 8, code := some k8c3 }
def k8c4 : Code := { maxStack := 3, maxLocals := 2, code := jdk_52_method_5_code, exceptionTable := #[], attributes := #[] }
def k8m4 : Method := { name := "getChar", desc := "([BI)C", sig := { parameters := [(.array .byte), .int], returnType := some .char }, accessFlags := 8, code := some k8c4 }
def k8c5 : Code := { maxStack := 2, maxLocals := 1, code := jdk_52_method_6_code, exceptionTable := #[], attributes := #[] }
def k8m5 : Method := { name := "length", desc := "([B)I", sig := { parameters := [(.array .byte)], returnType := some .int }, accessFlags := 9, code := some k8c5 }
def k8c6 : Code := { maxStack := 4, maxLocals := 5, code := jdk_52_method_14_code, exceptionTable := #[], attributes := #[] }
def k8m6 : Method := { name := "toBytes", desc := "([CII)[B", sig := { parameters := [(.array .char), .int, .int], returnType := some (.array .byte) }, accessFlags := 9, code := some k8c6 }
def k8c7 : Code := { maxStack := 2, maxLocals := 2, code := jdk_52_method_15_code, exceptionTable := #[], attributes := #[] }
def k8m7 : Method := { name := "coderFromArrayLen", desc := "([BI)B", sig := { parameters := [(.array .byte), .int], returnType := some .byte }, accessFlags := 8, code := some k8c7 }
def k8c8 : Code := { maxStack := 5, maxLocals := 6, code := jdk_52_method_16_code, exceptionTable := #[], attributes := #[] }
def k8m8 : Method := { name := "compress", desc := "([CII)[B", sig := { parameters := [(.array .char), .int, .int], returnType := some (.array .byte) }, accessFlags := 9, code := some k8c8 }
def k8c9 : Code := { maxStack := 3, maxLocals := 7, code := jdk_52_method_21_code, exceptionTable := #[], attributes := #[] }
def k8m9 : Method := { name := "compress", desc := "([CI[BII)I", sig := { parameters := [(.array .char), .int, (.array .byte), .int, .int], returnType := some .int }, accessFlags := 9, code := some k8c9 }
def k8c10 : Code := { maxStack := 2, maxLocals := 2, code := jdk_52_method_83_code, exceptionTable := #[], attributes := #[] }
def k8m10 : Method := { name := "charAt", desc := "([BI)C", sig := { parameters := [(.array .byte), .int], returnType := some .char }, accessFlags := 9, code := some k8c10 }
def k8c11 : Code := { maxStack := 4, maxLocals := 6, code := jdk_52_method_86_code, exceptionTable := #[], attributes := #[] }
def k8m11 : Method := { name := "inflate", desc := "([BI[BII)V", sig := { parameters := [(.array .byte), .int, (.array .byte), .int, .int], returnType := none }, accessFlags := 9, code := some k8c11 }
def k8c12 : Code := { maxStack := 2, maxLocals := 2, code := jdk_52_method_91_code, exceptionTable := #[], attributes := #[] }
def k8m12 : Method := { name := "checkIndex", desc := "(I[B)V", sig := { parameters := [.int, (.array .byte)], returnType := none }, accessFlags := 9, code := some k8c12 }
def k8c13 : Code := { maxStack := 3, maxLocals := 3, code := jdk_52_method_94_code, exceptionTable := #[], attributes := #[] }
def k8m13 : Method := { name := "checkBoundsOffCount", desc := "(II[B)V", sig := { parameters := [.int, .int, (.array .byte)], returnType := none }, accessFlags := 9, code := some k8c13 }
/-- java/lang/StringUTF16 -/
def k8 : Class := { plain "java/lang/StringUTF16" (some 0) with
  accessFlags := 48
  interfaces := #[]
  cf := some (fileOf pool8 12 #[.nestMembers #[627, 629, 369]] #[{ accessFlags := 0, nameIndex := 9, descriptorIndex := 10, attributes := #[] }, { accessFlags := 9, nameIndex := 109, descriptorIndex := 110, attributes := #[] }, { accessFlags := 9, nameIndex := 15, descriptorIndex := 16, attributes := #[] }, { accessFlags := 8, nameIndex := 113, descriptorIndex := 114, attributes := #[] }, { accessFlags := 8, nameIndex := 73, descriptorIndex := 74, attributes := #[] }, { accessFlags := 9, nameIndex := 50, descriptorIndex := 51, attributes := #[] }, { accessFlags := 9, nameIndex := 121, descriptorIndex := 122, attributes := #[] }, { accessFlags := 8, nameIndex := 261, descriptorIndex := 262, attributes := #[] }, { accessFlags := 9, nameIndex := 117, descriptorIndex := 122, attributes := #[] }, { accessFlags := 9, nameIndex := 117, descriptorIndex := 118, attributes := #[] }, { accessFlags := 9, nameIndex := 392, descriptorIndex := 74, attributes := #[] }, { accessFlags := 9, nameIndex := 140, descriptorIndex := 141, attributes := #[] }, { accessFlags := 9, nameIndex := 69, descriptorIndex := 70, attributes := #[] }, { accessFlags := 9, nameIndex := 175, descriptorIndex := 99, attributes := #[] }] 48 6 #[] #[{ accessFlags := 26, nameIndex := 61, descriptorIndex := 62, attributes := #[] }, { accessFlags := 26, nameIndex := 65, descriptorIndex := 62, attributes := #[] }, { accessFlags := 24, nameIndex := 430, descriptorIndex := 62, attributes := #[] }, { accessFlags := 4120, nameIndex := 46, descriptorIndex := 47, attributes := #[] }])
  fields := #[{ name := "HI_BYTE_SHIFT", type := .int, accessFlags := 26, slot := 0, constantValue := 0 }, { name := "LO_BYTE_SHIFT", type := .int, accessFlags := 26, slot := 1, constantValue := 0 }, { name := "MAX_LENGTH", type := .int, accessFlags := 24, slot := 2, constantValue := 0 }, { name := "$assertionsDisabled", type := .boolean, accessFlags := 4120, slot := 3, constantValue := 0 }]
  methods := #[k8m0, k8m1, k8m2, k8m3, k8m4, k8m5, k8m6, k8m7, k8m8, k8m9, k8m10, k8m11, k8m12, k8m13]
  instanceTypes := #[]
  staticTypes := #[.int, .int, .int, .boolean]
  resolved := Array.replicate 635 none
  statics := some 1 }

def pool9 : Array CpInfo := pool [(2, .class_ 4), (0, .nameAndType 5 6), (0, u "java/lang/Object"), (0, u "<init>"), (0, u "()V"), (1, .class_ 10), (1, u "com/example/tidegauge/tidegauge/Options"), (0, u "values"), (0, u "Ljava/util/Map;"), (21, .class_ 35), (0, u "com/example/tidegauge/tidegauge/UsageException"), (6, .class_ 43), (0, u "java/lang/StringBuilder"), (0, .methodref 42 3), (2, .methodref 42 48), (0, .nameAndType 49 50), (0, u "append"), (0, u "(Ljava/lang/String;)Ljava/lang/StringBuilder;"), (2, .methodref 42 54), (0, .nameAndType 55 56), (0, u "toString"), (0, u "()Ljava/lang/String;"), (2, .methodref 34 60), (0, .nameAndType 5 61), (0, u "(Ljava/lang/String;)V"), (0, .string 63), (0, u "option "), (18, u "givenTwice"), (0, u "(Ljava/lang/String;)Lcom/example/tidegauge/tidegauge/UsageException;"), (117, .string 202), (0, u " is given twice"), (11, u "POSITIVE_INT"), (0, u "Ljava/util/regex/Pattern;")] 79

def k9c0 : Code := { maxStack := 4, maxLocals := 1, code := prog_29_method_14_code, exceptionTable := #[], attributes := #[] }
def k9m0 : Method := { name := "givenTwice", desc := "(Ljava/lang/String;)Lcom/example/tidegauge/tidegauge/UsageException;", sig := { parameters := [(.object "java/lang/String")], returnType := some (.object "com/example/tidegauge/tidegauge/UsageException") }, accessFlags := 8, code := some k9c0 }
/-- com/example/tidegauge/tidegauge/Options -/
def k9 : Class := { plain "com/example/tidegauge/tidegauge/Options" (some 0) with
  accessFlags := 48
  interfaces := #[]
  cf := some (fileOf pool9 8 #[] #[{ accessFlags := 8, nameIndex := 82, descriptorIndex := 83, attributes := #[] }] 48 2 #[] #[{ accessFlags := 26, nameIndex := 214, descriptorIndex := 215, attributes := #[] }, { accessFlags := 18, nameIndex := 11, descriptorIndex := 12, attributes := #[] }])
  fields := #[{ name := "POSITIVE_INT", type := (.object "java/util/regex/Pattern"), accessFlags := 26, slot := 0, constantValue := 0 }, { name := "values", type := (.object "java/util/Map"), accessFlags := 18, slot := 0, constantValue := 0 }]
  methods := #[k9m0]
  instanceTypes := #[(.object "java/util/Map")]
  staticTypes := #[(.object "java/util/regex/Pattern")]
  resolved := Array.replicate 295 none
  statics := none }

def pool10 : Array CpInfo := pool [(1, .methodref 2 3), (0, .class_ 4), (0, .nameAndType 5 6), (0, u "java/lang/Object"), (0, u "<init>"), (0, u "()V"), (0, .fieldref 8 9), (0, .class_ 10), (0, .nameAndType 11 12), (0, u "java/lang/Throwable"), (0, u "cause"), (0, u "Ljava/lang/Throwable;"), (0, .fieldref 8 14), (0, .nameAndType 15 16), (0, u "UNASSIGNED_STACK"), (0, u "[Ljava/lang/StackTraceElement;"), (0, .fieldref 8 18), (0, .nameAndType 19 16), (0, u "stackTrace"), (0, .fieldref 8 21), (0, .nameAndType 22 23), (0, u "SUPPRESSED_SENTINEL"), (0, u "Ljava/util/List;"), (0, .fieldref 8 25), (0, .nameAndType 26 23), (0, u "suppressedExceptions"), (0, .methodref 8 28), (0, .nameAndType 29 30), (0, u "fillInStackTrace"), (0, u "()Ljava/lang/Throwable;"), (0, .fieldref 8 32), (0, .nameAndType 33 34), (0, u "detailMessage"), (0, u "Ljava/lang/String;"), (3, u "()Ljava/lang/String;"), (2, u "getMessage"), (51, .class_ 94), (0, u "java/lang/Throwable$WrappedPrintStream"), (6, .class_ 103), (1, u "java/lang/Throwable$PrintStreamOrWriter"), (61, u "$assertionsDisabled"), (0, u "Z"), (26, .class_ 194), (0, u "java/lang/Throwable$WrappedPrintWriter"), (3, .fieldref 8 199), (0, .nameAndType 200 201), (0, u "backtrace"), (0, u "Ljava/lang/Object;"), (0, .methodref 8 203), (0, .nameAndType 29 204), (0, u "(I)Ljava/lang/Throwable;"), (6, u "depth"), (0, u "I"), (10, u "(Ljava/lang/String;)V"), (45, .class_ 271), (1, u "java/lang/Throwable$SentinelHolder"), (32, u "EMPTY_THROWABLE_ARRAY"), (0, u "[Ljava/lang/Throwable;"), (12, .class_ 319), (0, u "java/io/Serializable"), (0, u "serialVersionUID"), (0, u "J"), (5, u "NULL_CAUSE_MESSAGE"), (0, u "SELF_SUPPRESSION_MESSAGE"), (0, u "CAUSE_CAPTION"), (0, u "SUPPRESSED_CAPTION")] 73

def k10c0 : Code := { maxStack := 2, maxLocals := 1, code := jdk_78_method_1_code, exceptionTable := #[], attributes := #[] }
def k10m0 : Method := { name := "<init>", desc := "()V", sig := { parameters := [], returnType := none }, accessFlags := 1, code := some k10c0 }
def k10c1 : Code := { maxStack := 2, maxLocals := 2, code := jdk_78_method_2_code, exceptionTable := #[], attributes := #[] }
def k10m1 : Method := { name := "<init>", desc := "(Ljava/lang/String;)V", sig := { parameters := [(.object "java/lang/String")], returnType := none }, accessFlags := 1, code := some k10c1 }
def k10c2 : Code := { maxStack := 1, maxLocals := 1, code := jdk_78_method_6_code, exceptionTable := #[], attributes := #[] }
def k10m2 : Method := { name := "getMessage", desc := "()Ljava/lang/String;", sig := { parameters := [], returnType := some (.object "java/lang/String") }, accessFlags := 1, code := some k10c2 }
def k10c3 : Code := { maxStack := 2, maxLocals := 1, code := ⟨#[0x2a, 0xb4, 0x00, 0x11, 0xc7, 0x00, 0x0a, 0x2a, 0xb4, 0x00, 0xc6, 0xc6, 0x00, 0x10, 0x2a, 0x03, 0xb6, 0x00, 0xca, 0x57, 0x2a, 0xb2, 0x00, 0x0d, 0xb5, 0x00, 0x11, 0x2a, 0xb0]⟩, exceptionTable := #[], attributes := #[] }
def k10m3 : Method := { name := "fillInStackTrace", desc := "()Ljava/lang/Throwable;", sig := { parameters := [], returnType := some (.object "java/lang/Throwable") }, accessFlags := 33, code := some k10c3 }
def k10m4 : Method := { name := "fillInStackTrace", desc := "(I)Ljava/lang/Throwable;", sig := { parameters := [.int], returnType := some (.object "java/lang/Throwable") }, accessFlags := 258, code := none }
/-- java/lang/Throwable -/
def k10 : Class := { plain "java/lang/Throwable" (some 0) with
  accessFlags := 33
  interfaces := #[2]
  cf := some (fileOf pool10 8 #[.nestMembers #[193, 93, 101, 269]] #[{ accessFlags := 1, nameIndex := 5, descriptorIndex := 6, attributes := #[] }, { accessFlags := 1, nameIndex := 5, descriptorIndex := 223, attributes := #[] }, { accessFlags := 1, nameIndex := 41, descriptorIndex := 38, attributes := #[] }, { accessFlags := 33, nameIndex := 29, descriptorIndex := 30, attributes := #[] }, { accessFlags := 258, nameIndex := 29, descriptorIndex := 204, attributes := #[] }] 33 2 #[318] #[{ accessFlags := 26, nameIndex := 320, descriptorIndex := 321, attributes := #[] }, { accessFlags := 130, nameIndex := 200, descriptorIndex := 201, attributes := #[] }, { accessFlags := 2, nameIndex := 33, descriptorIndex := 34, attributes := #[] }, { accessFlags := 26, nameIndex := 15, descriptorIndex := 16, attributes := #[] }, { accessFlags := 2, nameIndex := 11, descriptorIndex := 12, attributes := #[] }, { accessFlags := 2, nameIndex := 19, descriptorIndex := 16, attributes := #[] }, { accessFlags := 130, nameIndex := 211, descriptorIndex := 212, attributes := #[] }, { accessFlags := 26, nameIndex := 22, descriptorIndex := 23, attributes := #[] }, { accessFlags := 2, nameIndex := 26, descriptorIndex := 23, attributes := #[] }, { accessFlags := 26, nameIndex := 327, descriptorIndex := 34, attributes := #[] }, { accessFlags := 26, nameIndex := 328, descriptorIndex := 34, attributes := #[] }, { accessFlags := 26, nameIndex := 329, descriptorIndex := 34, attributes := #[] }, { accessFlags := 26, nameIndex := 330, descriptorIndex := 34, attributes := #[] }, { accessFlags := 26, nameIndex := 304, descriptorIndex := 305, attributes := #[] }, { accessFlags := 4120, nameIndex := 165, descriptorIndex := 166, attributes := #[] }])
  fields := #[{ name := "serialVersionUID", type := .long, accessFlags := 26, slot := 0, constantValue := 0 }, { name := "backtrace", type := (.object "java/lang/Object"), accessFlags := 130, slot := 0, constantValue := 0 }, { name := "detailMessage", type := (.object "java/lang/String"), accessFlags := 2, slot := 1, constantValue := 0 }, { name := "UNASSIGNED_STACK", type := (.array (.object "java/lang/StackTraceElement")), accessFlags := 26, slot := 1, constantValue := 0 }, { name := "cause", type := (.object "java/lang/Throwable"), accessFlags := 2, slot := 2, constantValue := 0 }, { name := "stackTrace", type := (.array (.object "java/lang/StackTraceElement")), accessFlags := 2, slot := 3, constantValue := 0 }, { name := "depth", type := .int, accessFlags := 130, slot := 4, constantValue := 0 }, { name := "SUPPRESSED_SENTINEL", type := (.object "java/util/List"), accessFlags := 26, slot := 2, constantValue := 0 }, { name := "suppressedExceptions", type := (.object "java/util/List"), accessFlags := 2, slot := 5, constantValue := 0 }, { name := "NULL_CAUSE_MESSAGE", type := (.object "java/lang/String"), accessFlags := 26, slot := 3, constantValue := 0 }, { name := "SELF_SUPPRESSION_MESSAGE", type := (.object "java/lang/String"), accessFlags := 26, slot := 4, constantValue := 0 }, { name := "CAUSE_CAPTION", type := (.object "java/lang/String"), accessFlags := 26, slot := 5, constantValue := 0 }, { name := "SUPPRESSED_CAPTION", type := (.object "java/lang/String"), accessFlags := 26, slot := 6, constantValue := 0 }, { name := "EMPTY_THROWABLE_ARRAY", type := (.array (.object "java/lang/Throwable")), accessFlags := 26, slot := 7, constantValue := 0 }, { name := "$assertionsDisabled", type := .boolean, accessFlags := 4120, slot := 8, constantValue := 0 }]
  methods := #[k10m0, k10m1, k10m2, k10m3, k10m4]
  instanceTypes := #[(.object "java/lang/Object"), (.object "java/lang/String"), (.object "java/lang/Throwable"), (.array (.object "java/lang/StackTraceElement")), .int, (.object "java/util/List")]
  staticTypes := #[.long, (.array (.object "java/lang/StackTraceElement")), (.object "java/util/List"), (.object "java/lang/String"), (.object "java/lang/String"), (.object "java/lang/String"), (.object "java/lang/String"), (.array (.object "java/lang/Throwable")), .boolean]
  resolved := Array.replicate 404 none
  statics := some 2 }

def pool11 : Array CpInfo := pool [(2, .class_ 4), (1, u "java/lang/Throwable"), (0, u "<init>"), (0, u "()V"), (0, .methodref 2 8), (0, .nameAndType 5 9), (0, u "(Ljava/lang/String;)V"), (9, .class_ 20), (0, u "java/lang/Exception"), (0, u "serialVersionUID"), (0, u "J")] 17

def k11m0 : Method := { name := "<init>", desc := "()V", sig := { parameters := [], returnType := none }, accessFlags := 1, code := none }
def k11c1 : Code := { maxStack := 2, maxLocals := 2, code := jdk_59_method_2_code, exceptionTable := #[], attributes := #[] }
def k11m1 : Method := { name := "<init>", desc := "(Ljava/lang/String;)V", sig := { parameters := [(.object "java/lang/String")], returnType := none }, accessFlags := 1, code := some k11c1 }
/-- java/lang/Exception -/
def k11 : Class := { plain "java/lang/Exception" (some 10) with
  accessFlags := 33
  interfaces := #[]
  cf := some (fileOf pool11 19 #[] #[{ accessFlags := 1, nameIndex := 5, descriptorIndex := 6, attributes := #[] }, { accessFlags := 1, nameIndex := 5, descriptorIndex := 9, attributes := #[] }] 33 2 #[] #[{ accessFlags := 24, nameIndex := 21, descriptorIndex := 22, attributes := #[] }])
  fields := #[{ name := "serialVersionUID", type := .long, accessFlags := 24, slot := 0, constantValue := 0 }]
  methods := #[k11m0, k11m1]
  instanceTypes := #[(.object "java/lang/Object"), (.object "java/lang/String"), (.object "java/lang/Throwable"), (.array (.object "java/lang/StackTraceElement")), .int, (.object "java/util/List")]
  staticTypes := #[.long]
  resolved := Array.replicate 40 none
  statics := none }

def pool12 : Array CpInfo := pool [(1, .methodref 2 3), (0, .class_ 4), (0, .nameAndType 5 6), (0, u "java/lang/Exception"), (0, u "<init>"), (0, u "(Ljava/lang/String;)V"), (0, .class_ 8), (0, u "com/example/tidegauge/tidegauge/UsageException"), (30, u "serialVersionUID"), (0, u "J")] 11

def k12c0 : Code := { maxStack := 2, maxLocals := 2, code := prog_43_method_1_code, exceptionTable := #[], attributes := #[] }
def k12m0 : Method := { name := "<init>", desc := "(Ljava/lang/String;)V", sig := { parameters := [(.object "java/lang/String")], returnType := none }, accessFlags := 0, code := some k12c0 }
/-- com/example/tidegauge/tidegauge/UsageException -/
def k12 : Class := { plain "com/example/tidegauge/tidegauge/UsageException" (some 11) with
  accessFlags := 48
  interfaces := #[]
  cf := some (fileOf pool12 7 #[] #[{ accessFlags := 0, nameIndex := 5, descriptorIndex := 6, attributes := #[] }] 48 2 #[] #[{ accessFlags := 26, nameIndex := 39, descriptorIndex := 40, attributes := #[] }])
  fields := #[{ name := "serialVersionUID", type := .long, accessFlags := 26, slot := 0, constantValue := 0 }]
  methods := #[k12m0]
  instanceTypes := #[(.object "java/lang/Object"), (.object "java/lang/String"), (.object "java/lang/Throwable"), (.array (.object "java/lang/StackTraceElement")), .int, (.object "java/util/List")]
  staticTypes := #[.long]
  resolved := Array.replicate 52 none
  statics := none }

def pool13 : Array CpInfo := pool [(1, .class_ 2), (0, u "java/lang/Appendable"), (0, .class_ 4), (0, u "java/lang/Object")] 9

/-- java/lang/Appendable -/
def k13 : Class := { plain "java/lang/Appendable" (some 0) with
  accessFlags := 1537
  interfaces := #[]
  cf := some (fileOf pool13 1 #[] #[] 1537 3 #[] #[])
  fields := #[]
  methods := #[]
  instanceTypes := #[]
  staticTypes := #[]
  resolved := Array.replicate 14 none
  statics := none }

def pool14 : Array CpInfo := pool [(1, .class_ 2), (0, u "java/lang/String"), (0, .methodref 4 5), (0, .class_ 6), (0, .nameAndType 7 8), (0, u "java/lang/Object"), (0, u "<init>"), (0, u "()V"), (1, .class_ 12), (1, u "java/lang/AbstractStringBuilder"), (0, u "EMPTYVALUE"), (0, u "[B"), (0, .fieldref 10 16), (0, .nameAndType 17 14), (0, u "value"), (0, .fieldref 1 19), (0, .nameAndType 20 21), (0, u "COMPACT_STRINGS"), (0, u "Z"), (0, .fieldref 10 23), (0, .nameAndType 24 25), (0, u "coder"), (0, u "B"), (0, .methodref 27 28), (0, .class_ 29), (0, .nameAndType 30 31), (0, u "java/lang/StringUTF16"), (0, u "newBytesFor"), (0, u "(I)[B"), (0, .methodref 1 33), (0, .nameAndType 34 35), (0, u "length"), (0, u "()I"), (3, .integer 2147483647), (0, .methodref 1 41), (0, .nameAndType 24 42), (0, u "()B"), (2, u "append"), (0, u "(Ljava/lang/String;)Ljava/lang/AbstractStringBuilder;"), (1, .class_ 49), (0, u "java/lang/CharSequence"), (19, u "(Ljava/lang/String;)V"), (5, u "maybeLatin1"), (3, .fieldref 10 80), (0, .nameAndType 81 82), (0, u "count"), (0, u "I"), (0, .methodref 10 84), (0, .nameAndType 85 86), (0, u "isLatin1"), (0, u "()Z"), (1, .class_ 90), (1, u "java/lang/StringLatin1"), (9, .methodref 10 101), (0, .nameAndType 102 103), (0, u "ensureCapacityInternal"), (0, u "(I)V"), (0, .methodref 10 105), (0, .nameAndType 106 107), (0, u "newCapacity"), (0, u "(I)I"), (0, .methodref 109 110), (0, .class_ 111), (0, .nameAndType 112 113), (0, u "java/util/Arrays"), (0, u "copyOf"), (0, u "([BI)[B"), (0, .methodref 115 116), (0, .class_ 117), (0, .nameAndType 118 119), (0, u "jdk/internal/util/ArraysSupport"), (0, u "newLength"), (0, u "(III)I"), (5, .methodref 88 126), (0, .nameAndType 127 128), (0, u "inflate"), (0, u "([BI[BII)V"), (66, .methodref 10 196), (0, .nameAndType 127 8), (11, .methodref 10 209), (0, .nameAndType 210 211), (0, u "putStringAt"), (0, u "(ILjava/lang/String;)V"), (5, u "inflateIfNeededFor"), (2, .nameAndType 221 222), (0, u "getBytes"), (0, u "([BIB)V"), (174, .methodref 10 398), (0, .nameAndType 217 69), (0, .methodref 1 220), (3, u "()[B"), (40, .class_ 445), (0, u "java/lang/Appendable"), (106, u "getValue")] 56

def k14m0 : Method := { name := "<init>", desc := "()V", sig := { parameters := [], returnType := none }, accessFlags := 0, code := none }
def k14c1 : Code := { maxStack := 2, maxLocals := 2, code := jdk_68_method_2_code, exceptionTable := #[], attributes := #[] }
def k14m1 : Method := { name := "<init>", desc := "(I)V", sig := { parameters := [.int], returnType := none }, accessFlags := 0, code := some k14c1 }
def k14c2 : Code := { maxStack := 1, maxLocals := 1, code := jdk_68_method_6_code, exceptionTable := #[], attributes := #[] }
def k14m2 : Method := { name := "length", desc := "()I", sig := { parameters := [], returnType := some .int }, accessFlags := 1, code := some k14c2 }
def k14c3 : Code := { maxStack := 4, maxLocals := 3, code := jdk_68_method_9_code, exceptionTable := #[], attributes := #[] }
def k14m3 : Method := { name := "ensureCapacityInternal", desc := "(I)V", sig := { parameters := [.int], returnType := none }, accessFlags := 2, code := some k14c3 }
def k14c4 : Code := { maxStack := 5, maxLocals := 6, code := jdk_68_method_10_code, exceptionTable := #[], attributes := #[] }
def k14m4 : Method := { name := "newCapacity", desc := "(I)I", sig := { parameters := [.int], returnType := some .int }, accessFlags := 2, code := some k14c4 }
def k14c5 : Code := { maxStack := 5, maxLocals := 2, code := jdk_68_method_11_code, exceptionTable := #[], attributes := #[] }
def k14m5 : Method := { name := "inflate", desc := "()V", sig := { parameters := [], returnType := none }, accessFlags := 2, code := some k14c5 }
def k14c6 : Code := { maxStack := 3, maxLocals := 3, code := jdk_68_method_22_code, exceptionTable := #[], attributes := #[] }
def k14m6 : Method := { name := "append", desc := "(Ljava/lang/String;)Ljava/lang/AbstractStringBuilder;", sig := { parameters := [(.object "java/lang/String")], returnType := some (.object "java/lang/AbstractStringBuilder") }, accessFlags := 1, code := some k14c6 }
def k14c7 : Code := { maxStack := 1, maxLocals := 1, code := jdk_68_method_64_code, exceptionTable := #[], attributes := #[] }
def k14m7 : Method := { name := "getValue", desc := "()[B", sig := { parameters := [], returnType := some (.array .byte) }, accessFlags := 16, code := some k14c7 }
def k14c8 : Code := { maxStack := 1, maxLocals := 1, code := jdk_68_method_68_code, exceptionTable := #[], attributes := #[] }
def k14m8 : Method := { name := "isLatin1", desc := "()Z", sig := { parameters := [], returnType := some .boolean }, accessFlags := 16, code := some k14c8 }
def k14c9 : Code := { maxStack := 2, maxLocals := 2, code := jdk_68_method_71_code, exceptionTable := #[], attributes := #[] }
def k14m9 : Method := { name := "inflateIfNeededFor", desc := "(Ljava/lang/String;)V", sig := { parameters := [(.object "java/lang/String")], returnType := none }, accessFlags := 2, code := some k14c9 }
def k14c10 : Code := { maxStack := 4, maxLocals := 3, code := jdk_68_method_73_code, exceptionTable := #[], attributes := #[] }
def k14m10 : Method := { name := "putStringAt", desc := "(ILjava/lang/String;)V", sig := { parameters := [.int, (.object "java/lang/String")], returnType := none }, accessFlags := 2, code := some k14c10 }
/-- java/lang/AbstractStringBuilder -/
def k14 : Class := { plain "java/lang/AbstractStringBuilder" (some 0) with
  accessFlags := 1056
  interfaces := #[13, 4]
  cf := some (fileOf pool14 10 #[] #[{ accessFlags := 0, nameIndex := 7, descriptorIndex := 8, attributes := #[] }, { accessFlags := 0, nameIndex := 7, descriptorIndex := 103, attributes := #[] }, { accessFlags := 1, nameIndex := 34, descriptorIndex := 35, attributes := #[] }, { accessFlags := 2, nameIndex := 102, descriptorIndex := 103, attributes := #[] }, { accessFlags := 2, nameIndex := 106, descriptorIndex := 107, attributes := #[] }, { accessFlags := 2, nameIndex := 127, descriptorIndex := 8, attributes := #[] }, { accessFlags := 1, nameIndex := 45, descriptorIndex := 46, attributes := #[] }, { accessFlags := 16, nameIndex := 552, descriptorIndex := 403, attributes := #[] }, { accessFlags := 16, nameIndex := 85, descriptorIndex := 86, attributes := #[] }, { accessFlags := 2, nameIndex := 217, descriptorIndex := 69, attributes := #[] }, { accessFlags := 2, nameIndex := 210, descriptorIndex := 211, attributes := #[] }] 1056 4 #[444, 48] #[{ accessFlags := 0, nameIndex := 17, descriptorIndex := 14, attributes := #[] }, { accessFlags := 0, nameIndex := 24, descriptorIndex := 25, attributes := #[] }, { accessFlags := 0, nameIndex := 75, descriptorIndex := 21, attributes := #[] }, { accessFlags := 0, nameIndex := 81, descriptorIndex := 82, attributes := #[] }, { accessFlags := 26, nameIndex := 13, descriptorIndex := 14, attributes := #[] }])
  fields := #[{ name := "value", type := (.array .byte), accessFlags := 0, slot := 0, constantValue := 0 }, { name := "coder", type := .byte, accessFlags := 0, slot := 1, constantValue := 0 }, { name := "maybeLatin1", type := .boolean, accessFlags := 0, slot := 2, constantValue := 0 }, { name := "count", type := .int, accessFlags := 0, slot := 3, constantValue := 0 }, { name := "EMPTYVALUE", type := (.array .byte), accessFlags := 26, slot := 0, constantValue := 0 }]
  methods := #[k14m0, k14m1, k14m2, k14m3, k14m4, k14m5, k14m6, k14m7, k14m8, k14m9, k14m10]
  instanceTypes := #[(.array .byte), .byte, .boolean, .int]
  staticTypes := #[(.array .byte)]
  resolved := Array.replicate 609 none
  statics := none }

def pool15 : Array CpInfo := pool [(1, .methodref 2 3), (0, .class_ 4), (0, .nameAndType 5 6), (0, u "java/lang/AbstractStringBuilder"), (0, u "<init>"), (0, u "(I)V"), (11, .class_ 20), (1, u "java/lang/String"), (3, .class_ 26), (1, u "java/lang/StringBuilder"), (0, u "append"), (0, u "(Ljava/lang/String;)Ljava/lang/StringBuilder;"), (0, .methodref 2 30), (0, .nameAndType 27 31), (0, u "(Ljava/lang/String;)Ljava/lang/AbstractStringBuilder;"), (105, .methodref 18 138), (0, .nameAndType 5 139), (0, u "(Ljava/lang/StringBuilder;)V"), (5, u "()V"), (10, u "()I"), (186, .methodref 2 344), (0, .nameAndType 345 156), (0, u "length"), (3, .class_ 350), (0, u "java/lang/Appendable"), (0, .class_ 352), (0, u "java/io/Serializable"), (0, .class_ 354), (0, u "java/lang/Comparable"), (0, .class_ 356), (0, u "java/lang/CharSequence"), (0, u "serialVersionUID"), (0, u "J"), (40, u "toString"), (0, u "()Ljava/lang/String;")] 21

def k15c0 : Code := { maxStack := 2, maxLocals := 1, code := jdk_67_method_1_code, exceptionTable := #[], attributes := #[] }
def k15m0 : Method := { name := "<init>", desc := "()V", sig := { parameters := [], returnType := none }, accessFlags := 1, code := some k15c0 }
def k15c1 : Code := { maxStack := 2, maxLocals := 2, code := jdk_67_method_7_code, exceptionTable := #[], attributes := #[] }
def k15m1 : Method := { name := "append", desc := "(Ljava/lang/String;)Ljava/lang/StringBuilder;", sig := { parameters := [(.object "java/lang/String")], returnType := some (.object "java/lang/StringBuilder") }, accessFlags := 1, code := some k15c1 }
def k15c2 : Code := { maxStack := 3, maxLocals := 1, code := jdk_67_method_42_code, exceptionTable := #[], attributes := #[] }
def k15m2 : Method := { name := "toString", desc := "()Ljava/lang/String;", sig := { parameters := [], returnType := some (.object "java/lang/String") }, accessFlags := 1, code := some k15c2 }
def k15c3 : Code := { maxStack := 1, maxLocals := 1, code := jdk_67_method_93_code, exceptionTable := #[], attributes := #[] }
def k15m3 : Method := { name := "length", desc := "()I", sig := { parameters := [], returnType := some .int }, accessFlags := 4161, code := some k15c3 }
/-- java/lang/StringBuilder -/
def k15 : Class := { plain "java/lang/StringBuilder" (some 14) with
  accessFlags := 49
  interfaces := #[13, 2, 3, 4]
  cf := some (fileOf pool15 24 #[] #[{ accessFlags := 1, nameIndex := 5, descriptorIndex := 145, attributes := #[] }, { accessFlags := 1, nameIndex := 27, descriptorIndex := 28, attributes := #[] }, { accessFlags := 1, nameIndex := 399, descriptorIndex := 400, attributes := #[] }, { accessFlags := 4161, nameIndex := 345, descriptorIndex := 156, attributes := #[] }] 49 2 #[349, 351, 353, 355] #[{ accessFlags := 24, nameIndex := 357, descriptorIndex := 358, attributes := #[] }])
  fields := #[{ name := "serialVersionUID", type := .long, accessFlags := 24, slot := 0, constantValue := 0 }]
  methods := #[k15m0, k15m1, k15m2, k15m3]
  instanceTypes := #[(.array .byte), .byte, .boolean, .int]
  staticTypes := #[.long]
  resolved := Array.replicate 422 none
  statics := none }

def pool16 : Array CpInfo := pool [(2, .class_ 4), (1, u "java/lang/Object"), (0, u "<init>"), (0, u "()V"), (1, .class_ 10), (1, u "java/lang/System"), (0, u "allowSecurityManager"), (0, u "I"), (16, u "cons"), (0, u "Ljava/io/Console;"), (77, .class_ 110), (1, u "java/lang/System$CallersHolder"), (43, u "initialErrStream"), (0, u "Ljava/io/PrintStream;"), (19, u "security"), (0, u "Ljava/lang/SecurityManager;"), (31, .class_ 209), (0, u "java/lang/System$1"), (7, u "props"), (0, u "Ljava/util/Properties;"), (2, u "lineSeparator"), (0, u "Ljava/lang/String;"), (96, .class_ 321), (1, u "java/lang/System$LoggerFinder"), (5, .class_ 328), (0, u "java/lang/System$Logger"), (67, u "err"), (2, u "out"), (91, u "notSupportedJnuEncoding"), (15, u "in"), (17, u "initialIn"), (0, u "Ljava/io/InputStream;"), (35, u "bootLayer"), (0, u "Ljava/lang/ModuleLayer;"), (99, .class_ 664), (0, u "java/lang/System$2"), (9, u "NEVER"), (2, u "MAYBE"), (49, u "arraycopy"), (0, u "(Ljava/lang/Object;ILjava/lang/Object;II)V"), (72, .class_ 802), (0, u "java/lang/System$Logger$Level")] 31

def k16m0 : Method := { name := "<init>", desc := "()V", sig := { parameters := [], returnType := none }, accessFlags := 2, code := none }
def k16m1 : Method := { name := "arraycopy", desc := "(Ljava/lang/Object;ILjava/lang/Object;II)V", sig := { parameters := [(.object "java/lang/Object"), .int, (.object "java/lang/Object"), .int, .int], returnType := none }, accessFlags := 265, code := none }
/-- java/lang/System -/
def k16 : Class := { plain "java/lang/System" (some 0) with
  accessFlags := 49
  interfaces := #[]
  cf := some (fileOf pool16 8 #[.nestMembers #[319, 327, 801, 108, 663, 208]] #[{ accessFlags := 2, nameIndex := 5, descriptorIndex := 6, attributes := #[] }, { accessFlags := 265, nameIndex := 727, descriptorIndex := 728, attributes := #[] }] 49 2 #[] #[{ accessFlags := 25, nameIndex := 507, descriptorIndex := 526, attributes := #[] }, { accessFlags := 25, nameIndex := 399, descriptorIndex := 155, attributes := #[] }, { accessFlags := 25, nameIndex := 396, descriptorIndex := 155, attributes := #[] }, { accessFlags := 10, nameIndex := 525, descriptorIndex := 526, attributes := #[] }, { accessFlags := 26, nameIndex := 674, descriptorIndex := 12, attributes := #[] }, { accessFlags := 26, nameIndex := 677, descriptorIndex := 12, attributes := #[] }, { accessFlags := 10, nameIndex := 11, descriptorIndex := 12, attributes := #[] }, { accessFlags := 74, nameIndex := 175, descriptorIndex := 176, attributes := #[] }, { accessFlags := 10, nameIndex := 491, descriptorIndex := 222, attributes := #[] }, { accessFlags := 74, nameIndex := 29, descriptorIndex := 30, attributes := #[] }, { accessFlags := 74, nameIndex := 154, descriptorIndex := 155, attributes := #[] }, { accessFlags := 10, nameIndex := 217, descriptorIndex := 218, attributes := #[] }, { accessFlags := 10, nameIndex := 221, descriptorIndex := 222, attributes := #[] }, { accessFlags := 8, nameIndex := 562, descriptorIndex := 563, attributes := #[] }])
  fields := #[{ name := "in", type := (.object "java/io/InputStream"), accessFlags := 25, slot := 0, constantValue := 0 }, { name := "out", type := (.object "java/io/PrintStream"), accessFlags := 25, slot := 1, constantValue := 0 }, { name := "err", type := (.object "java/io/PrintStream"), accessFlags := 25, slot := 2, constantValue := 0 }, { name := "initialIn", type := (.object "java/io/InputStream"), accessFlags := 10, slot := 3, constantValue := 0 }, { name := "NEVER", type := .int, accessFlags := 26, slot := 4, constantValue := 0 }, { name := "MAYBE", type := .int, accessFlags := 26, slot := 5, constantValue := 0 }, { name := "allowSecurityManager", type := .int, accessFlags := 10, slot := 6, constantValue := 0 }, { name := "security", type := (.object "java/lang/SecurityManager"), accessFlags := 74, slot := 7, constantValue := 0 }, { name := "notSupportedJnuEncoding", type := (.object "java/lang/String"), accessFlags := 10, slot := 8, constantValue := 0 }, { name := "cons", type := (.object "java/io/Console"), accessFlags := 74, slot := 9, constantValue := 0 }, { name := "initialErrStream", type := (.object "java/io/PrintStream"), accessFlags := 74, slot := 10, constantValue := 0 }, { name := "props", type := (.object "java/util/Properties"), accessFlags := 10, slot := 11, constantValue := 0 }, { name := "lineSeparator", type := (.object "java/lang/String"), accessFlags := 10, slot := 12, constantValue := 0 }, { name := "bootLayer", type := (.object "java/lang/ModuleLayer"), accessFlags := 8, slot := 13, constantValue := 0 }]
  methods := #[k16m0, k16m1]
  instanceTypes := #[]
  staticTypes := #[(.object "java/io/InputStream"), (.object "java/io/PrintStream"), (.object "java/io/PrintStream"), (.object "java/io/InputStream"), .int, .int, .int, (.object "java/lang/SecurityManager"), (.object "java/lang/String"), (.object "java/io/Console"), (.object "java/io/PrintStream"), (.object "java/util/Properties"), (.object "java/lang/String"), (.object "java/lang/ModuleLayer")]
  resolved := Array.replicate 834 none
  statics := none }

def pool17 : Array CpInfo := pool [(9, u "<init>"), (6, .class_ 18), (1, u "java/lang/Object"), (0, u "()V"), (1, .class_ 23), (1, u "jdk/internal/util/ArraysSupport"), (0, u "LOG2_ARRAY_LONG_INDEX_SCALE"), (0, u "I"), (2, u "U"), (0, u "Ljdk/internal/misc/Unsafe;"), (8, u "BIG_ENDIAN"), (0, u "Z"), (8, u "LOG2_BYTE_BIT_SIZE"), (4, u "LOG2_ARRAY_INT_INDEX_SCALE"), (54, u "JLA"), (0, u "Ljdk/internal/access/JavaLangAccess;"), (11, u "LOG2_ARRAY_BOOLEAN_INDEX_SCALE"), (9, u "LOG2_ARRAY_BYTE_INDEX_SCALE"), (5, u "LOG2_ARRAY_CHAR_INDEX_SCALE"), (5, u "LOG2_ARRAY_SHORT_INDEX_SCALE"), (18, u "LOG2_ARRAY_FLOAT_INDEX_SCALE"), (24, u "LOG2_ARRAY_DOUBLE_INDEX_SCALE"), (6, .methodref 195 196), (0, .class_ 197), (0, .nameAndType 198 199), (0, u "java/lang/Math"), (0, u "max"), (0, u "(II)I"), (0, .integer 2147483639), (76, u "T_BOOLEAN"), (2, u "T_CHAR"), (1, u "T_FLOAT"), (1, u "T_DOUBLE"), (1, u "T_BYTE"), (1, u "T_SHORT"), (1, u "T_INT"), (1, u "T_LONG"), (1, u "SOFT_MAX_ARRAY_LENGTH"), (56, u "newLength"), (0, u "(III)I")] 25

def k17m0 : Method := { name := "<init>", desc := "()V", sig := { parameters := [], returnType := none }, accessFlags := 2, code := none }
def k17c1 : Code := { maxStack := 3, maxLocals := 4, code := jdk_48_method_27_code, exceptionTable := #[], attributes := #[] }
def k17m1 : Method := { name := "newLength", desc := "(III)I", sig := { parameters := [.int, .int, .int], returnType := some .int }, accessFlags := 9, code := some k17c1 }
/-- jdk/internal/util/ArraysSupport -/
def k17 : Class := { plain "jdk/internal/util/ArraysSupport" (some 0) with
  accessFlags := 33
  interfaces := #[]
  cf := some (fileOf pool17 21 #[] #[{ accessFlags := 2, nameIndex := 9, descriptorIndex := 19, attributes := #[] }, { accessFlags := 9, nameIndex := 351, descriptorIndex := 352, attributes := #[] }] 33 16 #[] #[{ accessFlags := 24, nameIndex := 28, descriptorIndex := 29, attributes := #[] }, { accessFlags := 26, nameIndex := 38, descriptorIndex := 39, attributes := #[] }, { accessFlags := 25, nameIndex := 121, descriptorIndex := 25, attributes := #[] }, { accessFlags := 25, nameIndex := 131, descriptorIndex := 25, attributes := #[] }, { accessFlags := 25, nameIndex := 137, descriptorIndex := 25, attributes := #[] }, { accessFlags := 25, nameIndex := 143, descriptorIndex := 25, attributes := #[] }, { accessFlags := 25, nameIndex := 53, descriptorIndex := 25, attributes := #[] }, { accessFlags := 25, nameIndex := 24, descriptorIndex := 25, attributes := #[] }, { accessFlags := 25, nameIndex := 162, descriptorIndex := 25, attributes := #[] }, { accessFlags := 25, nameIndex := 187, descriptorIndex := 25, attributes := #[] }, { accessFlags := 26, nameIndex := 48, descriptorIndex := 25, attributes := #[] }, { accessFlags := 25, nameIndex := 277, descriptorIndex := 25, attributes := #[] }, { accessFlags := 25, nameIndex := 280, descriptorIndex := 25, attributes := #[] }, { accessFlags := 25, nameIndex := 282, descriptorIndex := 25, attributes := #[] }, { accessFlags := 25, nameIndex := 284, descriptorIndex := 25, attributes := #[] }, { accessFlags := 25, nameIndex := 286, descriptorIndex := 25, attributes := #[] }, { accessFlags := 25, nameIndex := 288, descriptorIndex := 25, attributes := #[] }, { accessFlags := 25, nameIndex := 290, descriptorIndex := 25, attributes := #[] }, { accessFlags := 25, nameIndex := 292, descriptorIndex := 25, attributes := #[] }, { accessFlags := 26, nameIndex := 108, descriptorIndex := 109, attributes := #[] }, { accessFlags := 25, nameIndex := 294, descriptorIndex := 25, attributes := #[] }])
  fields := #[{ name := "U", type := (.object "jdk/internal/misc/Unsafe"), accessFlags := 24, slot := 0, constantValue := 0 }, { name := "BIG_ENDIAN", type := .boolean, accessFlags := 26, slot := 1, constantValue := 0 }, { name := "LOG2_ARRAY_BOOLEAN_INDEX_SCALE", type := .int, accessFlags := 25, slot := 2, constantValue := 0 }, { name := "LOG2_ARRAY_BYTE_INDEX_SCALE", type := .int, accessFlags := 25, slot := 3, constantValue := 0 }, { name := "LOG2_ARRAY_CHAR_INDEX_SCALE", type := .int, accessFlags := 25, slot := 4, constantValue := 0 }, { name := "LOG2_ARRAY_SHORT_INDEX_SCALE", type := .int, accessFlags := 25, slot := 5, constantValue := 0 }, { name := "LOG2_ARRAY_INT_INDEX_SCALE", type := .int, accessFlags := 25, slot := 6, constantValue := 0 }, { name := "LOG2_ARRAY_LONG_INDEX_SCALE", type := .int, accessFlags := 25, slot := 7, constantValue := 0 }, { name := "LOG2_ARRAY_FLOAT_INDEX_SCALE", type := .int, accessFlags := 25, slot := 8, constantValue := 0 }, { name := "LOG2_ARRAY_DOUBLE_INDEX_SCALE", type := .int, accessFlags := 25, slot := 9, constantValue := 0 }, { name := "LOG2_BYTE_BIT_SIZE", type := .int, accessFlags := 26, slot := 10, constantValue := 0 }, { name := "T_BOOLEAN", type := .int, accessFlags := 25, slot := 11, constantValue := 0 }, { name := "T_CHAR", type := .int, accessFlags := 25, slot := 12, constantValue := 0 }, { name := "T_FLOAT", type := .int, accessFlags := 25, slot := 13, constantValue := 0 }, { name := "T_DOUBLE", type := .int, accessFlags := 25, slot := 14, constantValue := 0 }, { name := "T_BYTE", type := .int, accessFlags := 25, slot := 15, constantValue := 0 }, { name := "T_SHORT", type := .int, accessFlags := 25, slot := 16, constantValue := 0 }, { name := "T_INT", type := .int, accessFlags := 25, slot := 17, constantValue := 0 }, { name := "T_LONG", type := .int, accessFlags := 25, slot := 18, constantValue := 0 }, { name := "JLA", type := (.object "jdk/internal/access/JavaLangAccess"), accessFlags := 26, slot := 19, constantValue := 0 }, { name := "SOFT_MAX_ARRAY_LENGTH", type := .int, accessFlags := 25, slot := 20, constantValue := 0 }]
  methods := #[k17m0, k17m1]
  instanceTypes := #[]
  staticTypes := #[(.object "jdk/internal/misc/Unsafe"), .boolean, .int, .int, .int, .int, .int, .int, .int, .int, .int, .int, .int, .int, .int, .int, .int, .int, .int, (.object "jdk/internal/access/JavaLangAccess"), .int]
  resolved := Array.replicate 378 none
  statics := none }

def pool18 : Array CpInfo := pool [(1, .class_ 2), (0, u "java/lang/Math"), (1, .class_ 6), (1, u "java/lang/Object"), (0, u "<init>"), (0, u "()V"), (89, .class_ 100), (1, u "java/lang/Math$RandomNumberGeneratorHolder"), (71, u "negativeZeroFloatBits"), (0, u "J"), (2, u "negativeZeroDoubleBits"), (21, u "max"), (2, u "min"), (43, u "$assertionsDisabled"), (0, u "Z"), (88, u "(II)I"), (2, u "twoToTheDoubleScaleDown"), (0, u "D"), (4, u "twoToTheDoubleScaleUp"), (9, u "E"), (3, u "PI"), (2, u "TAU"), (2, u "DEGREES_TO_RADIANS"), (0, u "RADIANS_TO_DEGREES")] 94

def k18m0 : Method := { name := "<init>", desc := "()V", sig := { parameters := [], returnType := none }, accessFlags := 2, code := none }
def k18c1 : Code := { maxStack := 2, maxLocals := 2, code := jdk_29_method_65_code, exceptionTable := #[], attributes := #[] }
def k18m1 : Method := { name := "max", desc := "(II)I", sig := { parameters := [.int, .int], returnType := some .int }, accessFlags := 9, code := some k18c1 }
def k18c2 : Code := { maxStack := 2, maxLocals := 2, code := jdk_29_method_69_code, exceptionTable := #[], attributes := #[] }
def k18m2 : Method := { name := "min", desc := "(II)I", sig := { parameters := [.int, .int], returnType := some .int }, accessFlags := 9, code := some k18c2 }
/-- java/lang/Math -/
def k18 : Class := { plain "java/lang/Math" (some 0) with
  accessFlags := 49
  interfaces := #[]
  cf := some (fileOf pool18 1 #[.nestMembers #[98]] #[{ accessFlags := 2, nameIndex := 7, descriptorIndex := 8, attributes := #[] }, { accessFlags := 9, nameIndex := 198, descriptorIndex := 335, attributes := #[] }, { accessFlags := 9, nameIndex := 201, descriptorIndex := 335, attributes := #[] }] 49 4 #[] #[{ accessFlags := 25, nameIndex := 354, descriptorIndex := 339, attributes := #[] }, { accessFlags := 25, nameIndex := 358, descriptorIndex := 339, attributes := #[] }, { accessFlags := 25, nameIndex := 361, descriptorIndex := 339, attributes := #[] }, { accessFlags := 26, nameIndex := 364, descriptorIndex := 339, attributes := #[] }, { accessFlags := 26, nameIndex := 365, descriptorIndex := 339, attributes := #[] }, { accessFlags := 26, nameIndex := 172, descriptorIndex := 173, attributes := #[] }, { accessFlags := 26, nameIndex := 176, descriptorIndex := 173, attributes := #[] }, { accessFlags := 8, nameIndex := 344, descriptorIndex := 339, attributes := #[] }, { accessFlags := 8, nameIndex := 338, descriptorIndex := 339, attributes := #[] }, { accessFlags := 4120, nameIndex := 245, descriptorIndex := 246, attributes := #[] }])
  fields := #[{ name := "E", type := .double, accessFlags := 25, slot := 0, constantValue := 0 }, { name := "PI", type := .double, accessFlags := 25, slot := 1, constantValue := 0 }, { name := "TAU", type := .double, accessFlags := 25, slot := 2, constantValue := 0 }, { name := "DEGREES_TO_RADIANS", type := .double, accessFlags := 26, slot := 3, constantValue := 0 }, { name := "RADIANS_TO_DEGREES", type := .double, accessFlags := 26, slot := 4, constantValue := 0 }, { name := "negativeZeroFloatBits", type := .long, accessFlags := 26, slot := 5, constantValue := 0 }, { name := "negativeZeroDoubleBits", type := .long, accessFlags := 26, slot := 6, constantValue := 0 }, { name := "twoToTheDoubleScaleUp", type := .double, accessFlags := 8, slot := 7, constantValue := 0 }, { name := "twoToTheDoubleScaleDown", type := .double, accessFlags := 8, slot := 8, constantValue := 0 }, { name := "$assertionsDisabled", type := .boolean, accessFlags := 4120, slot := 9, constantValue := 0 }]
  methods := #[k18m0, k18m1, k18m2]
  instanceTypes := #[]
  staticTypes := #[.double, .double, .double, .double, .double, .long, .long, .double, .double, .boolean]
  resolved := Array.replicate 460 none
  statics := none }

def pool19 : Array CpInfo := pool [(2, .class_ 4), (1, u "java/lang/Object"), (0, u "<init>"), (0, u "()V"), (7, .class_ 16), (1, u "java/util/Arrays"), (57, .class_ 76), (1, u "java/util/Arrays$NaturalOrder"), (36, .class_ 115), (1, u "java/util/Arrays$LegacyMergeSort"), (1, u "Z"), (21, u "copyOfRange"), (10, .methodref 151 152), (0, .class_ 153), (0, .nameAndType 154 155), (0, u "java/lang/System"), (0, u "arraycopy"), (0, u "(Ljava/lang/Object;ILjava/lang/Object;II)V"), (146, u "copyOf"), (1, .methodref 305 306), (0, .class_ 307), (0, .nameAndType 308 309), (0, u "java/lang/Math"), (0, u "min"), (0, u "(II)I"), (29, .methodref 14 340), (0, .nameAndType 341 342), (0, u "copyOfRangeByte"), (0, u "([BII)[B"), (0, .methodref 14 344), (0, .nameAndType 345 346), (0, u "checkLength"), (0, u "(II)V"), (28, .class_ 376), (0, u "java/util/Arrays$ArrayList"), (68, u "$assertionsDisabled"), (269, u "MIN_ARRAY_SORT_GRAN"), (0, u "I"), (2, u "INSERTIONSORT_THRESHOLD"), (149, u "([BI)[B"), (105, .class_ 976), (0, u "java/util/Arrays$ArrayItr")] 52

def k19m0 : Method := { name := "<init>", desc := "()V", sig := { parameters := [], returnType := none }, accessFlags := 2, code := none }
def k19c1 : Code := { maxStack := 6, maxLocals := 3, code := jdk_65_method_121_code, exceptionTable := #[], attributes := #[] }
def k19m1 : Method := { name := "copyOf", desc := "([BI)[B", sig := { parameters := [(.array .byte), .int], returnType := some (.array .byte) }, accessFlags := 9, code := some k19c1 }
def k19c2 : Code := { maxStack := 4, maxLocals := 2, code := jdk_65_method_131_code, exceptionTable := #[], attributes := #[] }
def k19m2 : Method := { name := "checkLength", desc := "(II)V", sig := { parameters := [.int, .int], returnType := none }, accessFlags := 10, code := some k19c2 }
def k19c3 : Code := { maxStack := 3, maxLocals := 3, code := jdk_65_method_132_code, exceptionTable := #[], attributes := #[] }
def k19m3 : Method := { name := "copyOfRange", desc := "([BII)[B", sig := { parameters := [(.array .byte), .int, .int], returnType := some (.array .byte) }, accessFlags := 9, code := some k19c3 }
def k19c4 : Code := { maxStack := 6, maxLocals := 5, code := jdk_65_method_133_code, exceptionTable := #[], attributes := #[] }
def k19m4 : Method := { name := "copyOfRangeByte", desc := "([BII)[B", sig := { parameters := [(.array .byte), .int, .int], returnType := some (.array .byte) }, accessFlags := 10, code := some k19c4 }
/-- java/util/Arrays -/
def k19 : Class := { plain "java/util/Arrays" (some 0) with
  accessFlags := 49
  interfaces := #[]
  cf := some (fileOf pool19 14 #[.nestMembers #[975, 375, 113, 74]] #[{ accessFlags := 2, nameIndex := 5, descriptorIndex := 6, attributes := #[] }, { accessFlags := 9, nameIndex := 302, descriptorIndex := 869, attributes := #[] }, { accessFlags := 10, nameIndex := 345, descriptorIndex := 346, attributes := #[] }, { accessFlags := 9, nameIndex := 139, descriptorIndex := 342, attributes := #[] }, { accessFlags := 10, nameIndex := 341, descriptorIndex := 342, attributes := #[] }] 49 2 #[] #[{ accessFlags := 26, nameIndex := 715, descriptorIndex := 716, attributes := #[] }, { accessFlags := 26, nameIndex := 719, descriptorIndex := 716, attributes := #[] }, { accessFlags := 4120, nameIndex := 445, descriptorIndex := 117, attributes := #[] }])
  fields := #[{ name := "MIN_ARRAY_SORT_GRAN", type := .int, accessFlags := 26, slot := 0, constantValue := 0 }, { name := "INSERTIONSORT_THRESHOLD", type := .int, accessFlags := 26, slot := 1, constantValue := 0 }, { name := "$assertionsDisabled", type := .boolean, accessFlags := 4120, slot := 2, constantValue := 0 }]
  methods := #[k19m0, k19m1, k19m2, k19m3, k19m4]
  instanceTypes := #[]
  staticTypes := #[.int, .int, .boolean]
  resolved := Array.replicate 1029 none
  statics := none }

def pool20 : Array CpInfo := pool [(1, .class_ 2), (0, u "java/lang/String"), (1, .class_ 6), (1, u "java/lang/Object"), (0, u "<init>"), (0, u "()V"), (0, .methodref 1 10), (0, .nameAndType 11 12), (0, u "checkIndex"), (0, u "(II)V"), (1, .class_ 16), (1, u "java/lang/StringLatin1"), (0, u "inflate"), (2, .class_ 22), (1, u "java/lang/StringUTF16"), (3, .nameAndType 17 27), (0, u "([BI[BII)V"), (25, u "([BI)C"), (67, u "$assertionsDisabled"), (0, u "Z"), (98, .class_ 223), (1, u "java/lang/StringLatin1$LinesSpliterator"), (16, .methodref 20 26), (11, u "charAt"), (137, .class_ 391), (0, u "java/lang/StringLatin1$CharsSpliterator")] 3

def k20m0 : Method := { name := "<init>", desc := "()V", sig := { parameters := [], returnType := none }, accessFlags := 0, code := none }
def k20c1 : Code := { maxStack := 2, maxLocals := 2, code := jdk_43_method_2_code, exceptionTable := #[], attributes := #[] }
def k20m1 : Method := { name := "charAt", desc := "([BI)C", sig := { parameters := [(.array .byte), .int], returnType := some .char }, accessFlags := 9, code := some k20c1 }
def k20c2 : Code := { maxStack := 5, maxLocals := 5, code := jdk_43_method_50_code, exceptionTable := #[], attributes := #[] }
def k20m2 : Method := { name := "inflate", desc := "([BI[BII)V", sig := { parameters := [(.array .byte), .int, (.array .byte), .int, .int], returnType := none }, accessFlags := 9, code := some k20c2 }
/-- java/lang/StringLatin1 -/
def k20 : Class := { plain "java/lang/StringLatin1" (some 0) with
  accessFlags := 48
  interfaces := #[]
  cf := some (fileOf pool20 14 #[.nestMembers #[390, 221]] #[{ accessFlags := 0, nameIndex := 7, descriptorIndex := 8, attributes := #[] }, { accessFlags := 9, nameIndex := 252, descriptorIndex := 53, attributes := #[] }, { accessFlags := 9, nameIndex := 17, descriptorIndex := 27, attributes := #[] }] 48 4 #[] #[{ accessFlags := 4120, nameIndex := 121, descriptorIndex := 122, attributes := #[] }])
  fields := #[{ name := "$assertionsDisabled", type := .boolean, accessFlags := 4120, slot := 0, constantValue := 0 }]
  methods := #[k20m0, k20m1, k20m2]
  instanceTypes := #[]
  staticTypes := #[.boolean]
  resolved := Array.replicate 395 none
  statics := none }

def pool21 : Array CpInfo := pool [(2, .class_ 4), (1, u "java/lang/Object"), (0, u "<init>"), (0, u "()V"), (17, .class_ 26), (1, u "jdk/internal/util/Preconditions"), (6, u "checkIndex"), (15, u "checkFromIndexSize"), (5, .class_ 56), (0, u "jdk/internal/util/Preconditions$4"), (57, .class_ 115), (0, u "jdk/internal/util/Preconditions$1"), (7, u "SIOOBE_FORMATTER"), (0, u "Ljava/util/function/BiFunction;"), (0, .class_ 126), (0, u "jdk/internal/util/Preconditions$2"), (3, u "AIOOBE_FORMATTER"), (0, .class_ 132), (0, u "jdk/internal/util/Preconditions$3"), (3, u "IOOBE_FORMATTER"), (41, u "(IILjava/util/function/BiFunction;)I"), (4, u "(IIILjava/util/function/BiFunction;)I")] 10

def k21m0 : Method := { name := "<init>", desc := "()V", sig := { parameters := [], returnType := none }, accessFlags := 1, code := none }
def k21c1 : Code := { maxStack := 3, maxLocals := 3, code := jdk_41_method_11_code, exceptionTable := #[], attributes := #[] }
def k21m1 : Method := { name := "checkIndex", desc := "(IILjava/util/function/BiFunction;)I", sig := { parameters := [.int, .int, (.object "java/util/function/BiFunction")], returnType := some .int }, accessFlags := 9, code := some k21c1 }
def k21c2 : Code := { maxStack := 4, maxLocals := 4, code := jdk_41_method_13_code, exceptionTable := #[], attributes := #[] }
def k21m2 : Method := { name := "checkFromIndexSize", desc := "(IIILjava/util/function/BiFunction;)I", sig := { parameters := [.int, .int, .int, (.object "java/util/function/BiFunction")], returnType := some .int }, accessFlags := 9, code := some k21c2 }
/-- jdk/internal/util/Preconditions -/
def k21 : Class := { plain "jdk/internal/util/Preconditions" (some 0) with
  accessFlags := 33
  interfaces := #[]
  cf := some (fileOf pool21 24 #[.nestMembers #[55, 131, 125, 114]] #[{ accessFlags := 1, nameIndex := 5, descriptorIndex := 6, attributes := #[] }, { accessFlags := 9, nameIndex := 33, descriptorIndex := 178, attributes := #[] }, { accessFlags := 9, nameIndex := 49, descriptorIndex := 183, attributes := #[] }] 33 2 #[] #[{ accessFlags := 25, nameIndex := 123, descriptorIndex := 124, attributes := #[] }, { accessFlags := 25, nameIndex := 130, descriptorIndex := 124, attributes := #[] }, { accessFlags := 25, nameIndex := 136, descriptorIndex := 124, attributes := #[] }])
  fields := #[{ name := "SIOOBE_FORMATTER", type := (.object "java/util/function/BiFunction"), accessFlags := 25, slot := 0, constantValue := 0 }, { name := "AIOOBE_FORMATTER", type := (.object "java/util/function/BiFunction"), accessFlags := 25, slot := 1, constantValue := 0 }, { name := "IOOBE_FORMATTER", type := (.object "java/util/function/BiFunction"), accessFlags := 25, slot := 2, constantValue := 0 }]
  methods := #[k21m0, k21m1, k21m2]
  instanceTypes := #[]
  staticTypes := #[(.object "java/util/function/BiFunction"), (.object "java/util/function/BiFunction"), (.object "java/util/function/BiFunction")]
  resolved := Array.replicate 194 none
  statics := some 3 }

def pool22 : Array CpInfo := pool [(2, .class_ 4), (1, u "java/lang/Object"), (0, u "<init>"), (0, u "()V"), (12, .class_ 20), (0, u "java/util/Collections"), (63, u "r"), (0, u "Ljava/util/Random;"), (80, .class_ 167), (0, u "java/util/Collections$UnmodifiableCollection"), (6, .class_ 175), (0, u "java/util/Collections$UnmodifiableSequencedCollection"), (6, .class_ 183), (0, u "java/util/Collections$UnmodifiableSet"), (6, .class_ 191), (0, u "java/util/Collections$UnmodifiableSequencedSet"), (6, .class_ 199), (0, u "java/util/Collections$UnmodifiableSortedSet"), (6, .class_ 207), (0, u "java/util/Collections$UnmodifiableNavigableSet"), (4, .class_ 213), (0, u "java/util/Collections$UnmodifiableList"), (1, .class_ 216), (0, u "java/util/Collections$UnmodifiableRandomAccessList"), (6, .class_ 224), (0, u "java/util/Collections$UnmodifiableMap"), (6, .class_ 232), (0, u "java/util/Collections$UnmodifiableSequencedMap"), (4, .class_ 238), (0, u "java/util/Collections$UnmodifiableSortedMap"), (6, .class_ 246), (0, u "java/util/Collections$UnmodifiableNavigableMap"), (3, .class_ 251), (0, u "java/util/Collections$SynchronizedCollection"), (4, .class_ 257), (0, u "java/util/Collections$SynchronizedSet"), (4, .class_ 263), (0, u "java/util/Collections$SynchronizedSortedSet"), (1, .class_ 266), (0, u "java/util/Collections$SynchronizedNavigableSet"), (1, .class_ 269), (0, u "java/util/Collections$SynchronizedRandomAccessList"), (1, .class_ 272), (0, u "java/util/Collections$SynchronizedList"), (5, .class_ 279), (0, u "java/util/Collections$SynchronizedMap"), (1, .class_ 282), (0, u "java/util/Collections$SynchronizedSortedMap"), (1, .class_ 285), (0, u "java/util/Collections$SynchronizedNavigableMap"), (1, .class_ 288), (0, u "java/util/Collections$CheckedCollection"), (11, .class_ 301), (0, u "java/util/Collections$CheckedQueue"), (3, .class_ 306), (0, u "java/util/Collections$CheckedSet"), (3, .class_ 311), (0, u "java/util/Collections$CheckedSortedSet"), (3, .class_ 316), (0, u "java/util/Collections$CheckedNavigableSet"), (3, .class_ 321), (0, u "java/util/Collections$CheckedRandomAccessList"), (3, .class_ 326), (0, u "java/util/Collections$CheckedList"), (1, .class_ 329), (0, u "java/util/Collections$CheckedMap"), (3, .class_ 334), (0, u "java/util/Collections$CheckedSortedMap"), (3, .class_ 339), (0, u "java/util/Collections$CheckedNavigableMap"), (4, .class_ 346), (1, u "java/util/Collections$EmptyIterator"), (3, .class_ 352), (1, u "java/util/Collections$EmptyListIterator"), (2, .class_ 357), (1, u "java/util/Collections$EmptyEnumeration"), (4, u "EMPTY_SET"), (0, u "Ljava/util/Set;"), (6, u "EMPTY_LIST"), (0, u "Ljava/util/List;"), (2, u "EMPTY_MAP"), (0, u "Ljava/util/Map;"), (4, .class_ 381), (0, u "java/util/Collections$SingletonSet"), (2, .class_ 385), (0, u "java/util/Collections$1"), (1, .class_ 388), (0, u "java/util/Collections$2"), (1, .class_ 391), (0, u "java/util/Collections$SingletonList"), (1, .class_ 394), (0, u "java/util/Collections$SingletonMap"), (22, .class_ 418), (0, u "java/util/Collections$CopiesList"), (4, .class_ 425), (1, u "java/util/Collections$ReverseComparator"), (8, .class_ 435), (0, u "java/util/Collections$ReverseComparator2"), (6, .class_ 443), (0, u "java/util/Collections$3"), (25, .class_ 470), (0, u "java/util/Collections$SetFromMap"), (2, .class_ 474), (0, u "java/util/Collections$SequencedSetFromMap"), (3, .class_ 479), (0, u "java/util/Collections$AsLIFOQueue"), (11, .class_ 492), (0, u "java/util/Collections$EmptySet"), (1, .class_ 495), (0, u "java/util/Collections$EmptyList"), (1, .class_ 498), (0, u "java/util/Collections$EmptyMap"), (1, u "BINARYSEARCH_THRESHOLD"), (0, u "I"), (2, u "REVERSE_THRESHOLD"), (1, u "SHUFFLE_THRESHOLD"), (1, u "FILL_THRESHOLD"), (1, u "ROTATE_THRESHOLD"), (1, u "COPY_THRESHOLD"), (1, u "REPLACEALL_THRESHOLD"), (1, u "INDEXOFSUBLIST_THRESHOLD"), (333, .class_ 851), (0, u "java/util/Collections$CheckedMap$CheckedEntrySet"), (0, .class_ 853), (0, u "java/util/Collections$CheckedMap$CheckedEntrySet$CheckedEntry"), (0, .class_ 855), (0, u "java/util/Collections$CheckedMap$CheckedEntrySet$1"), (0, .class_ 857), (0, u "java/util/Collections$CheckedList$1"), (0, .class_ 859), (0, u "java/util/Collections$CheckedCollection$1"), (0, .class_ 861), (0, u "java/util/Collections$UnmodifiableNavigableMap$EmptyNavigableMap"), (0, .class_ 863), (0, u "java/util/Collections$UnmodifiableMap$UnmodifiableEntrySet"), (0, .class_ 865), (0, u "java/util/Collections$UnmodifiableMap$UnmodifiableEntrySet$UnmodifiableEntry"), (0, .class_ 867), (0, u "java/util/Collections$UnmodifiableMap$UnmodifiableEntrySet$UnmodifiableEntrySetSpliterator"), (0, .class_ 869), (0, u "java/util/Collections$UnmodifiableMap$UnmodifiableEntrySet$1"), (0, .class_ 871), (0, u "java/util/Collections$UnmodifiableList$1"), (0, .class_ 873), (0, u "java/util/Collections$UnmodifiableNavigableSet$EmptyNavigableSet"), (0, .class_ 875), (0, u "java/util/Collections$UnmodifiableCollection$1")] 57

def k22m0 : Method := { name := "<init>", desc := "()V", sig := { parameters := [], returnType := none }, accessFlags := 2, code := none }
/-- java/util/Collections -/
def k22 : Class := { plain "java/util/Collections" (some 0) with
  accessFlags := 33
  interfaces := #[]
  cf := some (fileOf pool22 19 #[.nestMembers #[478, 473, 469, 434, 423, 417, 393, 390, 380, 497, 494, 491, 355, 350, 344, 338, 333, 328, 850, 852, 854, 320, 325, 856, 315, 310, 305, 300, 287, 858, 284, 281, 278, 268, 271, 265, 262, 256, 250, 245, 860, 237, 231, 223, 862, 864, 866, 868, 215, 212, 870, 206, 872, 198, 190, 182, 174, 166, 874, 442, 387, 384]] #[{ accessFlags := 2, nameIndex := 5, descriptorIndex := 6, attributes := #[] }] 33 2 #[] #[{ accessFlags := 26, nameIndex := 500, descriptorIndex := 501, attributes := #[] }, { accessFlags := 26, nameIndex := 504, descriptorIndex := 501, attributes := #[] }, { accessFlags := 26, nameIndex := 506, descriptorIndex := 501, attributes := #[] }, { accessFlags := 26, nameIndex := 508, descriptorIndex := 501, attributes := #[] }, { accessFlags := 26, nameIndex := 510, descriptorIndex := 501, attributes := #[] }, { accessFlags := 26, nameIndex := 512, descriptorIndex := 501, attributes := #[] }, { accessFlags := 26, nameIndex := 514, descriptorIndex := 501, attributes := #[] }, { accessFlags := 26, nameIndex := 516, descriptorIndex := 501, attributes := #[] }, { accessFlags := 10, nameIndex := 84, descriptorIndex := 85, attributes := #[] }, { accessFlags := 25, nameIndex := 362, descriptorIndex := 363, attributes := #[] }, { accessFlags := 25, nameIndex := 370, descriptorIndex := 371, attributes := #[] }, { accessFlags := 25, nameIndex := 374, descriptorIndex := 375, attributes := #[] }])
  fields := #[{ name := "BINARYSEARCH_THRESHOLD", type := .int, accessFlags := 26, slot := 0, constantValue := 0 }, { name := "REVERSE_THRESHOLD", type := .int, accessFlags := 26, slot := 1, constantValue := 0 }, { name := "SHUFFLE_THRESHOLD", type := .int, accessFlags := 26, slot := 2, constantValue := 0 }, { name := "FILL_THRESHOLD", type := .int, accessFlags := 26, slot := 3, constantValue := 0 }, { name := "ROTATE_THRESHOLD", type := .int, accessFlags := 26, slot := 4, constantValue := 0 }, { name := "COPY_THRESHOLD", type := .int, accessFlags := 26, slot := 5, constantValue := 0 }, { name := "REPLACEALL_THRESHOLD", type := .int, accessFlags := 26, slot := 6, constantValue := 0 }, { name := "INDEXOFSUBLIST_THRESHOLD", type := .int, accessFlags := 26, slot := 7, constantValue := 0 }, { name := "r", type := (.object "java/util/Random"), accessFlags := 10, slot := 8, constantValue := 0 }, { name := "EMPTY_SET", type := (.object "java/util/Set"), accessFlags := 25, slot := 9, constantValue := 0 }, { name := "EMPTY_LIST", type := (.object "java/util/List"), accessFlags := 25, slot := 10, constantValue := 0 }, { name := "EMPTY_MAP", type := (.object "java/util/Map"), accessFlags := 25, slot := 11, constantValue := 0 }]
  methods := #[k22m0]
  instanceTypes := #[]
  staticTypes := #[.int, .int, .int, .int, .int, .int, .int, .int, (.object "java/util/Random"), (.object "java/util/Set"), (.object "java/util/List"), (.object "java/util/Map")]
  resolved := Array.replicate 933 none
  statics := some 4 }

def pool23 : Array CpInfo := pool [(8, .class_ 10), (1, u "java/lang/Iterable"), (24, .class_ 36), (0, u "java/lang/Object")] 25

/-- java/lang/Iterable -/
def k23 : Class := { plain "java/lang/Iterable" (some 0) with
  accessFlags := 1537
  interfaces := #[]
  cf := some (fileOf pool23 8 #[] #[] 1537 35 #[] #[])
  fields := #[]
  methods := #[]
  instanceTypes := #[]
  staticTypes := #[]
  resolved := Array.replicate 62 none
  statics := none }

def pool24 : Array CpInfo := pool [(10, .class_ 12), (1, u "java/util/Collection"), (47, .class_ 61), (0, u "java/lang/Object"), (0, .class_ 63), (0, u "java/lang/Iterable")] 51

/-- java/util/Collection -/
def k24 : Class := { plain "java/util/Collection" (some 0) with
  accessFlags := 1537
  interfaces := #[23]
  cf := some (fileOf pool24 10 #[] #[] 1537 60 #[62] #[])
  fields := #[]
  methods := #[]
  instanceTypes := #[]
  staticTypes := #[]
  resolved := Array.replicate 115 none
  statics := none }

def pool25 : Array CpInfo := pool [(2, .class_ 4), (1, u "java/lang/Object"), (0, u "<init>"), (0, u "()V"), (1, .class_ 10), (1, u "java/util/AbstractCollection"), (66, .class_ 78), (0, u "java/util/Collection")] 81

def k25m0 : Method := { name := "<init>", desc := "()V", sig := { parameters := [], returnType := none }, accessFlags := 4, code := none }
/-- java/util/AbstractCollection -/
def k25 : Class := { plain "java/util/AbstractCollection" (some 0) with
  accessFlags := 1057
  interfaces := #[24]
  cf := some (fileOf pool25 8 #[] #[{ accessFlags := 4, nameIndex := 5, descriptorIndex := 6, attributes := #[] }] 1057 2 #[77] #[])
  fields := #[]
  methods := #[k25m0]
  instanceTypes := #[]
  staticTypes := #[]
  resolved := Array.replicate 160 none
  statics := none }

def pool26 : Array CpInfo := pool [(8, .class_ 10), (1, u "java/util/SequencedCollection"), (15, .class_ 27), (0, u "java/lang/Object"), (0, .class_ 29), (0, u "java/util/Collection")] 27

/-- java/util/SequencedCollection -/
def k26 : Class := { plain "java/util/SequencedCollection" (some 0) with
  accessFlags := 1537
  interfaces := #[24]
  cf := some (fileOf pool26 8 #[] #[] 1537 26 #[28] #[])
  fields := #[]
  methods := #[]
  instanceTypes := #[]
  staticTypes := #[]
  resolved := Array.replicate 57 none
  statics := none }

def pool27 : Array CpInfo := pool [(8, .class_ 10), (1, u "java/util/List"), (92, .class_ 104), (0, u "java/lang/Object"), (15, .class_ 121), (0, u "java/util/SequencedCollection")] 129

/-- java/util/List -/
def k27 : Class := { plain "java/util/List" (some 0) with
  accessFlags := 1537
  interfaces := #[26]
  cf := some (fileOf pool27 8 #[] #[] 1537 103 #[120] #[])
  fields := #[]
  methods := #[]
  instanceTypes := #[]
  staticTypes := #[]
  resolved := Array.replicate 251 none
  statics := none }

def pool28 : Array CpInfo := pool [(2, .class_ 4), (1, u "java/util/AbstractCollection"), (0, u "<init>"), (0, u "()V"), (1, .class_ 10), (1, u "java/util/AbstractList"), (0, u "modCount"), (0, u "I"), (64, .class_ 78), (0, u "java/util/AbstractList$Itr"), (3, .class_ 83), (0, u "java/util/AbstractList$ListItr"), (9, .class_ 94), (0, u "java/util/AbstractList$RandomAccessSubList"), (3, .class_ 99), (0, u "java/util/AbstractList$SubList"), (33, .class_ 134), (0, u "java/util/List"), (73, .class_ 209), (0, u "java/util/AbstractList$SubList$1"), (0, .class_ 211), (0, u "java/util/AbstractList$RandomAccessSpliterator")] 6

def k28m0 : Method := { name := "<init>", desc := "()V", sig := { parameters := [], returnType := none }, accessFlags := 4, code := none }
/-- java/util/AbstractList -/
def k28 : Class := { plain "java/util/AbstractList" (some 25) with
  accessFlags := 1057
  interfaces := #[27]
  cf := some (fileOf pool28 8 #[.nestMembers #[93, 98, 208, 210, 82, 77]] #[{ accessFlags := 4, nameIndex := 5, descriptorIndex := 6, attributes := #[] }] 1057 2 #[133] #[{ accessFlags := 132, nameIndex := 11, descriptorIndex := 12, attributes := #[] }])
  fields := #[{ name := "modCount", type := .int, accessFlags := 132, slot := 0, constantValue := 0 }]
  methods := #[k28m0]
  instanceTypes := #[.int]
  staticTypes := #[]
  resolved := Array.replicate 218 none
  statics := none }

def pool29 : Array CpInfo := pool [(1, .class_ 2), (0, u "java/util/RandomAccess"), (0, .class_ 4), (0, u "java/lang/Object")] 2

/-- java/util/RandomAccess -/
def k29 : Class := { plain "java/util/RandomAccess" (some 0) with
  accessFlags := 1537
  interfaces := #[]
  cf := some (fileOf pool29 1 #[] #[] 1537 3 #[] #[])
  fields := #[]
  methods := #[]
  instanceTypes := #[]
  staticTypes := #[]
  resolved := Array.replicate 7 none
  statics := none }

def pool30 : Array CpInfo := pool [(2, .class_ 4), (1, u "java/util/AbstractList"), (0, u "<init>"), (0, u "()V"), (1, .class_ 10), (1, u "java/util/Collections"), (54, .class_ 66), (0, u "java/util/Collections$EmptyList"), (0, .class_ 68), (0, u "java/util/RandomAccess"), (0, .class_ 70), (0, u "java/io/Serializable"), (0, u "serialVersionUID"), (0, u "J")] 77

def k30m0 : Method := { name := "<init>", desc := "()V", sig := { parameters := [], returnType := none }, accessFlags := 2, code := none }
/-- java/util/Collections$EmptyList -/
def k30 : Class := { plain "java/util/Collections$EmptyList" (some 28) with
  accessFlags := 32
  interfaces := #[29, 2]
  cf := some (fileOf pool30 65 #[.nestHost 8] #[{ accessFlags := 2, nameIndex := 5, descriptorIndex := 6, attributes := #[] }] 32 2 #[67, 69] #[{ accessFlags := 26, nameIndex := 71, descriptorIndex := 72, attributes := #[] }])
  fields := #[{ name := "serialVersionUID", type := .long, accessFlags := 26, slot := 0, constantValue := 0 }]
  methods := #[k30m0]
  instanceTypes := #[.int]
  staticTypes := #[.long]
  resolved := Array.replicate 150 none
  statics := none }

def pool31 : Array CpInfo := pool [(2, .class_ 4), (1, u "java/lang/StackTraceElement"), (0, u "<init>"), (2, .class_ 10), (1, u "java/lang/Object"), (0, u "()V"), (2, u "format"), (0, u "B"), (2, u "classLoaderName"), (0, u "Ljava/lang/String;"), (2, u "moduleName"), (2, u "moduleVersion"), (12, u "declaringClass"), (4, u "methodName"), (2, u "fileName"), (2, u "lineNumber"), (0, u "I"), (65, u "declaringClassObject"), (0, u "Ljava/lang/Class;"), (33, .class_ 153), (1, u "java/lang/StackTraceElement$HashedModules"), (17, .class_ 172), (0, u "java/io/Serializable"), (0, u "NATIVE_METHOD"), (1, u "UNKNOWN_SOURCE"), (2, u "BUILTIN_CLASS_LOADER"), (1, u "JDK_NON_UPGRADEABLE_MODULE"), (1, u "serialVersionUID"), (0, u "J")] 51

def k31m0 : Method := { name := "<init>", desc := "()V", sig := { parameters := [], returnType := none }, accessFlags := 2, code := none }
/-- java/lang/StackTraceElement -/
def k31 : Class := { plain "java/lang/StackTraceElement" (some 0) with
  accessFlags := 49
  interfaces := #[2]
  cf := some (fileOf pool31 2 #[.nestMembers #[151]] #[{ accessFlags := 2, nameIndex := 5, descriptorIndex := 11, attributes := #[] }] 49 8 #[171] #[{ accessFlags := 26, nameIndex := 173, descriptorIndex := 19, attributes := #[] }, { accessFlags := 26, nameIndex := 175, descriptorIndex := 19, attributes := #[] }, { accessFlags := 130, nameIndex := 116, descriptorIndex := 117, attributes := #[] }, { accessFlags := 2, nameIndex := 18, descriptorIndex := 19, attributes := #[] }, { accessFlags := 2, nameIndex := 22, descriptorIndex := 19, attributes := #[] }, { accessFlags := 2, nameIndex := 25, descriptorIndex := 19, attributes := #[] }, { accessFlags := 2, nameIndex := 38, descriptorIndex := 19, attributes := #[] }, { accessFlags := 2, nameIndex := 43, descriptorIndex := 19, attributes := #[] }, { accessFlags := 2, nameIndex := 46, descriptorIndex := 19, attributes := #[] }, { accessFlags := 2, nameIndex := 49, descriptorIndex := 50, attributes := #[] }, { accessFlags := 2, nameIndex := 14, descriptorIndex := 15, attributes := #[] }, { accessFlags := 26, nameIndex := 178, descriptorIndex := 15, attributes := #[] }, { accessFlags := 26, nameIndex := 180, descriptorIndex := 15, attributes := #[] }, { accessFlags := 26, nameIndex := 182, descriptorIndex := 183, attributes := #[] }])
  fields := #[{ name := "NATIVE_METHOD", type := (.object "java/lang/String"), accessFlags := 26, slot := 0, constantValue := 0 }, { name := "UNKNOWN_SOURCE", type := (.object "java/lang/String"), accessFlags := 26, slot := 1, constantValue := 0 }, { name := "declaringClassObject", type := (.object "java/lang/Class"), accessFlags := 130, slot := 0, constantValue := 0 }, { name := "classLoaderName", type := (.object "java/lang/String"), accessFlags := 2, slot := 1, constantValue := 0 }, { name := "moduleName", type := (.object "java/lang/String"), accessFlags := 2, slot := 2, constantValue := 0 }, { name := "moduleVersion", type := (.object "java/lang/String"), accessFlags := 2, slot := 3, constantValue := 0 }, { name := "declaringClass", type := (.object "java/lang/String"), accessFlags := 2, slot := 4, constantValue := 0 }, { name := "methodName", type := (.object "java/lang/String"), accessFlags := 2, slot := 5, constantValue := 0 }, { name := "fileName", type := (.object "java/lang/String"), accessFlags := 2, slot := 6, constantValue := 0 }, { name := "lineNumber", type := .int, accessFlags := 2, slot := 7, constantValue := 0 }, { name := "format", type := .byte, accessFlags := 2, slot := 8, constantValue := 0 }, { name := "BUILTIN_CLASS_LOADER", type := .byte, accessFlags := 26, slot := 2, constantValue := 0 }, { name := "JDK_NON_UPGRADEABLE_MODULE", type := .byte, accessFlags := 26, slot := 3, constantValue := 0 }, { name := "serialVersionUID", type := .long, accessFlags := 26, slot := 4, constantValue := 0 }]
  methods := #[k31m0]
  instanceTypes := #[(.object "java/lang/Class"), (.object "java/lang/String"), (.object "java/lang/String"), (.object "java/lang/String"), (.object "java/lang/String"), (.object "java/lang/String"), (.object "java/lang/String"), .int, .byte]
  staticTypes := #[(.object "java/lang/String"), (.object "java/lang/String"), .byte, .byte, .long]
  resolved := Array.replicate 235 none
  statics := none }

def pool32 : Array CpInfo := pool [(1, u "java/lang/Cloneable"), (0, .class_ 1), (0, u "java/lang/Object"), (0, .class_ 3)] 3

/-- java/lang/Cloneable -/
def k32 : Class := { plain "java/lang/Cloneable" (some 0) with
  accessFlags := 1537
  interfaces := #[]
  cf := some (fileOf pool32 2 #[] #[] 1537 4 #[] #[])
  fields := #[]
  methods := #[]
  instanceTypes := #[]
  staticTypes := #[]
  resolved := Array.replicate 8 none
  statics := none }

/-- the primitive byte -/
def k33 : Class := { plain "byte" none with kind := .primitive 'B', accessFlags := 0x411 }
/-- [B -/
def k34 : Class := { plain "[B" (some 0) with kind := .array 33 .byte, interfaces := #[32, 2], accessFlags := 1041 }

/-- the primitive char -/
def k35 : Class := { plain "char" none with kind := .primitive 'C', accessFlags := 0x411 }
/-- [C -/
def k36 : Class := { plain "[C" (some 0) with kind := .array 35 .char, interfaces := #[32, 2], accessFlags := 1041 }

/-- the primitive int -/
def k37 : Class := { plain "int" none with kind := .primitive 'I', accessFlags := 0x411 }
/-- [I -/
def k38 : Class := { plain "[I" (some 0) with kind := .array 37 .int, interfaces := #[32, 2], accessFlags := 1041 }

/-- [Ljava/lang/Object; -/
def k39 : Class := { plain "[Ljava/lang/Object;" (some 0) with kind := .array 0 (.object "java/lang/Object"), interfaces := #[32, 2], accessFlags := 1041 }

/-- [Ljava/lang/StackTraceElement; -/
def k40 : Class := { plain "[Ljava/lang/StackTraceElement;" (some 0) with kind := .array 31 (.object "java/lang/StackTraceElement"), interfaces := #[32, 2], accessFlags := 1041 }

/-- [Ljava/lang/Throwable; -/
def k41 : Class := { plain "[Ljava/lang/Throwable;" (some 0) with kind := .array 10 (.object "java/lang/Throwable"), interfaces := #[32, 2], accessFlags := 1041 }

def heap : Heap := #[{ cls := 7, slots := #[.long 0, .int 1, .null, .int 0, .null, .int 0, .int 0], vm := .statics 7 },
  { cls := 8, slots := #[.int 0, .int 8, .int 0, .int 1], vm := .statics 8 },
  { cls := 10, slots := #[.long 0, .ref 5, .ref 6, .null, .null, .null, .null, .ref 7, .int 1], vm := .statics 10 },
  { cls := 21, slots := #[.null, .null, .null], vm := .statics 21 },
  { cls := 22, slots := #[.int 0, .int 0, .int 0, .int 0, .int 0, .int 0, .int 0, .int 0, .null, .null, .ref 6, .null], vm := .statics 22 },
  { cls := 40, slots := #[], vm := .none },
  { cls := 30, slots := #[.int 0], vm := .none },
  { cls := 41, slots := #[], vm := .none }]
def classes : Array Class := #[k0, k1, k2, k3, k4, k5, k6, k7, k8, k9, k10, k11, k12, k13, k14, k15, k16, k17, k18, k19, k20, k21, k22, k23, k24, k25, k26, k27, k28, k29, k30, k31, k32, k33, k34, k35, k36, k37, k38, k39, k40, k41]
def interned : List (Array UInt16 × Addr) := []
def slotsUsed : Nat := 36
def theMethod : MethodId := ⟨1, 3⟩
def args0 : Array Value := #[.int 5, .int 7, .int 3, .int 1]
def aboutOver (below : List Frame) : State where
  vm := { classes := classes, interned := interned.toArray }
  heap := heap
  slotsUsed := slotsUsed
  threads := #[{ frames := .invoking theMethod args0 :: below }]
def below0 : List Frame := [.native { method := ⟨0, 0⟩, args := #[] }]
def about1 : State := aboutOver below0
def p0 : Program := .bare "" "" ""
def e0 : Env := launch0.env 0 0 0
theorem w_frames : about1.frames = Frame.invoking theMethod args0 :: below0 := rfl
set_option maxRecDepth 65536 in
theorem w_args : argsFit about1.vm theMethod args0 = true := by decide +kernel
set_option maxRecDepth 65536 in
theorem w_heap : heapFits about1 = true := by decide +kernel
set_option maxRecDepth 65536 in
theorem w_runnable : about1.curStatus? = some .runnable := by decide +kernel
set_option maxRecDepth 65536 in
theorem w_alone : about1.alone = true := by decide +kernel
set_option maxRecDepth 65536 in
theorem w_named : about1.methodNamed? x = some theMethod := by decide +kernel
set_option maxRecDepth 65536 in
theorem w_hears : about1.hears theMethod below0 = true := by decide +kernel
set_option maxRecDepth 65536 in
theorem w_ripe : about1.ripe theMethod args0 below0 = true := by decide +kernel
theorem w_running : about1.status = .running := rfl
set_option maxRecDepth 65536 in
theorem w_room : about1.hasRoom e0.platform room_1 = true :=
  launch0.hasRoom_least _ room_1 (by decide +kernel) (by decide +kernel) (by decide +kernel) (by decide +kernel) (by decide +kernel) (by decide +kernel)
theorem allAtoms_all (ts : List Jvm.Cond) (a : Array Jvm.Value) (st : Jvm.State) : (allAtoms ts).before a st = ts.all (fun c => c.before a st) := by
  induction ts with
  | nil => rfl
  | cons c t ih =>
    show (Jvm.Cond.and c (allAtoms t)).before a st = _
    rw [Jvm.Cond.before_and, ih, List.all_cons]
def words1 : List Jvm.Cond := Jvm.Cond.code x code maxLocals ret :: tables_1
/-- a 'code' word, met by the world's own term for the bytes: nothing is compared byte by byte -/
theorem code_word {y : MethodName} {bytes : ByteArray} {mx : Nat} {rt : Option FieldType} {a : Array Value} {s : State} {m : MethodId} {meth : Method} {c : Code} (h1 : s.methodNamed? y = some m) (h2 : s.vm.method? m = some meth) (h3 : meth.code = some c) (h4 : c.code = bytes)
    (h5 : (c.maxLocals == mx && c.exceptionTable.isEmpty && decide (c.maxStack ≤ mostOperands) && decide (meth.sig.returnType = rt) && !meth.locks && decide (parseMethodDescriptor y.desc = some meth.sig)) = true) : (Jvm.Cond.code y bytes mx rt).before a s = true := by
  simp only [Bool.and_eq_true, beq_iff_eq, Bool.not_eq_true', decide_eq_true_eq] at h5
  obtain ⟨⟨⟨⟨⟨g1, g2⟩, g3⟩, g4⟩, g5⟩, g6⟩ := h5
  simp [Cond.before, Cond.holds, Cond.value, h1, h2, h3, h4, g1, g2, g3, g4, g5, g6]
def isCode : Jvm.Cond → Bool
  | .code _ _ _ _ => true
  | _ => false
theorem all_split {L : List Jvm.Cond} {P : Jvm.Cond → Bool} (h1 : L.all (fun c => isCode c || P c) = true) (h2 : ∀ c ∈ L.filter isCode, P c = true) : L.all P = true := by
  refine List.all_eq_true.mpr fun c hc => ?_
  have h := List.all_eq_true.mp h1 c hc
  rcases Bool.eq_false_or_eq_true (isCode c) with hi | hi
  · exact h2 c (List.mem_filter.mpr ⟨hc, hi⟩)
  · simpa [hi] using h
set_option maxRecDepth 65536 in
theorem w_c0 : (Jvm.Cond.code x code maxLocals ret).before args0 about1 = true := code_word (m := ⟨1, 3⟩) (meth := k1m3) (c := k1c3) (by decide +kernel) rfl rfl rfl (by decide +kernel)
set_option maxRecDepth 65536 in
theorem w_c1 : (Jvm.Cond.code ({ cls := "java/lang/String", name := "<init>", desc := "([C)V" } : Jvm.MethodName) jdk_42_method_3_code (2 : Nat) (Option.none : Option Jvm.ClassFile.FieldType)).before args0 about1 = true := code_word (m := ⟨7, 1⟩) (meth := k7m1) (c := k7c1) (by decide +kernel) rfl rfl rfl (by decide +kernel)
set_option maxRecDepth 65536 in
theorem w_c2 : (Jvm.Cond.code ({ cls := "java/lang/String", name := "<init>", desc := "([CIILjava/lang/Void;)V" } : Jvm.MethodName) jdk_42_method_149_code (6 : Nat) (Option.none : Option Jvm.ClassFile.FieldType)).before args0 about1 = true := code_word (m := ⟨7, 6⟩) (meth := k7m6) (c := k7c6) (by decide +kernel) rfl rfl rfl (by decide +kernel)
set_option maxRecDepth 65536 in
theorem w_c3 : (Jvm.Cond.code ({ cls := "java/lang/Object", name := "<init>", desc := "()V" } : Jvm.MethodName) object_method_1_code (1 : Nat) (Option.none : Option Jvm.ClassFile.FieldType)).before args0 about1 = true := code_word (m := ⟨0, 0⟩) (meth := k0m0) (c := k0c0) (by decide +kernel) rfl rfl rfl (by decide +kernel)
set_option maxRecDepth 65536 in
theorem w_c4 : (Jvm.Cond.code ({ cls := "java/lang/StringUTF16", name := "compress", desc := "([CII)[B" } : Jvm.MethodName) jdk_52_method_16_code (6 : Nat) (Option.some (Jvm.ClassFile.FieldType.array Jvm.ClassFile.FieldType.byte))).before args0 about1 = true := code_word (m := ⟨8, 8⟩) (meth := k8m8) (c := k8c8) (by decide +kernel) rfl rfl rfl (by decide +kernel)
set_option maxRecDepth 65536 in
theorem w_c5 : (Jvm.Cond.code ({ cls := "java/lang/StringUTF16", name := "compress", desc := "([CI[BII)I" } : Jvm.MethodName) jdk_52_method_21_code (7 : Nat) (Option.some Jvm.ClassFile.FieldType.int)).before args0 about1 = true := code_word (m := ⟨8, 9⟩) (meth := k8m9) (c := k8c9) (by decide +kernel) rfl rfl rfl (by decide +kernel)
set_option maxRecDepth 65536 in
theorem w_c6 : (Jvm.Cond.code ({ cls := "java/lang/StringUTF16", name := "coderFromArrayLen", desc := "([BI)B" } : Jvm.MethodName) jdk_52_method_15_code (2 : Nat) (Option.some Jvm.ClassFile.FieldType.byte)).before args0 about1 = true := code_word (m := ⟨8, 7⟩) (meth := k8m7) (c := k8c7) (by decide +kernel) rfl rfl rfl (by decide +kernel)
set_option maxRecDepth 65536 in
theorem w_c7 : (Jvm.Cond.code ({ cls := "com/example/tidegauge/tidegauge/Options", name := "givenTwice", desc := "(Ljava/lang/String;)Lcom/example/tidegauge/tidegauge/UsageException;" } : Jvm.MethodName) prog_29_method_14_code (1 : Nat) (Option.some (Jvm.ClassFile.FieldType.object "com/example/tidegauge/tidegauge/UsageException"))).before args0 about1 = true := code_word (m := ⟨9, 0⟩) (meth := k9m0) (c := k9c0) (by decide +kernel) rfl rfl rfl (by decide +kernel)
set_option maxRecDepth 65536 in
theorem w_c8 : (Jvm.Cond.code ({ cls := "java/lang/StringBuilder", name := "<init>", desc := "()V" } : Jvm.MethodName) jdk_67_method_1_code (1 : Nat) (Option.none : Option Jvm.ClassFile.FieldType)).before args0 about1 = true := code_word (m := ⟨15, 0⟩) (meth := k15m0) (c := k15c0) (by decide +kernel) rfl rfl rfl (by decide +kernel)
set_option maxRecDepth 65536 in
theorem w_c9 : (Jvm.Cond.code ({ cls := "java/lang/AbstractStringBuilder", name := "<init>", desc := "(I)V" } : Jvm.MethodName) jdk_68_method_2_code (2 : Nat) (Option.none : Option Jvm.ClassFile.FieldType)).before args0 about1 = true := code_word (m := ⟨14, 1⟩) (meth := k14m1) (c := k14c1) (by decide +kernel) rfl rfl rfl (by decide +kernel)
set_option maxRecDepth 65536 in
theorem w_c10 : (Jvm.Cond.code ({ cls := "java/lang/StringBuilder", name := "append", desc := "(Ljava/lang/String;)Ljava/lang/StringBuilder;" } : Jvm.MethodName) jdk_67_method_7_code (2 : Nat) (Option.some (Jvm.ClassFile.FieldType.object "java/lang/StringBuilder"))).before args0 about1 = true := code_word (m := ⟨15, 1⟩) (meth := k15m1) (c := k15c1) (by decide +kernel) rfl rfl rfl (by decide +kernel)
set_option maxRecDepth 65536 in
theorem w_c11 : (Jvm.Cond.code ({ cls := "java/lang/AbstractStringBuilder", name := "append", desc := "(Ljava/lang/String;)Ljava/lang/AbstractStringBuilder;" } : Jvm.MethodName) jdk_68_method_22_code (3 : Nat) (Option.some (Jvm.ClassFile.FieldType.object "java/lang/AbstractStringBuilder"))).before args0 about1 = true := code_word (m := ⟨14, 6⟩) (meth := k14m6) (c := k14c6) (by decide +kernel) rfl rfl rfl (by decide +kernel)
set_option maxRecDepth 65536 in
theorem w_c12 : (Jvm.Cond.code ({ cls := "java/lang/String", name := "length", desc := "()I" } : Jvm.MethodName) jdk_42_method_54_code (1 : Nat) (Option.some Jvm.ClassFile.FieldType.int)).before args0 about1 = true := code_word (m := ⟨7, 3⟩) (meth := k7m3) (c := k7c3) (by decide +kernel) rfl rfl rfl (by decide +kernel)
set_option maxRecDepth 65536 in
theorem w_c13 : (Jvm.Cond.code ({ cls := "java/lang/String", name := "coder", desc := "()B" } : Jvm.MethodName) jdk_42_method_152_code (1 : Nat) (Option.some Jvm.ClassFile.FieldType.byte)).before args0 about1 = true := code_word (m := ⟨7, 8⟩) (meth := k7m8) (c := k7c8) (by decide +kernel) rfl rfl rfl (by decide +kernel)
set_option maxRecDepth 65536 in
theorem w_c14 : (Jvm.Cond.code ({ cls := "java/lang/AbstractStringBuilder", name := "ensureCapacityInternal", desc := "(I)V" } : Jvm.MethodName) jdk_68_method_9_code (3 : Nat) (Option.none : Option Jvm.ClassFile.FieldType)).before args0 about1 = true := code_word (m := ⟨14, 3⟩) (meth := k14m3) (c := k14c3) (by decide +kernel) rfl rfl rfl (by decide +kernel)
set_option maxRecDepth 65536 in
theorem w_c15 : (Jvm.Cond.code ({ cls := "java/lang/AbstractStringBuilder", name := "putStringAt", desc := "(ILjava/lang/String;)V" } : Jvm.MethodName) jdk_68_method_73_code (3 : Nat) (Option.none : Option Jvm.ClassFile.FieldType)).before args0 about1 = true := code_word (m := ⟨14, 10⟩) (meth := k14m10) (c := k14c10) (by decide +kernel) rfl rfl rfl (by decide +kernel)
set_option maxRecDepth 65536 in
theorem w_c16 : (Jvm.Cond.code ({ cls := "java/lang/AbstractStringBuilder", name := "inflateIfNeededFor", desc := "(Ljava/lang/String;)V" } : Jvm.MethodName) jdk_68_method_71_code (2 : Nat) (Option.none : Option Jvm.ClassFile.FieldType)).before args0 about1 = true := code_word (m := ⟨14, 9⟩) (meth := k14m9) (c := k14c9) (by decide +kernel) rfl rfl rfl (by decide +kernel)
set_option maxRecDepth 65536 in
theorem w_c17 : (Jvm.Cond.code ({ cls := "java/lang/String", name := "getBytes", desc := "([BIB)V" } : Jvm.MethodName) jdk_42_method_147_code (4 : Nat) (Option.none : Option Jvm.ClassFile.FieldType)).before args0 about1 = true := code_word (m := ⟨7, 5⟩) (meth := k7m5) (c := k7c5) (by decide +kernel) rfl rfl rfl (by decide +kernel)
set_option maxRecDepth 65536 in
theorem w_c18 : (Jvm.Cond.code ({ cls := "java/lang/AbstractStringBuilder", name := "newCapacity", desc := "(I)I" } : Jvm.MethodName) jdk_68_method_10_code (6 : Nat) (Option.some Jvm.ClassFile.FieldType.int)).before args0 about1 = true := code_word (m := ⟨14, 4⟩) (meth := k14m4) (c := k14c4) (by decide +kernel) rfl rfl rfl (by decide +kernel)
set_option maxRecDepth 65536 in
theorem w_c19 : (Jvm.Cond.code ({ cls := "jdk/internal/util/ArraysSupport", name := "newLength", desc := "(III)I" } : Jvm.MethodName) jdk_48_method_27_code (4 : Nat) (Option.some Jvm.ClassFile.FieldType.int)).before args0 about1 = true := code_word (m := ⟨17, 1⟩) (meth := k17m1) (c := k17c1) (by decide +kernel) rfl rfl rfl (by decide +kernel)
set_option maxRecDepth 65536 in
theorem w_c20 : (Jvm.Cond.code ({ cls := "java/lang/Math", name := "max", desc := "(II)I" } : Jvm.MethodName) jdk_29_method_65_code (2 : Nat) (Option.some Jvm.ClassFile.FieldType.int)).before args0 about1 = true := code_word (m := ⟨18, 1⟩) (meth := k18m1) (c := k18c1) (by decide +kernel) rfl rfl rfl (by decide +kernel)
set_option maxRecDepth 65536 in
theorem w_c21 : (Jvm.Cond.code ({ cls := "java/util/Arrays", name := "copyOf", desc := "([BI)[B" } : Jvm.MethodName) jdk_65_method_121_code (3 : Nat) (Option.some (Jvm.ClassFile.FieldType.array Jvm.ClassFile.FieldType.byte))).before args0 about1 = true := code_word (m := ⟨19, 1⟩) (meth := k19m1) (c := k19c1) (by decide +kernel) rfl rfl rfl (by decide +kernel)
set_option maxRecDepth 65536 in
theorem w_c22 : (Jvm.Cond.code ({ cls := "java/lang/Math", name := "min", desc := "(II)I" } : Jvm.MethodName) jdk_29_method_69_code (2 : Nat) (Option.some Jvm.ClassFile.FieldType.int)).before args0 about1 = true := code_word (m := ⟨18, 2⟩) (meth := k18m2) (c := k18c2) (by decide +kernel) rfl rfl rfl (by decide +kernel)
set_option maxRecDepth 65536 in
theorem w_c23 : (Jvm.Cond.code ({ cls := "java/lang/StringBuilder", name := "toString", desc := "()Ljava/lang/String;" } : Jvm.MethodName) jdk_67_method_42_code (1 : Nat) (Option.some (Jvm.ClassFile.FieldType.object "java/lang/String"))).before args0 about1 = true := code_word (m := ⟨15, 2⟩) (meth := k15m2) (c := k15c2) (by decide +kernel) rfl rfl rfl (by decide +kernel)
set_option maxRecDepth 65536 in
theorem w_c24 : (Jvm.Cond.code ({ cls := "java/lang/String", name := "<init>", desc := "(Ljava/lang/StringBuilder;)V" } : Jvm.MethodName) jdk_42_method_53_code (2 : Nat) (Option.none : Option Jvm.ClassFile.FieldType)).before args0 about1 = true := code_word (m := ⟨7, 2⟩) (meth := k7m2) (c := k7c2) (by decide +kernel) rfl rfl rfl (by decide +kernel)
set_option maxRecDepth 65536 in
theorem w_c25 : (Jvm.Cond.code ({ cls := "java/lang/String", name := "<init>", desc := "(Ljava/lang/AbstractStringBuilder;Ljava/lang/Void;)V" } : Jvm.MethodName) jdk_42_method_150_code (5 : Nat) (Option.none : Option Jvm.ClassFile.FieldType)).before args0 about1 = true := code_word (m := ⟨7, 7⟩) (meth := k7m7) (c := k7c7) (by decide +kernel) rfl rfl rfl (by decide +kernel)
set_option maxRecDepth 65536 in
theorem w_c26 : (Jvm.Cond.code ({ cls := "java/lang/AbstractStringBuilder", name := "getValue", desc := "()[B" } : Jvm.MethodName) jdk_68_method_64_code (1 : Nat) (Option.some (Jvm.ClassFile.FieldType.array Jvm.ClassFile.FieldType.byte))).before args0 about1 = true := code_word (m := ⟨14, 7⟩) (meth := k14m7) (c := k14c7) (by decide +kernel) rfl rfl rfl (by decide +kernel)
set_option maxRecDepth 65536 in
theorem w_c27 : (Jvm.Cond.code ({ cls := "java/lang/StringBuilder", name := "length", desc := "()I" } : Jvm.MethodName) jdk_67_method_93_code (1 : Nat) (Option.some Jvm.ClassFile.FieldType.int)).before args0 about1 = true := code_word (m := ⟨15, 3⟩) (meth := k15m3) (c := k15c3) (by decide +kernel) rfl rfl rfl (by decide +kernel)
set_option maxRecDepth 65536 in
theorem w_c28 : (Jvm.Cond.code ({ cls := "java/lang/AbstractStringBuilder", name := "length", desc := "()I" } : Jvm.MethodName) jdk_68_method_6_code (1 : Nat) (Option.some Jvm.ClassFile.FieldType.int)).before args0 about1 = true := code_word (m := ⟨14, 2⟩) (meth := k14m2) (c := k14c2) (by decide +kernel) rfl rfl rfl (by decide +kernel)
set_option maxRecDepth 65536 in
theorem w_c29 : (Jvm.Cond.code ({ cls := "java/lang/AbstractStringBuilder", name := "isLatin1", desc := "()Z" } : Jvm.MethodName) jdk_68_method_68_code (1 : Nat) (Option.some Jvm.ClassFile.FieldType.boolean)).before args0 about1 = true := code_word (m := ⟨14, 8⟩) (meth := k14m8) (c := k14c8) (by decide +kernel) rfl rfl rfl (by decide +kernel)
set_option maxRecDepth 65536 in
theorem w_c30 : (Jvm.Cond.code ({ cls := "java/util/Arrays", name := "copyOfRange", desc := "([BII)[B" } : Jvm.MethodName) jdk_65_method_132_code (3 : Nat) (Option.some (Jvm.ClassFile.FieldType.array Jvm.ClassFile.FieldType.byte))).before args0 about1 = true := code_word (m := ⟨19, 3⟩) (meth := k19m3) (c := k19c3) (by decide +kernel) rfl rfl rfl (by decide +kernel)
set_option maxRecDepth 65536 in
theorem w_c31 : (Jvm.Cond.code ({ cls := "java/util/Arrays", name := "copyOfRangeByte", desc := "([BII)[B" } : Jvm.MethodName) jdk_65_method_133_code (5 : Nat) (Option.some (Jvm.ClassFile.FieldType.array Jvm.ClassFile.FieldType.byte))).before args0 about1 = true := code_word (m := ⟨19, 4⟩) (meth := k19m4) (c := k19c4) (by decide +kernel) rfl rfl rfl (by decide +kernel)
set_option maxRecDepth 65536 in
theorem w_c32 : (Jvm.Cond.code ({ cls := "java/util/Arrays", name := "checkLength", desc := "(II)V" } : Jvm.MethodName) jdk_65_method_131_code (2 : Nat) (Option.none : Option Jvm.ClassFile.FieldType)).before args0 about1 = true := code_word (m := ⟨19, 2⟩) (meth := k19m2) (c := k19c2) (by decide +kernel) rfl rfl rfl (by decide +kernel)
set_option maxRecDepth 65536 in
theorem w_c33 : (Jvm.Cond.code ({ cls := "com/example/tidegauge/tidegauge/UsageException", name := "<init>", desc := "(Ljava/lang/String;)V" } : Jvm.MethodName) prog_43_method_1_code (2 : Nat) (Option.none : Option Jvm.ClassFile.FieldType)).before args0 about1 = true := code_word (m := ⟨12, 0⟩) (meth := k12m0) (c := k12c0) (by decide +kernel) rfl rfl rfl (by decide +kernel)
set_option maxRecDepth 65536 in
theorem w_c34 : (Jvm.Cond.code ({ cls := "java/lang/Exception", name := "<init>", desc := "(Ljava/lang/String;)V" } : Jvm.MethodName) jdk_59_method_2_code (2 : Nat) (Option.none : Option Jvm.ClassFile.FieldType)).before args0 about1 = true := code_word (m := ⟨11, 1⟩) (meth := k11m1) (c := k11c1) (by decide +kernel) rfl rfl rfl (by decide +kernel)
set_option maxRecDepth 65536 in
theorem w_c35 : (Jvm.Cond.code ({ cls := "java/lang/Throwable", name := "<init>", desc := "(Ljava/lang/String;)V" } : Jvm.MethodName) jdk_78_method_2_code (2 : Nat) (Option.none : Option Jvm.ClassFile.FieldType)).before args0 about1 = true := code_word (m := ⟨10, 1⟩) (meth := k10m1) (c := k10c1) (by decide +kernel) rfl rfl rfl (by decide +kernel)
set_option maxRecDepth 65536 in
theorem w_c36 : (Jvm.Cond.code ({ cls := "java/lang/Throwable", name := "<init>", desc := "()V" } : Jvm.MethodName) jdk_78_method_1_code (1 : Nat) (Option.none : Option Jvm.ClassFile.FieldType)).before args0 about1 = true := code_word (m := ⟨10, 0⟩) (meth := k10m0) (c := k10c0) (by decide +kernel) rfl rfl rfl (by decide +kernel)
set_option maxRecDepth 65536 in
theorem w_c37 : (Jvm.Cond.code ({ cls := "java/lang/Throwable", name := "getMessage", desc := "()Ljava/lang/String;" } : Jvm.MethodName) jdk_78_method_6_code (1 : Nat) (Option.some (Jvm.ClassFile.FieldType.object "java/lang/String"))).before args0 about1 = true := code_word (m := ⟨10, 2⟩) (meth := k10m2) (c := k10c2) (by decide +kernel) rfl rfl rfl (by decide +kernel)
set_option maxRecDepth 65536 in
theorem w_c38 : (Jvm.Cond.code ({ cls := "com/example/tidegauge/tidegauge/OptionsGivenTwicePinLaw", name := "prefixOk", desc := "(Ljava/lang/String;)Z" } : Jvm.MethodName) method_2_code (2 : Nat) (Option.some Jvm.ClassFile.FieldType.boolean)).before args0 about1 = true := code_word (m := ⟨1, 1⟩) (meth := k1m1) (c := k1c1) (by decide +kernel) rfl rfl rfl (by decide +kernel)
set_option maxRecDepth 65536 in
theorem w_c39 : (Jvm.Cond.code ({ cls := "java/lang/String", name := "charAt", desc := "(I)C" } : Jvm.MethodName) jdk_42_method_56_code (2 : Nat) (Option.some Jvm.ClassFile.FieldType.char)).before args0 about1 = true := code_word (m := ⟨7, 4⟩) (meth := k7m4) (c := k7c4) (by decide +kernel) rfl rfl rfl (by decide +kernel)
set_option maxRecDepth 65536 in
theorem w_c40 : (Jvm.Cond.code ({ cls := "java/lang/String", name := "isLatin1", desc := "()Z" } : Jvm.MethodName) jdk_42_method_154_code (1 : Nat) (Option.some Jvm.ClassFile.FieldType.boolean)).before args0 about1 = true := code_word (m := ⟨7, 9⟩) (meth := k7m9) (c := k7c9) (by decide +kernel) rfl rfl rfl (by decide +kernel)
set_option maxRecDepth 65536 in
theorem w_c41 : (Jvm.Cond.code ({ cls := "java/lang/StringLatin1", name := "charAt", desc := "([BI)C" } : Jvm.MethodName) jdk_43_method_2_code (2 : Nat) (Option.some Jvm.ClassFile.FieldType.char)).before args0 about1 = true := code_word (m := ⟨20, 1⟩) (meth := k20m1) (c := k20c1) (by decide +kernel) rfl rfl rfl (by decide +kernel)
set_option maxRecDepth 65536 in
theorem w_c42 : (Jvm.Cond.code ({ cls := "java/lang/String", name := "checkIndex", desc := "(II)V" } : Jvm.MethodName) jdk_42_method_155_code (2 : Nat) (Option.none : Option Jvm.ClassFile.FieldType)).before args0 about1 = true := code_word (m := ⟨7, 10⟩) (meth := k7m10) (c := k7c10) (by decide +kernel) rfl rfl rfl (by decide +kernel)
set_option maxRecDepth 65536 in
theorem w_c43 : (Jvm.Cond.code ({ cls := "jdk/internal/util/Preconditions", name := "checkIndex", desc := "(IILjava/util/function/BiFunction;)I" } : Jvm.MethodName) jdk_41_method_11_code (3 : Nat) (Option.some Jvm.ClassFile.FieldType.int)).before args0 about1 = true := code_word (m := ⟨21, 1⟩) (meth := k21m1) (c := k21c1) (by decide +kernel) rfl rfl rfl (by decide +kernel)
set_option maxRecDepth 65536 in
theorem w_c44 : (Jvm.Cond.code ({ cls := "com/example/tidegauge/tidegauge/OptionsGivenTwicePinLaw", name := "suffixOk", desc := "(Ljava/lang/String;I)Z" } : Jvm.MethodName) method_3_code (3 : Nat) (Option.some Jvm.ClassFile.FieldType.boolean)).before args0 about1 = true := code_word (m := ⟨1, 2⟩) (meth := k1m2) (c := k1c2) (by decide +kernel) rfl rfl rfl (by decide +kernel)
set_option maxRecDepth 65536 in
theorem w_c45 : (Jvm.Cond.code ({ cls := "java/lang/StringUTF16", name := "toBytes", desc := "([CII)[B" } : Jvm.MethodName) jdk_52_method_14_code (5 : Nat) (Option.some (Jvm.ClassFile.FieldType.array Jvm.ClassFile.FieldType.byte))).before args0 about1 = true := code_word (m := ⟨8, 6⟩) (meth := k8m6) (c := k8c6) (by decide +kernel) rfl rfl rfl (by decide +kernel)
set_option maxRecDepth 65536 in
theorem w_c46 : (Jvm.Cond.code ({ cls := "java/lang/StringUTF16", name := "newBytesFor", desc := "(I)[B" } : Jvm.MethodName) jdk_52_method_2_code (1 : Nat) (Option.some (Jvm.ClassFile.FieldType.array Jvm.ClassFile.FieldType.byte))).before args0 about1 = true := code_word (m := ⟨8, 1⟩) (meth := k8m1) (c := k8c1) (by decide +kernel) rfl rfl rfl (by decide +kernel)
set_option maxRecDepth 65536 in
theorem w_c47 : (Jvm.Cond.code ({ cls := "java/lang/StringUTF16", name := "newBytesLength", desc := "(I)I" } : Jvm.MethodName) jdk_52_method_3_code (1 : Nat) (Option.some Jvm.ClassFile.FieldType.int)).before args0 about1 = true := code_word (m := ⟨8, 2⟩) (meth := k8m2) (c := k8c2) (by decide +kernel) rfl rfl rfl (by decide +kernel)
set_option maxRecDepth 65536 in
theorem w_c48 : (Jvm.Cond.code ({ cls := "java/lang/StringUTF16", name := "putChar", desc := "([BII)V" } : Jvm.MethodName) jdk_52_method_4_code (3 : Nat) (Option.none : Option Jvm.ClassFile.FieldType)).before args0 about1 = true := code_word (m := ⟨8, 3⟩) (meth := k8m3) (c := k8c3) (by decide +kernel) rfl rfl rfl (by decide +kernel)
set_option maxRecDepth 65536 in
theorem w_c49 : (Jvm.Cond.code ({ cls := "java/lang/StringUTF16", name := "getChar", desc := "([BI)C" } : Jvm.MethodName) jdk_52_method_5_code (2 : Nat) (Option.some Jvm.ClassFile.FieldType.char)).before args0 about1 = true := code_word (m := ⟨8, 4⟩) (meth := k8m4) (c := k8c4) (by decide +kernel) rfl rfl rfl (by decide +kernel)
set_option maxRecDepth 65536 in
theorem w_c50 : (Jvm.Cond.code ({ cls := "java/lang/AbstractStringBuilder", name := "inflate", desc := "()V" } : Jvm.MethodName) jdk_68_method_11_code (2 : Nat) (Option.none : Option Jvm.ClassFile.FieldType)).before args0 about1 = true := code_word (m := ⟨14, 5⟩) (meth := k14m5) (c := k14c5) (by decide +kernel) rfl rfl rfl (by decide +kernel)
set_option maxRecDepth 65536 in
theorem w_c51 : (Jvm.Cond.code ({ cls := "java/lang/StringLatin1", name := "inflate", desc := "([BI[BII)V" } : Jvm.MethodName) jdk_43_method_50_code (5 : Nat) (Option.none : Option Jvm.ClassFile.FieldType)).before args0 about1 = true := code_word (m := ⟨20, 2⟩) (meth := k20m2) (c := k20c2) (by decide +kernel) rfl rfl rfl (by decide +kernel)
set_option maxRecDepth 65536 in
theorem w_c52 : (Jvm.Cond.code ({ cls := "java/lang/StringUTF16", name := "inflate", desc := "([BI[BII)V" } : Jvm.MethodName) jdk_52_method_86_code (6 : Nat) (Option.none : Option Jvm.ClassFile.FieldType)).before args0 about1 = true := code_word (m := ⟨8, 11⟩) (meth := k8m11) (c := k8c11) (by decide +kernel) rfl rfl rfl (by decide +kernel)
set_option maxRecDepth 65536 in
theorem w_c53 : (Jvm.Cond.code ({ cls := "java/lang/StringUTF16", name := "checkBoundsOffCount", desc := "(II[B)V" } : Jvm.MethodName) jdk_52_method_94_code (3 : Nat) (Option.none : Option Jvm.ClassFile.FieldType)).before args0 about1 = true := code_word (m := ⟨8, 13⟩) (meth := k8m13) (c := k8c13) (by decide +kernel) rfl rfl rfl (by decide +kernel)
set_option maxRecDepth 65536 in
theorem w_c54 : (Jvm.Cond.code ({ cls := "java/lang/StringUTF16", name := "length", desc := "([B)I" } : Jvm.MethodName) jdk_52_method_6_code (1 : Nat) (Option.some Jvm.ClassFile.FieldType.int)).before args0 about1 = true := code_word (m := ⟨8, 5⟩) (meth := k8m5) (c := k8c5) (by decide +kernel) rfl rfl rfl (by decide +kernel)
set_option maxRecDepth 65536 in
theorem w_c55 : (Jvm.Cond.code ({ cls := "java/lang/String", name := "checkBoundsOffCount", desc := "(III)I" } : Jvm.MethodName) jdk_42_method_157_code (3 : Nat) (Option.some Jvm.ClassFile.FieldType.int)).before args0 about1 = true := code_word (m := ⟨7, 11⟩) (meth := k7m11) (c := k7c11) (by decide +kernel) rfl rfl rfl (by decide +kernel)
set_option maxRecDepth 65536 in
theorem w_c56 : (Jvm.Cond.code ({ cls := "jdk/internal/util/Preconditions", name := "checkFromIndexSize", desc := "(IIILjava/util/function/BiFunction;)I" } : Jvm.MethodName) jdk_41_method_13_code (4 : Nat) (Option.some Jvm.ClassFile.FieldType.int)).before args0 about1 = true := code_word (m := ⟨21, 2⟩) (meth := k21m2) (c := k21c2) (by decide +kernel) rfl rfl rfl (by decide +kernel)
set_option maxRecDepth 65536 in
theorem w_c57 : (Jvm.Cond.code ({ cls := "java/lang/StringUTF16", name := "charAt", desc := "([BI)C" } : Jvm.MethodName) jdk_52_method_83_code (2 : Nat) (Option.some Jvm.ClassFile.FieldType.char)).before args0 about1 = true := code_word (m := ⟨8, 10⟩) (meth := k8m10) (c := k8c10) (by decide +kernel) rfl rfl rfl (by decide +kernel)
set_option maxRecDepth 65536 in
theorem w_c58 : (Jvm.Cond.code ({ cls := "java/lang/StringUTF16", name := "checkIndex", desc := "(I[B)V" } : Jvm.MethodName) jdk_52_method_91_code (2 : Nat) (Option.none : Option Jvm.ClassFile.FieldType)).before args0 about1 = true := code_word (m := ⟨8, 12⟩) (meth := k8m12) (c := k8c12) (by decide +kernel) rfl rfl rfl (by decide +kernel)
def codes1 : List Jvm.Cond := [Jvm.Cond.code x code maxLocals ret, Jvm.Cond.code ({ cls := "java/lang/String", name := "<init>", desc := "([C)V" } : Jvm.MethodName) jdk_42_method_3_code (2 : Nat) (Option.none : Option Jvm.ClassFile.FieldType), Jvm.Cond.code ({ cls := "java/lang/String", name := "<init>", desc := "([CIILjava/lang/Void;)V" } : Jvm.MethodName) jdk_42_method_149_code (6 : Nat) (Option.none : Option Jvm.ClassFile.FieldType), Jvm.Cond.code ({ cls := "java/lang/Object", name := "<init>", desc := "()V" } : Jvm.MethodName) object_method_1_code (1 : Nat) (Option.none : Option Jvm.ClassFile.FieldType), Jvm.Cond.code ({ cls := "java/lang/StringUTF16", name := "compress", desc := "([CII)[B" } : Jvm.MethodName) jdk_52_method_16_code (6 : Nat) (Option.some (Jvm.ClassFile.FieldType.array Jvm.ClassFile.FieldType.byte)), Jvm.Cond.code ({ cls := "java/lang/StringUTF16", name := "compress", desc := "([CI[BII)I" } : Jvm.MethodName) jdk_52_method_21_code (7 : Nat) (Option.some Jvm.ClassFile.FieldType.int), Jvm.Cond.code ({ cls := "java/lang/StringUTF16", name := "coderFromArrayLen", desc := "([BI)B" } : Jvm.MethodName) jdk_52_method_15_code (2 : Nat) (Option.some Jvm.ClassFile.FieldType.byte), Jvm.Cond.code ({ cls := "com/example/tidegauge/tidegauge/Options", name := "givenTwice", desc := "(Ljava/lang/String;)Lcom/example/tidegauge/tidegauge/UsageException;" } : Jvm.MethodName) prog_29_method_14_code (1 : Nat) (Option.some (Jvm.ClassFile.FieldType.object "com/example/tidegauge/tidegauge/UsageException")), Jvm.Cond.code ({ cls := "java/lang/StringBuilder", name := "<init>", desc := "()V" } : Jvm.MethodName) jdk_67_method_1_code (1 : Nat) (Option.none : Option Jvm.ClassFile.FieldType), Jvm.Cond.code ({ cls := "java/lang/AbstractStringBuilder", name := "<init>", desc := "(I)V" } : Jvm.MethodName) jdk_68_method_2_code (2 : Nat) (Option.none : Option Jvm.ClassFile.FieldType), Jvm.Cond.code ({ cls := "java/lang/StringBuilder", name := "append", desc := "(Ljava/lang/String;)Ljava/lang/StringBuilder;" } : Jvm.MethodName) jdk_67_method_7_code (2 : Nat) (Option.some (Jvm.ClassFile.FieldType.object "java/lang/StringBuilder")), Jvm.Cond.code ({ cls := "java/lang/AbstractStringBuilder", name := "append", desc := "(Ljava/lang/String;)Ljava/lang/AbstractStringBuilder;" } : Jvm.MethodName) jdk_68_method_22_code (3 : Nat) (Option.some (Jvm.ClassFile.FieldType.object "java/lang/AbstractStringBuilder")), Jvm.Cond.code ({ cls := "java/lang/String", name := "length", desc := "()I" } : Jvm.MethodName) jdk_42_method_54_code (1 : Nat) (Option.some Jvm.ClassFile.FieldType.int), Jvm.Cond.code ({ cls := "java/lang/String", name := "coder", desc := "()B" } : Jvm.MethodName) jdk_42_method_152_code (1 : Nat) (Option.some Jvm.ClassFile.FieldType.byte), Jvm.Cond.code ({ cls := "java/lang/AbstractStringBuilder", name := "ensureCapacityInternal", desc := "(I)V" } : Jvm.MethodName) jdk_68_method_9_code (3 : Nat) (Option.none : Option Jvm.ClassFile.FieldType), Jvm.Cond.code ({ cls := "java/lang/AbstractStringBuilder", name := "putStringAt", desc := "(ILjava/lang/String;)V" } : Jvm.MethodName) jdk_68_method_73_code (3 : Nat) (Option.none : Option Jvm.ClassFile.FieldType), Jvm.Cond.code ({ cls := "java/lang/AbstractStringBuilder", name := "inflateIfNeededFor", desc := "(Ljava/lang/String;)V" } : Jvm.MethodName) jdk_68_method_71_code (2 : Nat) (Option.none : Option Jvm.ClassFile.FieldType), Jvm.Cond.code ({ cls := "java/lang/String", name := "getBytes", desc := "([BIB)V" } : Jvm.MethodName) jdk_42_method_147_code (4 : Nat) (Option.none : Option Jvm.ClassFile.FieldType), Jvm.Cond.code ({ cls := "java/lang/AbstractStringBuilder", name := "newCapacity", desc := "(I)I" } : Jvm.MethodName) jdk_68_method_10_code (6 : Nat) (Option.some Jvm.ClassFile.FieldType.int), Jvm.Cond.code ({ cls := "jdk/internal/util/ArraysSupport", name := "newLength", desc := "(III)I" } : Jvm.MethodName) jdk_48_method_27_code (4 : Nat) (Option.some Jvm.ClassFile.FieldType.int), Jvm.Cond.code ({ cls := "java/lang/Math", name := "max", desc := "(II)I" } : Jvm.MethodName) jdk_29_method_65_code (2 : Nat) (Option.some Jvm.ClassFile.FieldType.int), Jvm.Cond.code ({ cls := "java/util/Arrays", name := "copyOf", desc := "([BI)[B" } : Jvm.MethodName) jdk_65_method_121_code (3 : Nat) (Option.some (Jvm.ClassFile.FieldType.array Jvm.ClassFile.FieldType.byte)), Jvm.Cond.code ({ cls := "java/lang/Math", name := "min", desc := "(II)I" } : Jvm.MethodName) jdk_29_method_69_code (2 : Nat) (Option.some Jvm.ClassFile.FieldType.int), Jvm.Cond.code ({ cls := "java/lang/StringBuilder", name := "toString", desc := "()Ljava/lang/String;" } : Jvm.MethodName) jdk_67_method_42_code (1 : Nat) (Option.some (Jvm.ClassFile.FieldType.object "java/lang/String")), Jvm.Cond.code ({ cls := "java/lang/String", name := "<init>", desc := "(Ljava/lang/StringBuilder;)V" } : Jvm.MethodName) jdk_42_method_53_code (2 : Nat) (Option.none : Option Jvm.ClassFile.FieldType), Jvm.Cond.code ({ cls := "java/lang/String", name := "<init>", desc := "(Ljava/lang/AbstractStringBuilder;Ljava/lang/Void;)V" } : Jvm.MethodName) jdk_42_method_150_code (5 : Nat) (Option.none : Option Jvm.ClassFile.FieldType), Jvm.Cond.code ({ cls := "java/lang/AbstractStringBuilder", name := "getValue", desc := "()[B" } : Jvm.MethodName) jdk_68_method_64_code (1 : Nat) (Option.some (Jvm.ClassFile.FieldType.array Jvm.ClassFile.FieldType.byte)), Jvm.Cond.code ({ cls := "java/lang/StringBuilder", name := "length", desc := "()I" } : Jvm.MethodName) jdk_67_method_93_code (1 : Nat) (Option.some Jvm.ClassFile.FieldType.int), Jvm.Cond.code ({ cls := "java/lang/AbstractStringBuilder", name := "length", desc := "()I" } : Jvm.MethodName) jdk_68_method_6_code (1 : Nat) (Option.some Jvm.ClassFile.FieldType.int), Jvm.Cond.code ({ cls := "java/lang/AbstractStringBuilder", name := "isLatin1", desc := "()Z" } : Jvm.MethodName) jdk_68_method_68_code (1 : Nat) (Option.some Jvm.ClassFile.FieldType.boolean), Jvm.Cond.code ({ cls := "java/util/Arrays", name := "copyOfRange", desc := "([BII)[B" } : Jvm.MethodName) jdk_65_method_132_code (3 : Nat) (Option.some (Jvm.ClassFile.FieldType.array Jvm.ClassFile.FieldType.byte)), Jvm.Cond.code ({ cls := "java/util/Arrays", name := "copyOfRangeByte", desc := "([BII)[B" } : Jvm.MethodName) jdk_65_method_133_code (5 : Nat) (Option.some (Jvm.ClassFile.FieldType.array Jvm.ClassFile.FieldType.byte)), Jvm.Cond.code ({ cls := "java/util/Arrays", name := "checkLength", desc := "(II)V" } : Jvm.MethodName) jdk_65_method_131_code (2 : Nat) (Option.none : Option Jvm.ClassFile.FieldType), Jvm.Cond.code ({ cls := "com/example/tidegauge/tidegauge/UsageException", name := "<init>", desc := "(Ljava/lang/String;)V" } : Jvm.MethodName) prog_43_method_1_code (2 : Nat) (Option.none : Option Jvm.ClassFile.FieldType), Jvm.Cond.code ({ cls := "java/lang/Exception", name := "<init>", desc := "(Ljava/lang/String;)V" } : Jvm.MethodName) jdk_59_method_2_code (2 : Nat) (Option.none : Option Jvm.ClassFile.FieldType), Jvm.Cond.code ({ cls := "java/lang/Throwable", name := "<init>", desc := "(Ljava/lang/String;)V" } : Jvm.MethodName) jdk_78_method_2_code (2 : Nat) (Option.none : Option Jvm.ClassFile.FieldType), Jvm.Cond.code ({ cls := "java/lang/Throwable", name := "<init>", desc := "()V" } : Jvm.MethodName) jdk_78_method_1_code (1 : Nat) (Option.none : Option Jvm.ClassFile.FieldType), Jvm.Cond.code ({ cls := "java/lang/Throwable", name := "getMessage", desc := "()Ljava/lang/String;" } : Jvm.MethodName) jdk_78_method_6_code (1 : Nat) (Option.some (Jvm.ClassFile.FieldType.object "java/lang/String")), Jvm.Cond.code ({ cls := "com/example/tidegauge/tidegauge/OptionsGivenTwicePinLaw", name := "prefixOk", desc := "(Ljava/lang/String;)Z" } : Jvm.MethodName) method_2_code (2 : Nat) (Option.some Jvm.ClassFile.FieldType.boolean), Jvm.Cond.code ({ cls := "java/lang/String", name := "charAt", desc := "(I)C" } : Jvm.MethodName) jdk_42_method_56_code (2 : Nat) (Option.some Jvm.ClassFile.FieldType.char), Jvm.Cond.code ({ cls := "java/lang/String", name := "isLatin1", desc := "()Z" } : Jvm.MethodName) jdk_42_method_154_code (1 : Nat) (Option.some Jvm.ClassFile.FieldType.boolean), Jvm.Cond.code ({ cls := "java/lang/StringLatin1", name := "charAt", desc := "([BI)C" } : Jvm.MethodName) jdk_43_method_2_code (2 : Nat) (Option.some Jvm.ClassFile.FieldType.char), Jvm.Cond.code ({ cls := "java/lang/String", name := "checkIndex", desc := "(II)V" } : Jvm.MethodName) jdk_42_method_155_code (2 : Nat) (Option.none : Option Jvm.ClassFile.FieldType), Jvm.Cond.code ({ cls := "jdk/internal/util/Preconditions", name := "checkIndex", desc := "(IILjava/util/function/BiFunction;)I" } : Jvm.MethodName) jdk_41_method_11_code (3 : Nat) (Option.some Jvm.ClassFile.FieldType.int), Jvm.Cond.code ({ cls := "com/example/tidegauge/tidegauge/OptionsGivenTwicePinLaw", name := "suffixOk", desc := "(Ljava/lang/String;I)Z" } : Jvm.MethodName) method_3_code (3 : Nat) (Option.some Jvm.ClassFile.FieldType.boolean), Jvm.Cond.code ({ cls := "java/lang/StringUTF16", name := "toBytes", desc := "([CII)[B" } : Jvm.MethodName) jdk_52_method_14_code (5 : Nat) (Option.some (Jvm.ClassFile.FieldType.array Jvm.ClassFile.FieldType.byte)), Jvm.Cond.code ({ cls := "java/lang/StringUTF16", name := "newBytesFor", desc := "(I)[B" } : Jvm.MethodName) jdk_52_method_2_code (1 : Nat) (Option.some (Jvm.ClassFile.FieldType.array Jvm.ClassFile.FieldType.byte)), Jvm.Cond.code ({ cls := "java/lang/StringUTF16", name := "newBytesLength", desc := "(I)I" } : Jvm.MethodName) jdk_52_method_3_code (1 : Nat) (Option.some Jvm.ClassFile.FieldType.int), Jvm.Cond.code ({ cls := "java/lang/StringUTF16", name := "putChar", desc := "([BII)V" } : Jvm.MethodName) jdk_52_method_4_code (3 : Nat) (Option.none : Option Jvm.ClassFile.FieldType), Jvm.Cond.code ({ cls := "java/lang/StringUTF16", name := "getChar", desc := "([BI)C" } : Jvm.MethodName) jdk_52_method_5_code (2 : Nat) (Option.some Jvm.ClassFile.FieldType.char), Jvm.Cond.code ({ cls := "java/lang/AbstractStringBuilder", name := "inflate", desc := "()V" } : Jvm.MethodName) jdk_68_method_11_code (2 : Nat) (Option.none : Option Jvm.ClassFile.FieldType), Jvm.Cond.code ({ cls := "java/lang/StringLatin1", name := "inflate", desc := "([BI[BII)V" } : Jvm.MethodName) jdk_43_method_50_code (5 : Nat) (Option.none : Option Jvm.ClassFile.FieldType), Jvm.Cond.code ({ cls := "java/lang/StringUTF16", name := "inflate", desc := "([BI[BII)V" } : Jvm.MethodName) jdk_52_method_86_code (6 : Nat) (Option.none : Option Jvm.ClassFile.FieldType), Jvm.Cond.code ({ cls := "java/lang/StringUTF16", name := "checkBoundsOffCount", desc := "(II[B)V" } : Jvm.MethodName) jdk_52_method_94_code (3 : Nat) (Option.none : Option Jvm.ClassFile.FieldType), Jvm.Cond.code ({ cls := "java/lang/StringUTF16", name := "length", desc := "([B)I" } : Jvm.MethodName) jdk_52_method_6_code (1 : Nat) (Option.some Jvm.ClassFile.FieldType.int), Jvm.Cond.code ({ cls := "java/lang/String", name := "checkBoundsOffCount", desc := "(III)I" } : Jvm.MethodName) jdk_42_method_157_code (3 : Nat) (Option.some Jvm.ClassFile.FieldType.int), Jvm.Cond.code ({ cls := "jdk/internal/util/Preconditions", name := "checkFromIndexSize", desc := "(IIILjava/util/function/BiFunction;)I" } : Jvm.MethodName) jdk_41_method_13_code (4 : Nat) (Option.some Jvm.ClassFile.FieldType.int), Jvm.Cond.code ({ cls := "java/lang/StringUTF16", name := "charAt", desc := "([BI)C" } : Jvm.MethodName) jdk_52_method_83_code (2 : Nat) (Option.some Jvm.ClassFile.FieldType.char), Jvm.Cond.code ({ cls := "java/lang/StringUTF16", name := "checkIndex", desc := "(I[B)V" } : Jvm.MethodName) jdk_52_method_91_code (2 : Nat) (Option.none : Option Jvm.ClassFile.FieldType)]
set_option maxRecDepth 65536 in
theorem codes_eq : words1.filter isCode = codes1 := rfl
theorem w_codes : ∀ c ∈ words1.filter isCode, c.before args0 about1 = true := by
  rw [codes_eq]
  intro c hc
  simp only [codes1, List.mem_cons, List.not_mem_nil, or_false] at hc
  rcases hc with rfl | rfl | rfl | rfl | rfl | rfl | rfl | rfl | rfl | rfl | rfl | rfl | rfl | rfl | rfl | rfl | rfl | rfl | rfl | rfl | rfl | rfl | rfl | rfl | rfl | rfl | rfl | rfl | rfl | rfl | rfl | rfl | rfl | rfl | rfl | rfl | rfl | rfl | rfl | rfl | rfl | rfl | rfl | rfl | rfl | rfl | rfl | rfl | rfl | rfl | rfl | rfl | rfl | rfl | rfl | rfl | rfl | rfl | rfl
  · exact w_c0
  · exact w_c1
  · exact w_c2
  · exact w_c3
  · exact w_c4
  · exact w_c5
  · exact w_c6
  · exact w_c7
  · exact w_c8
  · exact w_c9
  · exact w_c10
  · exact w_c11
  · exact w_c12
  · exact w_c13
  · exact w_c14
  · exact w_c15
  · exact w_c16
  · exact w_c17
  · exact w_c18
  · exact w_c19
  · exact w_c20
  · exact w_c21
  · exact w_c22
  · exact w_c23
  · exact w_c24
  · exact w_c25
  · exact w_c26
  · exact w_c27
  · exact w_c28
  · exact w_c29
  · exact w_c30
  · exact w_c31
  · exact w_c32
  · exact w_c33
  · exact w_c34
  · exact w_c35
  · exact w_c36
  · exact w_c37
  · exact w_c38
  · exact w_c39
  · exact w_c40
  · exact w_c41
  · exact w_c42
  · exact w_c43
  · exact w_c44
  · exact w_c45
  · exact w_c46
  · exact w_c47
  · exact w_c48
  · exact w_c49
  · exact w_c50
  · exact w_c51
  · exact w_c52
  · exact w_c53
  · exact w_c54
  · exact w_c55
  · exact w_c56
  · exact w_c57
  · exact w_c58
set_option maxRecDepth 65536 in
theorem w_t1 : (words1.take 24).all (fun c => isCode c || c.before args0 about1) = true := by decide +kernel
set_option maxRecDepth 65536 in
theorem w_t2 : ((words1.drop 24).take 24).all (fun c => isCode c || c.before args0 about1) = true := by decide +kernel
set_option maxRecDepth 65536 in
theorem w_t3 : (((words1.drop 24).drop 24).take 24).all (fun c => isCode c || c.before args0 about1) = true := by decide +kernel
set_option maxRecDepth 65536 in
theorem w_t4 : ((((words1.drop 24).drop 24).drop 24).take 24).all (fun c => isCode c || c.before args0 about1) = true := by decide +kernel
set_option maxRecDepth 65536 in
theorem w_t5 : (((((words1.drop 24).drop 24).drop 24).drop 24).take 24).all (fun c => isCode c || c.before args0 about1) = true := by decide +kernel
set_option maxRecDepth 65536 in
theorem w_t6 : ((((((words1.drop 24).drop 24).drop 24).drop 24).drop 24).take 24).all (fun c => isCode c || c.before args0 about1) = true := by decide +kernel
set_option maxRecDepth 65536 in
theorem w_t7 : (((((((words1.drop 24).drop 24).drop 24).drop 24).drop 24).drop 24).take 24).all (fun c => isCode c || c.before args0 about1) = true := by decide +kernel
set_option maxRecDepth 65536 in
theorem w_t8 : ((((((((words1.drop 24).drop 24).drop 24).drop 24).drop 24).drop 24).drop 24).take 24).all (fun c => isCode c || c.before args0 about1) = true := by decide +kernel
set_option maxRecDepth 65536 in
theorem w_t9 : (((((((((words1.drop 24).drop 24).drop 24).drop 24).drop 24).drop 24).drop 24).drop 24).take 24).all (fun c => isCode c || c.before args0 about1) = true := by decide +kernel
set_option maxRecDepth 65536 in
theorem w_t10 : ((((((((((words1.drop 24).drop 24).drop 24).drop 24).drop 24).drop 24).drop 24).drop 24).drop 24).take 24).all (fun c => isCode c || c.before args0 about1) = true := by decide +kernel
set_option maxRecDepth 65536 in
theorem w_t11 : (((((((((((words1.drop 24).drop 24).drop 24).drop 24).drop 24).drop 24).drop 24).drop 24).drop 24).drop 24).take 24).all (fun c => isCode c || c.before args0 about1) = true := by decide +kernel
set_option maxRecDepth 65536 in
theorem w_t12 : ((((((((((((words1.drop 24).drop 24).drop 24).drop 24).drop 24).drop 24).drop 24).drop 24).drop 24).drop 24).drop 24).take 24).all (fun c => isCode c || c.before args0 about1) = true := by decide +kernel
set_option maxRecDepth 65536 in
theorem w_t13 : (((((((((((((words1.drop 24).drop 24).drop 24).drop 24).drop 24).drop 24).drop 24).drop 24).drop 24).drop 24).drop 24).drop 24).take 24).all (fun c => isCode c || c.before args0 about1) = true := by decide +kernel
set_option maxRecDepth 65536 in
theorem w_t14 : (((((((((((((words1.drop 24).drop 24).drop 24).drop 24).drop 24).drop 24).drop 24).drop 24).drop 24).drop 24).drop 24).drop 24).drop 24).all (fun c => isCode c || c.before args0 about1) = true := by decide +kernel
theorem w_tables : (allAtoms (Jvm.Cond.code x code maxLocals ret :: tables_1)).before args0 about1 = true := by
  rw [allAtoms_all]
  show words1.all (fun c => c.before args0 about1) = true
  refine all_split ?_ w_codes
  rw [← List.take_append_drop 24 words1, List.all_append, w_t1, ← List.take_append_drop 24 (words1.drop 24), List.all_append, w_t2, ← List.take_append_drop 24 ((words1.drop 24).drop 24), List.all_append, w_t3, ← List.take_append_drop 24 (((words1.drop 24).drop 24).drop 24), List.all_append, w_t4, ← List.take_append_drop 24 ((((words1.drop 24).drop 24).drop 24).drop 24), List.all_append, w_t5, ← List.take_append_drop 24 (((((words1.drop 24).drop 24).drop 24).drop 24).drop 24), List.all_append, w_t6, ← List.take_append_drop 24 ((((((words1.drop 24).drop 24).drop 24).drop 24).drop 24).drop 24), List.all_append, w_t7, ← List.take_append_drop 24 (((((((words1.drop 24).drop 24).drop 24).drop 24).drop 24).drop 24).drop 24), List.all_append, w_t8, ← List.take_append_drop 24 ((((((((words1.drop 24).drop 24).drop 24).drop 24).drop 24).drop 24).drop 24).drop 24), List.all_append, w_t9, ← List.take_append_drop 24 (((((((((words1.drop 24).drop 24).drop 24).drop 24).drop 24).drop 24).drop 24).drop 24).drop 24), List.all_append, w_t10, ← List.take_append_drop 24 ((((((((((words1.drop 24).drop 24).drop 24).drop 24).drop 24).drop 24).drop 24).drop 24).drop 24).drop 24), List.all_append, w_t11, ← List.take_append_drop 24 (((((((((((words1.drop 24).drop 24).drop 24).drop 24).drop 24).drop 24).drop 24).drop 24).drop 24).drop 24).drop 24), List.all_append, w_t12, ← List.take_append_drop 24 ((((((((((((words1.drop 24).drop 24).drop 24).drop 24).drop 24).drop 24).drop 24).drop 24).drop 24).drop 24).drop 24).drop 24), List.all_append, w_t13, w_t14]
  rfl
set_option maxRecDepth 65536 in
theorem w_rest : rest_1_c.before args0 about1 = true := by decide +kernel
set_option maxRecDepth 65536 in
theorem w_case : (Jvm.Cond.and given_1 narrow_1).before args0 about1 = true := by decide +kernel
set_option maxRecDepth 65536 in
theorem w_consts : constsHeld consts_1 about1 := Jvm.Lit.constsHeldB_iff.mp (by decide +kernel)
theorem w_applies : (headSpec (Jvm.Cond.code x code maxLocals ret :: tables_1) room_1).applies x e0.platform about1 = true :=
  (Spec.applies_iff w_frames).mpr ⟨w_running, w_runnable, w_alone, w_named, w_hears, w_ripe, w_room, w_tables⟩
theorem atStart : AtStart classFile x code maxLocals ret World_1 tables_1 room_1 Calls_1 rest_1 Pre_1 launch0 p0 e0 about1 theMethod args0 below0 :=
  ⟨lists_1, trivial, launch0.admits_env _ _ _, launch0.least_env, fairChoices_fair.cas, fairChoices_fair.clock, w_frames, w_args, w_heap, w_applies, ⟨(by decide +kernel : framesKnown about1 = true), ⟨(by decide +kernel : tablesKnown about1 = true), ⟨w_consts, trivial⟩⟩⟩, w_rest, w_case⟩
end start1
theorem witness_1 : WitnessClaimed_1 := ⟨start1.p0, start1.e0, start1.about1, start1.theMethod, start1.args0, start1.below0, start1.atStart⟩
end Jvm.Pilot.@@N@@
