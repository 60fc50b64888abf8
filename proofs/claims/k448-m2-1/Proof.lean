import JvmDerived
import JvmDerived.Pilot.@@N@@Statement
import JvmDerived.Pilot.@@N@@Code
set_option linter.unusedVariables false
set_option linter.unusedSimpArgs false
namespace Jvm.Pilot.@@N@@
open Jvm Jvm.ClassFile Sem Op Lib Jvm.Free Jvm.Stand Jvm.LawKit Jvm.RoadKit Bundle Jvm.Pilot.@@N@@.Jvm.D
theorem pd_0 : parseMethodDescriptor "(S)Z" = some ⟨[.short], some .boolean⟩ := by decide +kernel
theorem own_ext_refl (h : Heap) : Ext h h := ⟨Nat.le_refl _, fun _ _ q => q⟩
theorem own_ext_trans {h h' h'' : Heap} (E : Ext h h') (F : Ext h' h'') : Ext h h'' := ⟨Nat.le_trans E.1 F.1, fun a c q => F.2 a c (E.2 a c q)⟩
theorem own_ext_keep {h h' h'' : Heap} {ws : List Addr} (E : Ext h h') (K : Keep h' h'' ws) (q : ∀ x ∈ ws, h.size ≤ x) : Ext h h'' := ⟨Nat.le_trans E.1 K.1, fun a c r => K.2.1 a c (E.2 a c r) fun z => absurd (Array.getElem?_eq_some_iff.mp r).1 (Nat.not_lt.mpr (q a z))⟩
theorem own_ext_wr {h h' h'' : Heap} {a : Addr} {sl : Nat} {v : Value} (E : Ext h h') (W : Wr h' h'' a sl v) (q : h.size ≤ a) : Ext h h'' := own_ext_keep E (Keep.of_wr W) (allS q all0)
theorem own_fldpin {t : Term} {C n d : String} {k : Int32} {a : Addr} {args : Array Value} {s : State} (ev : t.eval args s none [] s = some (.ref a)) (h : (Cond.eq (.field t C n d) (.int k)).value args s none s [] = some true) : Fld s s.heap a C n d (.int k) := by
  refine Fld.start ?_
  have e1 : (Term.field t C n d).eval args s none [] s = s.fieldOf? a C n d := fld_at ev
  cases hf : s.fieldOf? a C n d with
  | none => rw [hf] at e1; simp [Cond.value, e1] at h
  | some v =>
    rw [hf] at e1
    have e2 : (Term.int k).eval args s none [] s = some (.int k) := rfl
    cases v <;> simp [Cond.value, e1, e2] at h ⊢
    exact h
theorem d1_0 : decode prog_37_method_8_code 0 = .ok (.iload_n 1, 1) := by decide +kernel
theorem d1_1 : decode prog_37_method_8_code 1 = .ok (.aload_n 0, 1) := by decide +kernel
theorem d1_2 : decode prog_37_method_8_code 2 = .ok (.getfield 72, 3) := by decide +kernel
theorem d1_5 : decode prog_37_method_8_code 5 = .ok (.if_icmp .lt 15, 3) := by decide +kernel
theorem d1_8 : decode prog_37_method_8_code 8 = .ok (.iload_n 1, 1) := by decide +kernel
theorem d1_9 : decode prog_37_method_8_code 9 = .ok (.aload_n 0, 1) := by decide +kernel
theorem d1_10 : decode prog_37_method_8_code 10 = .ok (.getfield 75, 3) := by decide +kernel
theorem d1_13 : decode prog_37_method_8_code 13 = .ok (.if_icmp .gt 7, 3) := by decide +kernel
theorem d1_16 : decode prog_37_method_8_code 16 = .ok (.iconst 1, 1) := by decide +kernel
theorem d1_17 : decode prog_37_method_8_code 17 = .ok (.goto 4, 3) := by decide +kernel
theorem d1_20 : decode prog_37_method_8_code 20 = .ok (.iconst 0, 1) := by decide +kernel
theorem d1_21 : decode prog_37_method_8_code 21 = .ok (.ireturn, 1) := by decide +kernel
def own_sup (v a b : Int32) : Int32 := if v < a then 0 else if b < v then 0 else 1
def Qs (Z : State) (r1 : Addr) (p1 : Int32) (res : Int32) (h0 : Heap) (n0 : Nat) (v : Option Value) (h : Heap) (L : List Loc) : Prop := v = some (.int res) ∧ Fr n0 L ∧ h = h0
theorem pn_1 : plainName "com/example/hursley/hursley/wire/ApiKey" = true := by first | (simp [plainName, overriddenIn]; done) | decide +kernel
theorem ef_rm_sup (m : MethodId) (x0 : Addr) (x1 : Int32) : entryFrame m #[(.ref x0), (.int x1)] 2 = mkF m 0 #[.val (.ref x0), .val (.int x1)] [] := by first | (simp [entryFrame, mkF, argsToLocals, Value.category]; done) | rfl
set_option maxRecDepth 65536 in
set_option maxHeartbeats 40000000 in
theorem rm_sup (l : Launch) (Z : State) (a0 : Array Value) (hw : ∀ d ∈ tables_1, d.before a0 Z = true) (ws : List Jvm.Cond) (r1 : Addr) (p1 : Int32) (h0 : Heap) (n0 : Nat) (Z0 : n0 ≤ h0.size) (u w : Int32) (F1 : Fld Z h0 r1 "com/example/hursley/hursley/wire/ApiKey" "minVersion" "S" (.int u)) (F2 : Fld Z h0 r1 "com/example/hursley/hursley/wire/ApiKey" "maxVersion" "S" (.int w)) (res : Int32) (hres : own_sup p1 u w = res) :
    MetFree l (⟨"com/example/hursley/hursley/wire/ApiKey", "supports", "(S)Z"⟩ : MethodName) (head1 (Jvm.Cond.code (⟨"com/example/hursley/hursley/wire/ApiKey", "supports", "(S)Z"⟩ : MethodName) prog_37_method_8_code 2 (some .boolean) :: ws) ({ frames := 0, cells := 0, slots := 0, locals := 0 } : Room)) (fun a U => a = #[(.ref r1), (.int p1)] ∧ Z.Warmed39 U.vm ∧ U.heap = h0) (fun _ _ _ _ _ => True) (fun _ U o U' => ∃ v L, o = .returned v ∧ Qs Z r1 p1 res h0 n0 v U'.heap L ∧ FrameEnd U o U' L ({ frames := 0, cells := 0, slots := 0, locals := 0 } : Room).cells ({ frames := 0, cells := 0, slots := 0, locals := 0 } : Room).slots) := by
  refine MetFree.of_bodySF (plainFor_of_name pn_1) hisR ?_
  intro p e s m args below meth c s₁ Bd hml0 hP hK
  obtain ⟨rfl, hZ, hh⟩ := hP
  have hx := Bd.exec
  have hby := Bd.bytes
  have hml : c.maxLocals = 2 := hml0
  have hown : s.vm.findClass "com/example/hursley/hursley/wire/ApiKey" = some m.cls := findClass_of_methodNamed Bd.named
  have hnm := (name_of_methodNamed Bd.named Bd.method).1
  have X0 : Stand p l e ({ frames := 0, cells := 0, slots := 0, locals := 0 } : Room) s m #[(.ref r1), (.int p1)] below meth c s₁ [] 0 0 := Stand.of_body Bd
  have e0 : s₁.heap = h0 := by rw [← hh, Bd.state]; rfl
  have N0 := Fr.nil n0
  have pre0 : ∀ t, Steps p.tables e below (s₁.setTop (mkF m 0 #[.val (.ref r1), .val (.int p1)] [])) t → Steps p.tables e below (s₁.setTop (entryFrame m #[(.ref r1), (.int p1)] 2)) t := fun t k => castTop (ef_rm_sup m r1 p1) k
  obtain ⟨T1, X1, e1, st1⟩ := getF X0 hx hZ hown (host := "") (Or.inl (hw _ (List.mem_of_getElem? (i := 41) rfl))) Via.refl e0 F1 (g := (mkF m 2 #[.val (.ref r1), .val (.int p1)] [(.ref r1), (.int p1)])) rfl rfl (hb hby d1_2)
  have pre2 : ∀ t, Steps p.tables e below (T1.setTop (mkF m 5 #[.val (.ref r1), .val (.int p1)] [(.int u), (.int p1)])) t → Steps p.tables e below (s₁.setTop (entryFrame m #[(.ref r1), (.int p1)] 2)) t := fun t k => pre0 t (by
    show Steps p.tables e below (s₁.setTop (mkF m 0 #[.val (.ref r1), .val (.int p1)] [])) _
    refine XS.iloadN X0.here hx rfl (hb hby d1_0) rfl ?_
    show Steps p.tables e below (s₁.setTop (mkF m 1 #[.val (.ref r1), .val (.int p1)] [(.int p1)])) _
    refine XS.aloadN X0.here hx rfl (hb hby d1_1) rfl rfl ?_
    show Steps p.tables e below (s₁.setTop (mkF m 2 #[.val (.ref r1), .val (.int p1)] [(.ref r1), (.int p1)])) _
    refine st1 _ ?_
    exact k)
  by_cases hc5_3 : p1 < u
  · have _ := 0
    have pre4 : ∀ t, Steps p.tables e below (T1.setTop (mkF m 21 #[.val (.ref r1), .val (.int p1)] [(.int (0 : Int32))])) t → Steps p.tables e below (s₁.setTop (entryFrame m #[(.ref r1), (.int p1)] 2)) t := fun t k => pre2 t (by
      show Steps p.tables e below (T1.setTop (mkF m 5 #[.val (.ref r1), .val (.int p1)] [(.int u), (.int p1)])) _
      refine XS.icmpYes X1.here hx rfl (pc0 := 5) (pc' := 20) rfl (hb hby d1_5) rfl (tlt hc5_3).1 (by decide) (by decide) ?_
      show Steps p.tables e below (T1.setTop (mkF m 20 #[.val (.ref r1), .val (.int p1)] [])) _
      refine XT.iconstV X1.here hx rfl (0 : Int32) (hb hby d1_20) (by decide) ?_
      exact k)
    obtain ⟨fs, hr, hrun, hended, hW, hsame⟩ := X1.leave (v := some (.int (0 : Int32))) (fun h => by rw [Bd.returns] at h; cases h)
    refine ⟨_, _, pre4 _ ?_, hrun, hended, _, _, rfl, ?_, ⟨_, rfl⟩, hW, hsame.mono (by decide) (by decide)⟩
    · show Steps p.tables e below (T1.setTop (mkF m 21 #[.val (.ref r1), .val (.int p1)] [(.int (0 : Int32))])) _
      exact retOut X1 hx Bd.returns rfl (Or.inl ⟨rfl, by simp, _, rfl⟩) (hb hby d1_21) hr
    · show Qs Z r1 p1 res h0 n0 _ T1.heap _
      rw [e1]
      exact ⟨by rw [← hres]; simp only [own_sup, if_pos hc5_3], N0, rfl⟩
  · have _ := 0
    obtain ⟨T5, X5, e5, st5⟩ := getF X1 hx hZ hown (host := "") (Or.inl (hw _ (List.mem_of_getElem? (i := 43) rfl))) Via.refl e1 F2 (g := (mkF m 10 #[.val (.ref r1), .val (.int p1)] [(.ref r1), (.int p1)])) rfl rfl (hb hby d1_10)
    have pre6 : ∀ t, Steps p.tables e below (T5.setTop (mkF m 13 #[.val (.ref r1), .val (.int p1)] [(.int w), (.int p1)])) t → Steps p.tables e below (s₁.setTop (entryFrame m #[(.ref r1), (.int p1)] 2)) t := fun t k => pre2 t (by
      show Steps p.tables e below (T1.setTop (mkF m 5 #[.val (.ref r1), .val (.int p1)] [(.int u), (.int p1)])) _
      refine XS.icmpNo X1.here hx rfl (hb hby d1_5) rfl (flt hc5_3).1 ?_
      show Steps p.tables e below (T1.setTop (mkF m 8 #[.val (.ref r1), .val (.int p1)] [])) _
      refine XS.iloadN X1.here hx rfl (hb hby d1_8) rfl ?_
      show Steps p.tables e below (T1.setTop (mkF m 9 #[.val (.ref r1), .val (.int p1)] [(.int p1)])) _
      refine XS.aloadN X1.here hx rfl (hb hby d1_9) rfl rfl ?_
      show Steps p.tables e below (T1.setTop (mkF m 10 #[.val (.ref r1), .val (.int p1)] [(.ref r1), (.int p1)])) _
      refine st5 _ ?_
      exact k)
    by_cases hc13_7 : w < p1
    · have _ := 0
      have pre8 : ∀ t, Steps p.tables e below (T5.setTop (mkF m 21 #[.val (.ref r1), .val (.int p1)] [(.int (0 : Int32))])) t → Steps p.tables e below (s₁.setTop (entryFrame m #[(.ref r1), (.int p1)] 2)) t := fun t k => pre6 t (by
        show Steps p.tables e below (T5.setTop (mkF m 13 #[.val (.ref r1), .val (.int p1)] [(.int w), (.int p1)])) _
        refine XS.icmpYes X5.here hx rfl (pc0 := 13) (pc' := 20) rfl (hb hby d1_13) rfl (tlt hc13_7).2.2.1 (by decide) (by decide) ?_
        show Steps p.tables e below (T5.setTop (mkF m 20 #[.val (.ref r1), .val (.int p1)] [])) _
        refine XT.iconstV X5.here hx rfl (0 : Int32) (hb hby d1_20) (by decide) ?_
        exact k)
      obtain ⟨fs, hr, hrun, hended, hW, hsame⟩ := X5.leave (v := some (.int (0 : Int32))) (fun h => by rw [Bd.returns] at h; cases h)
      refine ⟨_, _, pre8 _ ?_, hrun, hended, _, _, rfl, ?_, ⟨_, rfl⟩, hW, hsame.mono (by decide) (by decide)⟩
      · show Steps p.tables e below (T5.setTop (mkF m 21 #[.val (.ref r1), .val (.int p1)] [(.int (0 : Int32))])) _
        exact retOut X5 hx Bd.returns rfl (Or.inl ⟨rfl, by simp, _, rfl⟩) (hb hby d1_21) hr
      · show Qs Z r1 p1 res h0 n0 _ T5.heap _
        rw [e5]
        exact ⟨by rw [← hres]; simp only [own_sup, if_neg hc5_3, if_pos hc13_7], N0, rfl⟩
    · have _ := 0
      have pre9 : ∀ t, Steps p.tables e below (T5.setTop (mkF m 21 #[.val (.ref r1), .val (.int p1)] [(.int (1 : Int32))])) t → Steps p.tables e below (s₁.setTop (entryFrame m #[(.ref r1), (.int p1)] 2)) t := fun t k => pre6 t (by
        show Steps p.tables e below (T5.setTop (mkF m 13 #[.val (.ref r1), .val (.int p1)] [(.int w), (.int p1)])) _
        refine XS.icmpNo X5.here hx rfl (hb hby d1_13) rfl (flt hc13_7).2.2.1 ?_
        show Steps p.tables e below (T5.setTop (mkF m 16 #[.val (.ref r1), .val (.int p1)] [])) _
        refine XT.iconstV X5.here hx rfl (1 : Int32) (hb hby d1_16) (by decide) ?_
        show Steps p.tables e below (T5.setTop (mkF m 17 #[.val (.ref r1), .val (.int p1)] [(.int (1 : Int32))])) _
        refine XS.goto X5.here hx rfl (pc0 := 17) (pc' := 21) rfl (hb hby d1_17) (by decide) (by decide) ?_
        exact k)
      obtain ⟨fs, hr, hrun, hended, hW, hsame⟩ := X5.leave (v := some (.int (1 : Int32))) (fun h => by rw [Bd.returns] at h; cases h)
      refine ⟨_, _, pre9 _ ?_, hrun, hended, _, _, rfl, ?_, ⟨_, rfl⟩, hW, hsame.mono (by decide) (by decide)⟩
      · show Steps p.tables e below (T5.setTop (mkF m 21 #[.val (.ref r1), .val (.int p1)] [(.int (1 : Int32))])) _
        exact retOut X5 hx Bd.returns rfl (Or.inl ⟨rfl, by simp, _, rfl⟩) (hb hby d1_21) hr
      · show Qs Z r1 p1 res h0 n0 _ T5.heap _
        rw [e5]
        exact ⟨by rw [← hres]; simp only [own_sup, if_neg hc5_3, if_neg hc13_7], N0, rfl⟩
def own_mn (k : Int32) : Int32 := if k = (0 : Int32) then (3 : Int32) else if k = (1 : Int32) then (4 : Int32) else if k = (2 : Int32) then (1 : Int32) else if k = (3 : Int32) then (0 : Int32) else if k = (4 : Int32) then (0 : Int32) else if k = (5 : Int32) then (0 : Int32) else if k = (6 : Int32) then (2 : Int32) else if k = (7 : Int32) then (0 : Int32) else if k = (8 : Int32) then (1 : Int32) else if k = (9 : Int32) then (0 : Int32) else if k = (10 : Int32) then (1 : Int32) else if k = (11 : Int32) then (1 : Int32) else if k = (12 : Int32) then (1 : Int32) else if k = (13 : Int32) then (1 : Int32) else if k = (14 : Int32) then (0 : Int32) else (0 : Int32)
def own_mx (k : Int32) : Int32 := if k = (0 : Int32) then (7 : Int32) else if k = (1 : Int32) then (11 : Int32) else if k = (2 : Int32) then (2 : Int32) else if k = (3 : Int32) then (13 : Int32) else if k = (4 : Int32) then (6 : Int32) else if k = (5 : Int32) then (3 : Int32) else if k = (6 : Int32) then (7 : Int32) else if k = (7 : Int32) then (5 : Int32) else if k = (8 : Int32) then (4 : Int32) else if k = (9 : Int32) then (1 : Int32) else if k = (10 : Int32) then (1 : Int32) else if k = (11 : Int32) then (1 : Int32) else if k = (12 : Int32) then (2 : Int32) else if k = (13 : Int32) then (2 : Int32) else if k = (14 : Int32) then (1 : Int32) else (0 : Int32)
def own_in (k : Int32) : Prop := k = (0 : Int32) ∨ k = (1 : Int32) ∨ k = (2 : Int32) ∨ k = (3 : Int32) ∨ k = (4 : Int32) ∨ k = (5 : Int32) ∨ k = (6 : Int32) ∨ k = (7 : Int32) ∨ k = (8 : Int32) ∨ k = (9 : Int32) ∨ k = (10 : Int32) ∨ k = (11 : Int32) ∨ k = (12 : Int32) ∨ k = (13 : Int32) ∨ k = (14 : Int32)
theorem own_inb {k : Int32} (h : own_in k) : ¬ k < (0 : Int32) ∧ k < (15 : Int32) := by
  rcases h with rfl | rfl | rfl | rfl | rfl | rfl | rfl | rfl | rfl | rfl | rfl | rfl | rfl | rfl | rfl <;> decide
theorem own_mnat {k : Int32} (h : own_in k) : ([(.int (3 : Int32)), (.int (4 : Int32)), (.int (1 : Int32)), (.int (0 : Int32)), (.int (0 : Int32)), (.int (0 : Int32)), (.int (2 : Int32)), (.int (0 : Int32)), (.int (1 : Int32)), (.int (0 : Int32)), (.int (1 : Int32)), (.int (1 : Int32)), (.int (1 : Int32)), (.int (1 : Int32)), (.int (0 : Int32))] : List Value).getD k.toNatClampNeg (.int (0 : Int32)) = .int (own_mn k) := by
  rcases h with rfl | rfl | rfl | rfl | rfl | rfl | rfl | rfl | rfl | rfl | rfl | rfl | rfl | rfl | rfl <;> rfl
theorem own_mxat {k : Int32} (h : own_in k) : ([(.int (7 : Int32)), (.int (11 : Int32)), (.int (2 : Int32)), (.int (13 : Int32)), (.int (6 : Int32)), (.int (3 : Int32)), (.int (7 : Int32)), (.int (5 : Int32)), (.int (4 : Int32)), (.int (1 : Int32)), (.int (1 : Int32)), (.int (1 : Int32)), (.int (2 : Int32)), (.int (2 : Int32)), (.int (1 : Int32))] : List Value).getD k.toNatClampNeg (.int (0 : Int32)) = .int (own_mx k) := by
  rcases h with rfl | rfl | rfl | rfl | rfl | rfl | rfl | rfl | rfl | rfl | rfl | rfl | rfl | rfl | rfl <;> rfl
theorem own_cases (k : Int32) : ((k &&& (2147483647 : Int32)) % (15 : Int32)) = (0 : Int32) ∨ ((k &&& (2147483647 : Int32)) % (15 : Int32)) = (1 : Int32) ∨ ((k &&& (2147483647 : Int32)) % (15 : Int32)) = (2 : Int32) ∨ ((k &&& (2147483647 : Int32)) % (15 : Int32)) = (3 : Int32) ∨ ((k &&& (2147483647 : Int32)) % (15 : Int32)) = (4 : Int32) ∨ ((k &&& (2147483647 : Int32)) % (15 : Int32)) = (5 : Int32) ∨ ((k &&& (2147483647 : Int32)) % (15 : Int32)) = (6 : Int32) ∨ ((k &&& (2147483647 : Int32)) % (15 : Int32)) = (7 : Int32) ∨ ((k &&& (2147483647 : Int32)) % (15 : Int32)) = (8 : Int32) ∨ ((k &&& (2147483647 : Int32)) % (15 : Int32)) = (9 : Int32) ∨ ((k &&& (2147483647 : Int32)) % (15 : Int32)) = (10 : Int32) ∨ ((k &&& (2147483647 : Int32)) % (15 : Int32)) = (11 : Int32) ∨ ((k &&& (2147483647 : Int32)) % (15 : Int32)) = (12 : Int32) ∨ ((k &&& (2147483647 : Int32)) % (15 : Int32)) = (13 : Int32) ∨ ((k &&& (2147483647 : Int32)) % (15 : Int32)) = (14 : Int32) := by
  have e1 := c_mask k (2147483647 : Int32) 31 (by decide) (by decide)
  have e2 := (c_irem (k &&& (2147483647 : Int32)) (15 : Int32) 15 (by decide)).1 (by omega)
  generalize (k &&& (2147483647 : Int32)) % (15 : Int32) = z at *
  have h : z.toInt = 0 ∨ z.toInt = 1 ∨ z.toInt = 2 ∨ z.toInt = 3 ∨ z.toInt = 4 ∨ z.toInt = 5 ∨ z.toInt = 6 ∨ z.toInt = 7 ∨ z.toInt = 8 ∨ z.toInt = 9 ∨ z.toInt = 10 ∨ z.toInt = 11 ∨ z.toInt = 12 ∨ z.toInt = 13 ∨ z.toInt = 14 := by omega
  rcases h with h | h | h | h | h | h | h | h | h | h | h | h | h | h | h
  · exact Or.inl (Int32.toInt_inj.mp (h.trans (by decide : (0 : Int) = (0 : Int32).toInt)))
  · exact Or.inr (Or.inl (Int32.toInt_inj.mp (h.trans (by decide : (1 : Int) = (1 : Int32).toInt))))
  · exact Or.inr (Or.inr (Or.inl (Int32.toInt_inj.mp (h.trans (by decide : (2 : Int) = (2 : Int32).toInt)))))
  · exact Or.inr (Or.inr (Or.inr (Or.inl (Int32.toInt_inj.mp (h.trans (by decide : (3 : Int) = (3 : Int32).toInt))))))
  · exact Or.inr (Or.inr (Or.inr (Or.inr (Or.inl (Int32.toInt_inj.mp (h.trans (by decide : (4 : Int) = (4 : Int32).toInt)))))))
  · exact Or.inr (Or.inr (Or.inr (Or.inr (Or.inr (Or.inl (Int32.toInt_inj.mp (h.trans (by decide : (5 : Int) = (5 : Int32).toInt))))))))
  · exact Or.inr (Or.inr (Or.inr (Or.inr (Or.inr (Or.inr (Or.inl (Int32.toInt_inj.mp (h.trans (by decide : (6 : Int) = (6 : Int32).toInt)))))))))
  · exact Or.inr (Or.inr (Or.inr (Or.inr (Or.inr (Or.inr (Or.inr (Or.inl (Int32.toInt_inj.mp (h.trans (by decide : (7 : Int) = (7 : Int32).toInt))))))))))
  · exact Or.inr (Or.inr (Or.inr (Or.inr (Or.inr (Or.inr (Or.inr (Or.inr (Or.inl (Int32.toInt_inj.mp (h.trans (by decide : (8 : Int) = (8 : Int32).toInt)))))))))))
  · exact Or.inr (Or.inr (Or.inr (Or.inr (Or.inr (Or.inr (Or.inr (Or.inr (Or.inr (Or.inl (Int32.toInt_inj.mp (h.trans (by decide : (9 : Int) = (9 : Int32).toInt))))))))))))
  · exact Or.inr (Or.inr (Or.inr (Or.inr (Or.inr (Or.inr (Or.inr (Or.inr (Or.inr (Or.inr (Or.inl (Int32.toInt_inj.mp (h.trans (by decide : (10 : Int) = (10 : Int32).toInt)))))))))))))
  · exact Or.inr (Or.inr (Or.inr (Or.inr (Or.inr (Or.inr (Or.inr (Or.inr (Or.inr (Or.inr (Or.inr (Or.inl (Int32.toInt_inj.mp (h.trans (by decide : (11 : Int) = (11 : Int32).toInt))))))))))))))
  · exact Or.inr (Or.inr (Or.inr (Or.inr (Or.inr (Or.inr (Or.inr (Or.inr (Or.inr (Or.inr (Or.inr (Or.inr (Or.inl (Int32.toInt_inj.mp (h.trans (by decide : (12 : Int) = (12 : Int32).toInt)))))))))))))))
  · exact Or.inr (Or.inr (Or.inr (Or.inr (Or.inr (Or.inr (Or.inr (Or.inr (Or.inr (Or.inr (Or.inr (Or.inr (Or.inr (Or.inl (Int32.toInt_inj.mp (h.trans (by decide : (13 : Int) = (13 : Int32).toInt))))))))))))))))
  · exact Or.inr (Or.inr (Or.inr (Or.inr (Or.inr (Or.inr (Or.inr (Or.inr (Or.inr (Or.inr (Or.inr (Or.inr (Or.inr (Or.inr ((Int32.toInt_inj.mp (h.trans (by decide : (14 : Int) = (14 : Int32).toInt)))))))))))))))))
theorem own_ex (p : Int32) : ∃ z, z = ((p &&& (2147483647 : Int32)) % (15 : Int32)) ∧ own_in z := ⟨_, rfl, own_cases p⟩
def Q0 (Z : State) (p1 p2 p3 : Int32) (h0 : Heap) (n0 : Nat) (v : Option Value) (h : Heap) (L : List Loc) : Prop := v = some (.int 1) ∧ Fr n0 L
theorem pn_0 : plainName "com/example/hursley/hursley/wire/ApiKeySupportsPinLaw" = true := by first | (simp [plainName, overriddenIn]; done) | decide +kernel
theorem ef_rm0 (m : MethodId) (x0 : Int32) (x1 : Int32) (x2 : Int32) : entryFrame m #[(.int x0), (.int x1), (.int x2)] maxLocals = mkF m 0 #[.val (.int x0), .val (.int x1), .val (.int x2), .unset, .unset, .unset, .unset, .unset, .unset] [] := by first | (simp [entryFrame, mkF, argsToLocals, Value.category, maxLocals]; done) | rfl
set_option maxRecDepth 65536 in
set_option maxHeartbeats 40000000 in
theorem rm0 (l : Launch) (Z : State) (a0 : Array Value) (hw : ∀ d ∈ tables_1, d.before a0 Z = true) (ws : List Jvm.Cond) (p1 : Int32) (p2 : Int32) (p3 : Int32) (h0 : Heap) (n0 : Nat) (Z0 : n0 ≤ h0.size) (a_PRODUCE : Addr) (S_PRODUCE : Sta Z h0 "com/example/hursley/hursley/wire/ApiKey" "PRODUCE" "Lcom/example/hursley/hursley/wire/ApiKey;" (.ref a_PRODUCE)) (a_FETCH : Addr) (S_FETCH : Sta Z h0 "com/example/hursley/hursley/wire/ApiKey" "FETCH" "Lcom/example/hursley/hursley/wire/ApiKey;" (.ref a_FETCH)) (a_LIST_OFFSETS : Addr) (S_LIST_OFFSETS : Sta Z h0 "com/example/hursley/hursley/wire/ApiKey" "LIST_OFFSETS" "Lcom/example/hursley/hursley/wire/ApiKey;" (.ref a_LIST_OFFSETS)) (a_METADATA : Addr) (S_METADATA : Sta Z h0 "com/example/hursley/hursley/wire/ApiKey" "METADATA" "Lcom/example/hursley/hursley/wire/ApiKey;" (.ref a_METADATA)) (a_FIND_COORDINATOR : Addr) (S_FIND_COORDINATOR : Sta Z h0 "com/example/hursley/hursley/wire/ApiKey" "FIND_COORDINATOR" "Lcom/example/hursley/hursley/wire/ApiKey;" (.ref a_FIND_COORDINATOR)) (a_API_VERSIONS : Addr) (S_API_VERSIONS : Sta Z h0 "com/example/hursley/hursley/wire/ApiKey" "API_VERSIONS" "Lcom/example/hursley/hursley/wire/ApiKey;" (.ref a_API_VERSIONS)) (a_CREATE_TOPICS : Addr) (S_CREATE_TOPICS : Sta Z h0 "com/example/hursley/hursley/wire/ApiKey" "CREATE_TOPICS" "Lcom/example/hursley/hursley/wire/ApiKey;" (.ref a_CREATE_TOPICS)) (a_INIT_PRODUCER_ID : Addr) (S_INIT_PRODUCER_ID : Sta Z h0 "com/example/hursley/hursley/wire/ApiKey" "INIT_PRODUCER_ID" "Lcom/example/hursley/hursley/wire/ApiKey;" (.ref a_INIT_PRODUCER_ID)) (a_DESCRIBE_CONFIGS : Addr) (S_DESCRIBE_CONFIGS : Sta Z h0 "com/example/hursley/hursley/wire/ApiKey" "DESCRIBE_CONFIGS" "Lcom/example/hursley/hursley/wire/ApiKey;" (.ref a_DESCRIBE_CONFIGS)) (a_INCREMENTAL_ALTER_CONFIGS : Addr) (S_INCREMENTAL_ALTER_CONFIGS : Sta Z h0 "com/example/hursley/hursley/wire/ApiKey" "INCREMENTAL_ALTER_CONFIGS" "Lcom/example/hursley/hursley/wire/ApiKey;" (.ref a_INCREMENTAL_ALTER_CONFIGS)) (a_SHARE_GROUP_HEARTBEAT : Addr) (S_SHARE_GROUP_HEARTBEAT : Sta Z h0 "com/example/hursley/hursley/wire/ApiKey" "SHARE_GROUP_HEARTBEAT" "Lcom/example/hursley/hursley/wire/ApiKey;" (.ref a_SHARE_GROUP_HEARTBEAT)) (a_SHARE_GROUP_DESCRIBE : Addr) (S_SHARE_GROUP_DESCRIBE : Sta Z h0 "com/example/hursley/hursley/wire/ApiKey" "SHARE_GROUP_DESCRIBE" "Lcom/example/hursley/hursley/wire/ApiKey;" (.ref a_SHARE_GROUP_DESCRIBE)) (a_SHARE_FETCH : Addr) (S_SHARE_FETCH : Sta Z h0 "com/example/hursley/hursley/wire/ApiKey" "SHARE_FETCH" "Lcom/example/hursley/hursley/wire/ApiKey;" (.ref a_SHARE_FETCH)) (a_SHARE_ACKNOWLEDGE : Addr) (S_SHARE_ACKNOWLEDGE : Sta Z h0 "com/example/hursley/hursley/wire/ApiKey" "SHARE_ACKNOWLEDGE" "Lcom/example/hursley/hursley/wire/ApiKey;" (.ref a_SHARE_ACKNOWLEDGE)) (a_DESCRIBE_SHARE_GROUP_OFFSETS : Addr) (S_DESCRIBE_SHARE_GROUP_OFFSETS : Sta Z h0 "com/example/hursley/hursley/wire/ApiKey" "DESCRIBE_SHARE_GROUP_OFFSETS" "Lcom/example/hursley/hursley/wire/ApiKey;" (.ref a_DESCRIBE_SHARE_GROUP_OFFSETS)) (E_PRODUCE : Exa Z h0 a_PRODUCE "com/example/hursley/hursley/wire/ApiKey") (E_FETCH : Exa Z h0 a_FETCH "com/example/hursley/hursley/wire/ApiKey") (E_LIST_OFFSETS : Exa Z h0 a_LIST_OFFSETS "com/example/hursley/hursley/wire/ApiKey") (E_METADATA : Exa Z h0 a_METADATA "com/example/hursley/hursley/wire/ApiKey") (E_FIND_COORDINATOR : Exa Z h0 a_FIND_COORDINATOR "com/example/hursley/hursley/wire/ApiKey") (E_API_VERSIONS : Exa Z h0 a_API_VERSIONS "com/example/hursley/hursley/wire/ApiKey") (E_CREATE_TOPICS : Exa Z h0 a_CREATE_TOPICS "com/example/hursley/hursley/wire/ApiKey") (E_INIT_PRODUCER_ID : Exa Z h0 a_INIT_PRODUCER_ID "com/example/hursley/hursley/wire/ApiKey") (E_DESCRIBE_CONFIGS : Exa Z h0 a_DESCRIBE_CONFIGS "com/example/hursley/hursley/wire/ApiKey") (E_INCREMENTAL_ALTER_CONFIGS : Exa Z h0 a_INCREMENTAL_ALTER_CONFIGS "com/example/hursley/hursley/wire/ApiKey") (E_SHARE_GROUP_HEARTBEAT : Exa Z h0 a_SHARE_GROUP_HEARTBEAT "com/example/hursley/hursley/wire/ApiKey") (E_SHARE_GROUP_DESCRIBE : Exa Z h0 a_SHARE_GROUP_DESCRIBE "com/example/hursley/hursley/wire/ApiKey") (E_SHARE_FETCH : Exa Z h0 a_SHARE_FETCH "com/example/hursley/hursley/wire/ApiKey") (E_SHARE_ACKNOWLEDGE : Exa Z h0 a_SHARE_ACKNOWLEDGE "com/example/hursley/hursley/wire/ApiKey") (E_DESCRIBE_SHARE_GROUP_OFFSETS : Exa Z h0 a_DESCRIBE_SHARE_GROUP_OFFSETS "com/example/hursley/hursley/wire/ApiKey") (P : ∀ k : Int32, own_in k → ∃ a, ([(.ref a_PRODUCE), (.ref a_FETCH), (.ref a_LIST_OFFSETS), (.ref a_METADATA), (.ref a_FIND_COORDINATOR), (.ref a_API_VERSIONS), (.ref a_CREATE_TOPICS), (.ref a_INIT_PRODUCER_ID), (.ref a_DESCRIBE_CONFIGS), (.ref a_INCREMENTAL_ALTER_CONFIGS), (.ref a_SHARE_GROUP_HEARTBEAT), (.ref a_SHARE_GROUP_DESCRIBE), (.ref a_SHARE_FETCH), (.ref a_SHARE_ACKNOWLEDGE), (.ref a_DESCRIBE_SHARE_GROUP_OFFSETS)] : List Value).getD k.toNatClampNeg .null = .ref a ∧ Exa Z h0 a "com/example/hursley/hursley/wire/ApiKey" ∧ Fld Z h0 a "com/example/hursley/hursley/wire/ApiKey" "minVersion" "S" (.int (own_mn k)) ∧ Fld Z h0 a "com/example/hursley/hursley/wire/ApiKey" "maxVersion" "S" (.int (own_mx k))) :
    MetFree l x (head1 (Jvm.Cond.code x code maxLocals ret :: ws) room_1) (fun a U => a = #[(.int p1), (.int p2), (.int p3)] ∧ Z.Warmed39 U.vm ∧ U.heap = h0) (fun _ _ _ _ _ => True) (fun _ U o U' => ∃ v L, o = .returned v ∧ Q0 Z p1 p2 p3  h0 n0 v U'.heap L ∧ FrameEnd U o U' L 16 192) := by
  refine MetFree.of_bodySF (plainFor_of_name pn_0) hisR ?_
  intro p e s m args below meth c s₁ Bd hml0 hP hK
  obtain ⟨rfl, hZ, hh⟩ := hP
  have hx := Bd.exec
  have hby := Bd.bytes
  have hml : c.maxLocals = 9 := hml0
  have hown : s.vm.findClass "com/example/hursley/hursley/wire/ApiKeySupportsPinLaw" = some m.cls := findClass_of_methodNamed Bd.named
  have hnm := (name_of_methodNamed Bd.named Bd.method).1
  have X0 : Stand p l e room_1 s m #[(.int p1), (.int p2), (.int p3)] below meth c s₁ [] 0 0 := Stand.of_body Bd
  have e0 : s₁.heap = h0 := by rw [← hh, Bd.state]; rfl
  have N0 := Fr.nil n0
  have pre0 : ∀ t, Steps p.tables e below (s₁.setTop (mkF m 0 #[.val (.int p1), .val (.int p2), .val (.int p3), .unset, .unset, .unset, .unset, .unset, .unset] [])) t → Steps p.tables e below (s₁.setTop (entryFrame m #[(.int p1), (.int p2), (.int p3)] maxLocals)) t := fun t k => castTop (ef_rm0 m p1 p2 p3) k
  have O0 := own_ext_refl h0
  obtain ⟨T1, h1, k1, X1, e1, E1, A1, Ov1, st1⟩ := newR X0 hx hZ hown (hw _ (List.mem_of_getElem? (i := 0) rfl)) (hw _ (List.mem_of_getElem? (i := 1) rfl)) e0 (g := (mkF m 2 #[.val (.int p1), .val (.int p2), .val (.int p3), .unset, .unset, .unset, .unset, .unset, .unset] [(.int (15 : Int32))])) rfl (hb hby at_2) rfl (by decide) (cap := 15) (by decide) (by decide) (by decide) (by decide)
  obtain ⟨b1, g1⟩ : ∃ z, z = h0.size := ⟨_, rfl⟩
  rw [← g1] at A1 st1
  have z_b1 : h0.size ≤ b1 := Nat.le_trans O0.1 (Nat.le_of_eq g1.symm)
  have g_b1 : n0 ≤ b1 := Nat.le_trans Z0 z_b1
  have O1 := own_ext_trans O0 E1
  have V1 : Arv Z h1 b1 k1 (.object "com/example/hursley/hursley/wire/ApiKey") (15 : Int32) [.null, .null, .null, .null, .null, .null, .null, .null, .null, .null, .null, .null, .null, .null, .null] .null := (Arv.new A1 (by decide)).pad (pad_rep [] .null 15)
  obtain ⟨T2, X2, e2, st2⟩ := getS2 X1 hx hZ hown (host := "") (Or.inl (hw _ (List.mem_of_getElem? (i := 2) rfl))) Via.refl e1 (S_PRODUCE.ext O1) (g := (mkF m 7 #[.val (.int p1), .val (.int p2), .val (.int p3), .unset, .unset, .unset, .unset, .unset, .unset] [(.int (0 : Int32)), (.ref b1), (.ref b1)])) rfl (hb hby at_7)
  obtain ⟨cl3, Ar3, q3, S3, n3', H3, G3⟩ := id V1
  have hin3 : ¬ ((0 : Int32) < 0 ∨ cl3.slots.size ≤ ((0 : Int32)).toNatClampNeg) := inb_of S3 ⟨by decide, by decide⟩
  have Sto3 : Sto Z h1 b1 (.ref a_PRODUCE) := Sto.ofV Ar3 q3 Ov1 (Ins.self (E_PRODUCE.ext O1))
  obtain ⟨T3, h3, X3, e3, W3, st3⟩ := stR X2 hx hZ e2 Ar3 (j := (0 : Int32)) hin3 rfl Sto3 (g := (mkF m 10 #[.val (.int p1), .val (.int p2), .val (.int p3), .unset, .unset, .unset, .unset, .unset, .unset] [(.ref a_PRODUCE), (.int (0 : Int32)), (.ref b1), (.ref b1)])) rfl rfl (hb hby at_10)
  have V3 : Arv Z h3 b1 k1 (.object "com/example/hursley/hursley/wire/ApiKey") (15 : Int32) [(.ref a_PRODUCE), .null, .null, .null, .null, .null, .null, .null, .null, .null, .null, .null, .null, .null, .null] .null := Arv.set Ar3 q3 S3 n3' H3 G3 rfl W3 0 rfl (Nat.le_of_ble_eq_true rfl)
  have O3 := own_ext_wr O1 W3 z_b1
  have N3 := Fr.snoc X3 N0 g_b1
  obtain ⟨T4, X4, e4, st4⟩ := getS2 X3 hx hZ hown (host := "") (Or.inl (hw _ (List.mem_of_getElem? (i := 6) rfl))) Via.refl e3 (S_FETCH.ext O3) (g := (mkF m 13 #[.val (.int p1), .val (.int p2), .val (.int p3), .unset, .unset, .unset, .unset, .unset, .unset] [(.int (1 : Int32)), (.ref b1), (.ref b1)])) rfl (hb hby at_13)
  obtain ⟨cl5, Ar5, q5, S5, n5', H5, G5⟩ := id V3
  have hin5 : ¬ ((1 : Int32) < 0 ∨ cl5.slots.size ≤ ((1 : Int32)).toNatClampNeg) := inb_of S5 ⟨by decide, by decide⟩
  have Sto5 : Sto Z h3 b1 (.ref a_FETCH) := Sto.ofV Ar5 q5 Ov1 (Ins.self (E_FETCH.ext O3))
  obtain ⟨T5, h5, X5, e5, W5, st5⟩ := stR X4 hx hZ e4 Ar5 (j := (1 : Int32)) hin5 rfl Sto5 (g := (mkF m 16 #[.val (.int p1), .val (.int p2), .val (.int p3), .unset, .unset, .unset, .unset, .unset, .unset] [(.ref a_FETCH), (.int (1 : Int32)), (.ref b1), (.ref b1)])) rfl rfl (hb hby at_16)
  have V5 : Arv Z h5 b1 k1 (.object "com/example/hursley/hursley/wire/ApiKey") (15 : Int32) [(.ref a_PRODUCE), (.ref a_FETCH), .null, .null, .null, .null, .null, .null, .null, .null, .null, .null, .null, .null, .null] .null := Arv.set Ar5 q5 S5 n5' H5 G5 rfl W5 1 rfl (Nat.le_of_ble_eq_true rfl)
  have O5 := own_ext_wr O3 W5 z_b1
  have N5 := Fr.snoc X5 N3 g_b1
  obtain ⟨T6, X6, e6, st6⟩ := getS2 X5 hx hZ hown (host := "") (Or.inl (hw _ (List.mem_of_getElem? (i := 8) rfl))) Via.refl e5 (S_LIST_OFFSETS.ext O5) (g := (mkF m 19 #[.val (.int p1), .val (.int p2), .val (.int p3), .unset, .unset, .unset, .unset, .unset, .unset] [(.int (2 : Int32)), (.ref b1), (.ref b1)])) rfl (hb hby at_19)
  have pre7 : ∀ t, Steps p.tables e below (T6.setTop (mkF m 22 #[.val (.int p1), .val (.int p2), .val (.int p3), .unset, .unset, .unset, .unset, .unset, .unset] [(.ref a_LIST_OFFSETS), (.int (2 : Int32)), (.ref b1), (.ref b1)])) t → Steps p.tables e below (s₁.setTop (entryFrame m #[(.int p1), (.int p2), (.int p3)] maxLocals)) t := fun t k => pre0 t (by
    show Steps p.tables e below (s₁.setTop (mkF m 0 #[.val (.int p1), .val (.int p2), .val (.int p3), .unset, .unset, .unset, .unset, .unset, .unset] [])) _
    refine XT.bipushV X0.here hx rfl (15 : Int32) (hb hby at_0) (by decide) ?_
    show Steps p.tables e below (s₁.setTop (mkF m 2 #[.val (.int p1), .val (.int p2), .val (.int p3), .unset, .unset, .unset, .unset, .unset, .unset] [(.int (15 : Int32))])) _
    refine st1 _ ?_
    show Steps p.tables e below (T1.setTop (mkF m 5 #[.val (.int p1), .val (.int p2), .val (.int p3), .unset, .unset, .unset, .unset, .unset, .unset] [(.ref b1)])) _
    refine XS.dup X1.here hx rfl (hb hby at_5) rfl rfl ?_
    show Steps p.tables e below (T1.setTop (mkF m 6 #[.val (.int p1), .val (.int p2), .val (.int p3), .unset, .unset, .unset, .unset, .unset, .unset] [(.ref b1), (.ref b1)])) _
    refine XT.iconstV X1.here hx rfl (0 : Int32) (hb hby at_6) (by decide) ?_
    show Steps p.tables e below (T1.setTop (mkF m 7 #[.val (.int p1), .val (.int p2), .val (.int p3), .unset, .unset, .unset, .unset, .unset, .unset] [(.int (0 : Int32)), (.ref b1), (.ref b1)])) _
    refine st2 _ ?_
    show Steps p.tables e below (T2.setTop (mkF m 10 #[.val (.int p1), .val (.int p2), .val (.int p3), .unset, .unset, .unset, .unset, .unset, .unset] [(.ref a_PRODUCE), (.int (0 : Int32)), (.ref b1), (.ref b1)])) _
    refine st3 _ ?_
    show Steps p.tables e below (T3.setTop (mkF m 11 #[.val (.int p1), .val (.int p2), .val (.int p3), .unset, .unset, .unset, .unset, .unset, .unset] [(.ref b1)])) _
    refine XS.dup X3.here hx rfl (hb hby at_11) rfl rfl ?_
    show Steps p.tables e below (T3.setTop (mkF m 12 #[.val (.int p1), .val (.int p2), .val (.int p3), .unset, .unset, .unset, .unset, .unset, .unset] [(.ref b1), (.ref b1)])) _
    refine XT.iconstV X3.here hx rfl (1 : Int32) (hb hby at_12) (by decide) ?_
    show Steps p.tables e below (T3.setTop (mkF m 13 #[.val (.int p1), .val (.int p2), .val (.int p3), .unset, .unset, .unset, .unset, .unset, .unset] [(.int (1 : Int32)), (.ref b1), (.ref b1)])) _
    refine st4 _ ?_
    show Steps p.tables e below (T4.setTop (mkF m 16 #[.val (.int p1), .val (.int p2), .val (.int p3), .unset, .unset, .unset, .unset, .unset, .unset] [(.ref a_FETCH), (.int (1 : Int32)), (.ref b1), (.ref b1)])) _
    refine st5 _ ?_
    show Steps p.tables e below (T5.setTop (mkF m 17 #[.val (.int p1), .val (.int p2), .val (.int p3), .unset, .unset, .unset, .unset, .unset, .unset] [(.ref b1)])) _
    refine XS.dup X5.here hx rfl (hb hby at_17) rfl rfl ?_
    show Steps p.tables e below (T5.setTop (mkF m 18 #[.val (.int p1), .val (.int p2), .val (.int p3), .unset, .unset, .unset, .unset, .unset, .unset] [(.ref b1), (.ref b1)])) _
    refine XT.iconstV X5.here hx rfl (2 : Int32) (hb hby at_18) (by decide) ?_
    show Steps p.tables e below (T5.setTop (mkF m 19 #[.val (.int p1), .val (.int p2), .val (.int p3), .unset, .unset, .unset, .unset, .unset, .unset] [(.int (2 : Int32)), (.ref b1), (.ref b1)])) _
    refine st6 _ ?_
    exact k)
  obtain ⟨cl8, Ar8, q8, S8, n8', H8, G8⟩ := id V5
  have hin8 : ¬ ((2 : Int32) < 0 ∨ cl8.slots.size ≤ ((2 : Int32)).toNatClampNeg) := inb_of S8 ⟨by decide, by decide⟩
  have Sto8 : Sto Z h5 b1 (.ref a_LIST_OFFSETS) := Sto.ofV Ar8 q8 Ov1 (Ins.self (E_LIST_OFFSETS.ext O5))
  obtain ⟨T8, h8, X8, e8, W8, st8⟩ := stR X6 hx hZ e6 Ar8 (j := (2 : Int32)) hin8 rfl Sto8 (g := (mkF m 22 #[.val (.int p1), .val (.int p2), .val (.int p3), .unset, .unset, .unset, .unset, .unset, .unset] [(.ref a_LIST_OFFSETS), (.int (2 : Int32)), (.ref b1), (.ref b1)])) rfl rfl (hb hby at_22)
  have V8 : Arv Z h8 b1 k1 (.object "com/example/hursley/hursley/wire/ApiKey") (15 : Int32) [(.ref a_PRODUCE), (.ref a_FETCH), (.ref a_LIST_OFFSETS), .null, .null, .null, .null, .null, .null, .null, .null, .null, .null, .null, .null] .null := Arv.set Ar8 q8 S8 n8' H8 G8 rfl W8 2 rfl (Nat.le_of_ble_eq_true rfl)
  have O8 := own_ext_wr O5 W8 z_b1
  have N8 := Fr.snoc X8 N5 g_b1
  obtain ⟨T9, X9, e9, st9⟩ := getS2 X8 hx hZ hown (host := "") (Or.inl (hw _ (List.mem_of_getElem? (i := 10) rfl))) Via.refl e8 (S_METADATA.ext O8) (g := (mkF m 25 #[.val (.int p1), .val (.int p2), .val (.int p3), .unset, .unset, .unset, .unset, .unset, .unset] [(.int (3 : Int32)), (.ref b1), (.ref b1)])) rfl (hb hby at_25)
  obtain ⟨cl10, Ar10, q10, S10, n10', H10, G10⟩ := id V8
  have hin10 : ¬ ((3 : Int32) < 0 ∨ cl10.slots.size ≤ ((3 : Int32)).toNatClampNeg) := inb_of S10 ⟨by decide, by decide⟩
  have Sto10 : Sto Z h8 b1 (.ref a_METADATA) := Sto.ofV Ar10 q10 Ov1 (Ins.self (E_METADATA.ext O8))
  obtain ⟨T10, h10, X10, e10, W10, st10⟩ := stR X9 hx hZ e9 Ar10 (j := (3 : Int32)) hin10 rfl Sto10 (g := (mkF m 28 #[.val (.int p1), .val (.int p2), .val (.int p3), .unset, .unset, .unset, .unset, .unset, .unset] [(.ref a_METADATA), (.int (3 : Int32)), (.ref b1), (.ref b1)])) rfl rfl (hb hby at_28)
  have V10 : Arv Z h10 b1 k1 (.object "com/example/hursley/hursley/wire/ApiKey") (15 : Int32) [(.ref a_PRODUCE), (.ref a_FETCH), (.ref a_LIST_OFFSETS), (.ref a_METADATA), .null, .null, .null, .null, .null, .null, .null, .null, .null, .null, .null] .null := Arv.set Ar10 q10 S10 n10' H10 G10 rfl W10 3 rfl (Nat.le_of_ble_eq_true rfl)
  have O10 := own_ext_wr O8 W10 z_b1
  have N10 := Fr.snoc X10 N8 g_b1
  obtain ⟨T11, X11, e11, st11⟩ := getS2 X10 hx hZ hown (host := "") (Or.inl (hw _ (List.mem_of_getElem? (i := 12) rfl))) Via.refl e10 (S_FIND_COORDINATOR.ext O10) (g := (mkF m 31 #[.val (.int p1), .val (.int p2), .val (.int p3), .unset, .unset, .unset, .unset, .unset, .unset] [(.int (4 : Int32)), (.ref b1), (.ref b1)])) rfl (hb hby at_31)
  obtain ⟨cl12, Ar12, q12, S12, n12', H12, G12⟩ := id V10
  have hin12 : ¬ ((4 : Int32) < 0 ∨ cl12.slots.size ≤ ((4 : Int32)).toNatClampNeg) := inb_of S12 ⟨by decide, by decide⟩
  have Sto12 : Sto Z h10 b1 (.ref a_FIND_COORDINATOR) := Sto.ofV Ar12 q12 Ov1 (Ins.self (E_FIND_COORDINATOR.ext O10))
  obtain ⟨T12, h12, X12, e12, W12, st12⟩ := stR X11 hx hZ e11 Ar12 (j := (4 : Int32)) hin12 rfl Sto12 (g := (mkF m 34 #[.val (.int p1), .val (.int p2), .val (.int p3), .unset, .unset, .unset, .unset, .unset, .unset] [(.ref a_FIND_COORDINATOR), (.int (4 : Int32)), (.ref b1), (.ref b1)])) rfl rfl (hb hby at_34)
  have V12 : Arv Z h12 b1 k1 (.object "com/example/hursley/hursley/wire/ApiKey") (15 : Int32) [(.ref a_PRODUCE), (.ref a_FETCH), (.ref a_LIST_OFFSETS), (.ref a_METADATA), (.ref a_FIND_COORDINATOR), .null, .null, .null, .null, .null, .null, .null, .null, .null, .null] .null := Arv.set Ar12 q12 S12 n12' H12 G12 rfl W12 4 rfl (Nat.le_of_ble_eq_true rfl)
  have O12 := own_ext_wr O10 W12 z_b1
  have N12 := Fr.snoc X12 N10 g_b1
  obtain ⟨T13, X13, e13, st13⟩ := getS2 X12 hx hZ hown (host := "") (Or.inl (hw _ (List.mem_of_getElem? (i := 14) rfl))) Via.refl e12 (S_API_VERSIONS.ext O12) (g := (mkF m 37 #[.val (.int p1), .val (.int p2), .val (.int p3), .unset, .unset, .unset, .unset, .unset, .unset] [(.int (5 : Int32)), (.ref b1), (.ref b1)])) rfl (hb hby at_37)
  obtain ⟨cl14, Ar14, q14, S14, n14', H14, G14⟩ := id V12
  have hin14 : ¬ ((5 : Int32) < 0 ∨ cl14.slots.size ≤ ((5 : Int32)).toNatClampNeg) := inb_of S14 ⟨by decide, by decide⟩
  have Sto14 : Sto Z h12 b1 (.ref a_API_VERSIONS) := Sto.ofV Ar14 q14 Ov1 (Ins.self (E_API_VERSIONS.ext O12))
  obtain ⟨T14, h14, X14, e14, W14, st14⟩ := stR X13 hx hZ e13 Ar14 (j := (5 : Int32)) hin14 rfl Sto14 (g := (mkF m 40 #[.val (.int p1), .val (.int p2), .val (.int p3), .unset, .unset, .unset, .unset, .unset, .unset] [(.ref a_API_VERSIONS), (.int (5 : Int32)), (.ref b1), (.ref b1)])) rfl rfl (hb hby at_40)
  have V14 : Arv Z h14 b1 k1 (.object "com/example/hursley/hursley/wire/ApiKey") (15 : Int32) [(.ref a_PRODUCE), (.ref a_FETCH), (.ref a_LIST_OFFSETS), (.ref a_METADATA), (.ref a_FIND_COORDINATOR), (.ref a_API_VERSIONS), .null, .null, .null, .null, .null, .null, .null, .null, .null] .null := Arv.set Ar14 q14 S14 n14' H14 G14 rfl W14 5 rfl (Nat.le_of_ble_eq_true rfl)
  have O14 := own_ext_wr O12 W14 z_b1
  have N14 := Fr.snoc X14 N12 g_b1
  have pre15 : ∀ t, Steps p.tables e below (T14.setTop (mkF m 41 #[.val (.int p1), .val (.int p2), .val (.int p3), .unset, .unset, .unset, .unset, .unset, .unset] [(.ref b1)])) t → Steps p.tables e below (s₁.setTop (entryFrame m #[(.int p1), (.int p2), (.int p3)] maxLocals)) t := fun t k => pre7 t (by
    show Steps p.tables e below (T6.setTop (mkF m 22 #[.val (.int p1), .val (.int p2), .val (.int p3), .unset, .unset, .unset, .unset, .unset, .unset] [(.ref a_LIST_OFFSETS), (.int (2 : Int32)), (.ref b1), (.ref b1)])) _
    refine st8 _ ?_
    show Steps p.tables e below (T8.setTop (mkF m 23 #[.val (.int p1), .val (.int p2), .val (.int p3), .unset, .unset, .unset, .unset, .unset, .unset] [(.ref b1)])) _
    refine XS.dup X8.here hx rfl (hb hby at_23) rfl rfl ?_
    show Steps p.tables e below (T8.setTop (mkF m 24 #[.val (.int p1), .val (.int p2), .val (.int p3), .unset, .unset, .unset, .unset, .unset, .unset] [(.ref b1), (.ref b1)])) _
    refine XT.iconstV X8.here hx rfl (3 : Int32) (hb hby at_24) (by decide) ?_
    show Steps p.tables e below (T8.setTop (mkF m 25 #[.val (.int p1), .val (.int p2), .val (.int p3), .unset, .unset, .unset, .unset, .unset, .unset] [(.int (3 : Int32)), (.ref b1), (.ref b1)])) _
    refine st9 _ ?_
    show Steps p.tables e below (T9.setTop (mkF m 28 #[.val (.int p1), .val (.int p2), .val (.int p3), .unset, .unset, .unset, .unset, .unset, .unset] [(.ref a_METADATA), (.int (3 : Int32)), (.ref b1), (.ref b1)])) _
    refine st10 _ ?_
    show Steps p.tables e below (T10.setTop (mkF m 29 #[.val (.int p1), .val (.int p2), .val (.int p3), .unset, .unset, .unset, .unset, .unset, .unset] [(.ref b1)])) _
    refine XS.dup X10.here hx rfl (hb hby at_29) rfl rfl ?_
    show Steps p.tables e below (T10.setTop (mkF m 30 #[.val (.int p1), .val (.int p2), .val (.int p3), .unset, .unset, .unset, .unset, .unset, .unset] [(.ref b1), (.ref b1)])) _
    refine XT.iconstV X10.here hx rfl (4 : Int32) (hb hby at_30) (by decide) ?_
    show Steps p.tables e below (T10.setTop (mkF m 31 #[.val (.int p1), .val (.int p2), .val (.int p3), .unset, .unset, .unset, .unset, .unset, .unset] [(.int (4 : Int32)), (.ref b1), (.ref b1)])) _
    refine st11 _ ?_
    show Steps p.tables e below (T11.setTop (mkF m 34 #[.val (.int p1), .val (.int p2), .val (.int p3), .unset, .unset, .unset, .unset, .unset, .unset] [(.ref a_FIND_COORDINATOR), (.int (4 : Int32)), (.ref b1), (.ref b1)])) _
    refine st12 _ ?_
    show Steps p.tables e below (T12.setTop (mkF m 35 #[.val (.int p1), .val (.int p2), .val (.int p3), .unset, .unset, .unset, .unset, .unset, .unset] [(.ref b1)])) _
    refine XS.dup X12.here hx rfl (hb hby at_35) rfl rfl ?_
    show Steps p.tables e below (T12.setTop (mkF m 36 #[.val (.int p1), .val (.int p2), .val (.int p3), .unset, .unset, .unset, .unset, .unset, .unset] [(.ref b1), (.ref b1)])) _
    refine XT.iconstV X12.here hx rfl (5 : Int32) (hb hby at_36) (by decide) ?_
    show Steps p.tables e below (T12.setTop (mkF m 37 #[.val (.int p1), .val (.int p2), .val (.int p3), .unset, .unset, .unset, .unset, .unset, .unset] [(.int (5 : Int32)), (.ref b1), (.ref b1)])) _
    refine st13 _ ?_
    show Steps p.tables e below (T13.setTop (mkF m 40 #[.val (.int p1), .val (.int p2), .val (.int p3), .unset, .unset, .unset, .unset, .unset, .unset] [(.ref a_API_VERSIONS), (.int (5 : Int32)), (.ref b1), (.ref b1)])) _
    refine st14 _ ?_
    exact k)
  obtain ⟨T16, X16, e16, st16⟩ := getS2 X14 hx hZ hown (host := "") (Or.inl (hw _ (List.mem_of_getElem? (i := 16) rfl))) Via.refl e14 (S_CREATE_TOPICS.ext O14) (g := (mkF m 44 #[.val (.int p1), .val (.int p2), .val (.int p3), .unset, .unset, .unset, .unset, .unset, .unset] [(.int (6 : Int32)), (.ref b1), (.ref b1)])) rfl (hb hby at_44)
  obtain ⟨cl17, Ar17, q17, S17, n17', H17, G17⟩ := id V14
  have hin17 : ¬ ((6 : Int32) < 0 ∨ cl17.slots.size ≤ ((6 : Int32)).toNatClampNeg) := inb_of S17 ⟨by decide, by decide⟩
  have Sto17 : Sto Z h14 b1 (.ref a_CREATE_TOPICS) := Sto.ofV Ar17 q17 Ov1 (Ins.self (E_CREATE_TOPICS.ext O14))
  obtain ⟨T17, h17, X17, e17, W17, st17⟩ := stR X16 hx hZ e16 Ar17 (j := (6 : Int32)) hin17 rfl Sto17 (g := (mkF m 47 #[.val (.int p1), .val (.int p2), .val (.int p3), .unset, .unset, .unset, .unset, .unset, .unset] [(.ref a_CREATE_TOPICS), (.int (6 : Int32)), (.ref b1), (.ref b1)])) rfl rfl (hb hby at_47)
  have V17 : Arv Z h17 b1 k1 (.object "com/example/hursley/hursley/wire/ApiKey") (15 : Int32) [(.ref a_PRODUCE), (.ref a_FETCH), (.ref a_LIST_OFFSETS), (.ref a_METADATA), (.ref a_FIND_COORDINATOR), (.ref a_API_VERSIONS), (.ref a_CREATE_TOPICS), .null, .null, .null, .null, .null, .null, .null, .null] .null := Arv.set Ar17 q17 S17 n17' H17 G17 rfl W17 6 rfl (Nat.le_of_ble_eq_true rfl)
  have O17 := own_ext_wr O14 W17 z_b1
  have N17 := Fr.snoc X17 N14 g_b1
  obtain ⟨T18, X18, e18, st18⟩ := getS2 X17 hx hZ hown (host := "") (Or.inl (hw _ (List.mem_of_getElem? (i := 18) rfl))) Via.refl e17 (S_INIT_PRODUCER_ID.ext O17) (g := (mkF m 51 #[.val (.int p1), .val (.int p2), .val (.int p3), .unset, .unset, .unset, .unset, .unset, .unset] [(.int (7 : Int32)), (.ref b1), (.ref b1)])) rfl (hb hby at_51)
  obtain ⟨cl19, Ar19, q19, S19, n19', H19, G19⟩ := id V17
  have hin19 : ¬ ((7 : Int32) < 0 ∨ cl19.slots.size ≤ ((7 : Int32)).toNatClampNeg) := inb_of S19 ⟨by decide, by decide⟩
  have Sto19 : Sto Z h17 b1 (.ref a_INIT_PRODUCER_ID) := Sto.ofV Ar19 q19 Ov1 (Ins.self (E_INIT_PRODUCER_ID.ext O17))
  obtain ⟨T19, h19, X19, e19, W19, st19⟩ := stR X18 hx hZ e18 Ar19 (j := (7 : Int32)) hin19 rfl Sto19 (g := (mkF m 54 #[.val (.int p1), .val (.int p2), .val (.int p3), .unset, .unset, .unset, .unset, .unset, .unset] [(.ref a_INIT_PRODUCER_ID), (.int (7 : Int32)), (.ref b1), (.ref b1)])) rfl rfl (hb hby at_54)
  have V19 : Arv Z h19 b1 k1 (.object "com/example/hursley/hursley/wire/ApiKey") (15 : Int32) [(.ref a_PRODUCE), (.ref a_FETCH), (.ref a_LIST_OFFSETS), (.ref a_METADATA), (.ref a_FIND_COORDINATOR), (.ref a_API_VERSIONS), (.ref a_CREATE_TOPICS), (.ref a_INIT_PRODUCER_ID), .null, .null, .null, .null, .null, .null, .null] .null := Arv.set Ar19 q19 S19 n19' H19 G19 rfl W19 7 rfl (Nat.le_of_ble_eq_true rfl)
  have O19 := own_ext_wr O17 W19 z_b1
  have N19 := Fr.snoc X19 N17 g_b1
  obtain ⟨T20, X20, e20, st20⟩ := getS2 X19 hx hZ hown (host := "") (Or.inl (hw _ (List.mem_of_getElem? (i := 20) rfl))) Via.refl e19 (S_DESCRIBE_CONFIGS.ext O19) (g := (mkF m 58 #[.val (.int p1), .val (.int p2), .val (.int p3), .unset, .unset, .unset, .unset, .unset, .unset] [(.int (8 : Int32)), (.ref b1), (.ref b1)])) rfl (hb hby at_58)
  obtain ⟨cl21, Ar21, q21, S21, n21', H21, G21⟩ := id V19
  have hin21 : ¬ ((8 : Int32) < 0 ∨ cl21.slots.size ≤ ((8 : Int32)).toNatClampNeg) := inb_of S21 ⟨by decide, by decide⟩
  have Sto21 : Sto Z h19 b1 (.ref a_DESCRIBE_CONFIGS) := Sto.ofV Ar21 q21 Ov1 (Ins.self (E_DESCRIBE_CONFIGS.ext O19))
  obtain ⟨T21, h21, X21, e21, W21, st21⟩ := stR X20 hx hZ e20 Ar21 (j := (8 : Int32)) hin21 rfl Sto21 (g := (mkF m 61 #[.val (.int p1), .val (.int p2), .val (.int p3), .unset, .unset, .unset, .unset, .unset, .unset] [(.ref a_DESCRIBE_CONFIGS), (.int (8 : Int32)), (.ref b1), (.ref b1)])) rfl rfl (hb hby at_61)
  have V21 : Arv Z h21 b1 k1 (.object "com/example/hursley/hursley/wire/ApiKey") (15 : Int32) [(.ref a_PRODUCE), (.ref a_FETCH), (.ref a_LIST_OFFSETS), (.ref a_METADATA), (.ref a_FIND_COORDINATOR), (.ref a_API_VERSIONS), (.ref a_CREATE_TOPICS), (.ref a_INIT_PRODUCER_ID), (.ref a_DESCRIBE_CONFIGS), .null, .null, .null, .null, .null, .null] .null := Arv.set Ar21 q21 S21 n21' H21 G21 rfl W21 8 rfl (Nat.le_of_ble_eq_true rfl)
  have O21 := own_ext_wr O19 W21 z_b1
  have N21 := Fr.snoc X21 N19 g_b1
  have pre22 : ∀ t, Steps p.tables e below (T21.setTop (mkF m 63 #[.val (.int p1), .val (.int p2), .val (.int p3), .unset, .unset, .unset, .unset, .unset, .unset] [(.ref b1), (.ref b1)])) t → Steps p.tables e below (s₁.setTop (entryFrame m #[(.int p1), (.int p2), (.int p3)] maxLocals)) t := fun t k => pre15 t (by
    show Steps p.tables e below (T14.setTop (mkF m 41 #[.val (.int p1), .val (.int p2), .val (.int p3), .unset, .unset, .unset, .unset, .unset, .unset] [(.ref b1)])) _
    refine XS.dup X14.here hx rfl (hb hby at_41) rfl rfl ?_
    show Steps p.tables e below (T14.setTop (mkF m 42 #[.val (.int p1), .val (.int p2), .val (.int p3), .unset, .unset, .unset, .unset, .unset, .unset] [(.ref b1), (.ref b1)])) _
    refine XT.bipushV X14.here hx rfl (6 : Int32) (hb hby at_42) (by decide) ?_
    show Steps p.tables e below (T14.setTop (mkF m 44 #[.val (.int p1), .val (.int p2), .val (.int p3), .unset, .unset, .unset, .unset, .unset, .unset] [(.int (6 : Int32)), (.ref b1), (.ref b1)])) _
    refine st16 _ ?_
    show Steps p.tables e below (T16.setTop (mkF m 47 #[.val (.int p1), .val (.int p2), .val (.int p3), .unset, .unset, .unset, .unset, .unset, .unset] [(.ref a_CREATE_TOPICS), (.int (6 : Int32)), (.ref b1), (.ref b1)])) _
    refine st17 _ ?_
    show Steps p.tables e below (T17.setTop (mkF m 48 #[.val (.int p1), .val (.int p2), .val (.int p3), .unset, .unset, .unset, .unset, .unset, .unset] [(.ref b1)])) _
    refine XS.dup X17.here hx rfl (hb hby at_48) rfl rfl ?_
    show Steps p.tables e below (T17.setTop (mkF m 49 #[.val (.int p1), .val (.int p2), .val (.int p3), .unset, .unset, .unset, .unset, .unset, .unset] [(.ref b1), (.ref b1)])) _
    refine XT.bipushV X17.here hx rfl (7 : Int32) (hb hby at_49) (by decide) ?_
    show Steps p.tables e below (T17.setTop (mkF m 51 #[.val (.int p1), .val (.int p2), .val (.int p3), .unset, .unset, .unset, .unset, .unset, .unset] [(.int (7 : Int32)), (.ref b1), (.ref b1)])) _
    refine st18 _ ?_
    show Steps p.tables e below (T18.setTop (mkF m 54 #[.val (.int p1), .val (.int p2), .val (.int p3), .unset, .unset, .unset, .unset, .unset, .unset] [(.ref a_INIT_PRODUCER_ID), (.int (7 : Int32)), (.ref b1), (.ref b1)])) _
    refine st19 _ ?_
    show Steps p.tables e below (T19.setTop (mkF m 55 #[.val (.int p1), .val (.int p2), .val (.int p3), .unset, .unset, .unset, .unset, .unset, .unset] [(.ref b1)])) _
    refine XS.dup X19.here hx rfl (hb hby at_55) rfl rfl ?_
    show Steps p.tables e below (T19.setTop (mkF m 56 #[.val (.int p1), .val (.int p2), .val (.int p3), .unset, .unset, .unset, .unset, .unset, .unset] [(.ref b1), (.ref b1)])) _
    refine XT.bipushV X19.here hx rfl (8 : Int32) (hb hby at_56) (by decide) ?_
    show Steps p.tables e below (T19.setTop (mkF m 58 #[.val (.int p1), .val (.int p2), .val (.int p3), .unset, .unset, .unset, .unset, .unset, .unset] [(.int (8 : Int32)), (.ref b1), (.ref b1)])) _
    refine st20 _ ?_
    show Steps p.tables e below (T20.setTop (mkF m 61 #[.val (.int p1), .val (.int p2), .val (.int p3), .unset, .unset, .unset, .unset, .unset, .unset] [(.ref a_DESCRIBE_CONFIGS), (.int (8 : Int32)), (.ref b1), (.ref b1)])) _
    refine st21 _ ?_
    show Steps p.tables e below (T21.setTop (mkF m 62 #[.val (.int p1), .val (.int p2), .val (.int p3), .unset, .unset, .unset, .unset, .unset, .unset] [(.ref b1)])) _
    refine XS.dup X21.here hx rfl (hb hby at_62) rfl rfl ?_
    exact k)
  obtain ⟨T23, X23, e23, st23⟩ := getS2 X21 hx hZ hown (host := "") (Or.inl (hw _ (List.mem_of_getElem? (i := 22) rfl))) Via.refl e21 (S_INCREMENTAL_ALTER_CONFIGS.ext O21) (g := (mkF m 65 #[.val (.int p1), .val (.int p2), .val (.int p3), .unset, .unset, .unset, .unset, .unset, .unset] [(.int (9 : Int32)), (.ref b1), (.ref b1)])) rfl (hb hby at_65)
  obtain ⟨cl24, Ar24, q24, S24, n24', H24, G24⟩ := id V21
  have hin24 : ¬ ((9 : Int32) < 0 ∨ cl24.slots.size ≤ ((9 : Int32)).toNatClampNeg) := inb_of S24 ⟨by decide, by decide⟩
  have Sto24 : Sto Z h21 b1 (.ref a_INCREMENTAL_ALTER_CONFIGS) := Sto.ofV Ar24 q24 Ov1 (Ins.self (E_INCREMENTAL_ALTER_CONFIGS.ext O21))
  obtain ⟨T24, h24, X24, e24, W24, st24⟩ := stR X23 hx hZ e23 Ar24 (j := (9 : Int32)) hin24 rfl Sto24 (g := (mkF m 68 #[.val (.int p1), .val (.int p2), .val (.int p3), .unset, .unset, .unset, .unset, .unset, .unset] [(.ref a_INCREMENTAL_ALTER_CONFIGS), (.int (9 : Int32)), (.ref b1), (.ref b1)])) rfl rfl (hb hby at_68)
  have V24 : Arv Z h24 b1 k1 (.object "com/example/hursley/hursley/wire/ApiKey") (15 : Int32) [(.ref a_PRODUCE), (.ref a_FETCH), (.ref a_LIST_OFFSETS), (.ref a_METADATA), (.ref a_FIND_COORDINATOR), (.ref a_API_VERSIONS), (.ref a_CREATE_TOPICS), (.ref a_INIT_PRODUCER_ID), (.ref a_DESCRIBE_CONFIGS), (.ref a_INCREMENTAL_ALTER_CONFIGS), .null, .null, .null, .null, .null] .null := Arv.set Ar24 q24 S24 n24' H24 G24 rfl W24 9 rfl (Nat.le_of_ble_eq_true rfl)
  have O24 := own_ext_wr O21 W24 z_b1
  have N24 := Fr.snoc X24 N21 g_b1
  obtain ⟨T25, X25, e25, st25⟩ := getS2 X24 hx hZ hown (host := "") (Or.inl (hw _ (List.mem_of_getElem? (i := 24) rfl))) Via.refl e24 (S_SHARE_GROUP_HEARTBEAT.ext O24) (g := (mkF m 72 #[.val (.int p1), .val (.int p2), .val (.int p3), .unset, .unset, .unset, .unset, .unset, .unset] [(.int (10 : Int32)), (.ref b1), (.ref b1)])) rfl (hb hby at_72)
  obtain ⟨cl26, Ar26, q26, S26, n26', H26, G26⟩ := id V24
  have hin26 : ¬ ((10 : Int32) < 0 ∨ cl26.slots.size ≤ ((10 : Int32)).toNatClampNeg) := inb_of S26 ⟨by decide, by decide⟩
  have Sto26 : Sto Z h24 b1 (.ref a_SHARE_GROUP_HEARTBEAT) := Sto.ofV Ar26 q26 Ov1 (Ins.self (E_SHARE_GROUP_HEARTBEAT.ext O24))
  obtain ⟨T26, h26, X26, e26, W26, st26⟩ := stR X25 hx hZ e25 Ar26 (j := (10 : Int32)) hin26 rfl Sto26 (g := (mkF m 75 #[.val (.int p1), .val (.int p2), .val (.int p3), .unset, .unset, .unset, .unset, .unset, .unset] [(.ref a_SHARE_GROUP_HEARTBEAT), (.int (10 : Int32)), (.ref b1), (.ref b1)])) rfl rfl (hb hby at_75)
  have V26 : Arv Z h26 b1 k1 (.object "com/example/hursley/hursley/wire/ApiKey") (15 : Int32) [(.ref a_PRODUCE), (.ref a_FETCH), (.ref a_LIST_OFFSETS), (.ref a_METADATA), (.ref a_FIND_COORDINATOR), (.ref a_API_VERSIONS), (.ref a_CREATE_TOPICS), (.ref a_INIT_PRODUCER_ID), (.ref a_DESCRIBE_CONFIGS), (.ref a_INCREMENTAL_ALTER_CONFIGS), (.ref a_SHARE_GROUP_HEARTBEAT), .null, .null, .null, .null] .null := Arv.set Ar26 q26 S26 n26' H26 G26 rfl W26 10 rfl (Nat.le_of_ble_eq_true rfl)
  have O26 := own_ext_wr O24 W26 z_b1
  have N26 := Fr.snoc X26 N24 g_b1
  obtain ⟨T27, X27, e27, st27⟩ := getS2 X26 hx hZ hown (host := "") (Or.inl (hw _ (List.mem_of_getElem? (i := 26) rfl))) Via.refl e26 (S_SHARE_GROUP_DESCRIBE.ext O26) (g := (mkF m 79 #[.val (.int p1), .val (.int p2), .val (.int p3), .unset, .unset, .unset, .unset, .unset, .unset] [(.int (11 : Int32)), (.ref b1), (.ref b1)])) rfl (hb hby at_79)
  obtain ⟨cl28, Ar28, q28, S28, n28', H28, G28⟩ := id V26
  have hin28 : ¬ ((11 : Int32) < 0 ∨ cl28.slots.size ≤ ((11 : Int32)).toNatClampNeg) := inb_of S28 ⟨by decide, by decide⟩
  have Sto28 : Sto Z h26 b1 (.ref a_SHARE_GROUP_DESCRIBE) := Sto.ofV Ar28 q28 Ov1 (Ins.self (E_SHARE_GROUP_DESCRIBE.ext O26))
  obtain ⟨T28, h28, X28, e28, W28, st28⟩ := stR X27 hx hZ e27 Ar28 (j := (11 : Int32)) hin28 rfl Sto28 (g := (mkF m 82 #[.val (.int p1), .val (.int p2), .val (.int p3), .unset, .unset, .unset, .unset, .unset, .unset] [(.ref a_SHARE_GROUP_DESCRIBE), (.int (11 : Int32)), (.ref b1), (.ref b1)])) rfl rfl (hb hby at_82)
  have V28 : Arv Z h28 b1 k1 (.object "com/example/hursley/hursley/wire/ApiKey") (15 : Int32) [(.ref a_PRODUCE), (.ref a_FETCH), (.ref a_LIST_OFFSETS), (.ref a_METADATA), (.ref a_FIND_COORDINATOR), (.ref a_API_VERSIONS), (.ref a_CREATE_TOPICS), (.ref a_INIT_PRODUCER_ID), (.ref a_DESCRIBE_CONFIGS), (.ref a_INCREMENTAL_ALTER_CONFIGS), (.ref a_SHARE_GROUP_HEARTBEAT), (.ref a_SHARE_GROUP_DESCRIBE), .null, .null, .null] .null := Arv.set Ar28 q28 S28 n28' H28 G28 rfl W28 11 rfl (Nat.le_of_ble_eq_true rfl)
  have O28 := own_ext_wr O26 W28 z_b1
  have N28 := Fr.snoc X28 N26 g_b1
  have pre29 : ∀ t, Steps p.tables e below (T28.setTop (mkF m 86 #[.val (.int p1), .val (.int p2), .val (.int p3), .unset, .unset, .unset, .unset, .unset, .unset] [(.int (12 : Int32)), (.ref b1), (.ref b1)])) t → Steps p.tables e below (s₁.setTop (entryFrame m #[(.int p1), (.int p2), (.int p3)] maxLocals)) t := fun t k => pre22 t (by
    show Steps p.tables e below (T21.setTop (mkF m 63 #[.val (.int p1), .val (.int p2), .val (.int p3), .unset, .unset, .unset, .unset, .unset, .unset] [(.ref b1), (.ref b1)])) _
    refine XT.bipushV X21.here hx rfl (9 : Int32) (hb hby at_63) (by decide) ?_
    show Steps p.tables e below (T21.setTop (mkF m 65 #[.val (.int p1), .val (.int p2), .val (.int p3), .unset, .unset, .unset, .unset, .unset, .unset] [(.int (9 : Int32)), (.ref b1), (.ref b1)])) _
    refine st23 _ ?_
    show Steps p.tables e below (T23.setTop (mkF m 68 #[.val (.int p1), .val (.int p2), .val (.int p3), .unset, .unset, .unset, .unset, .unset, .unset] [(.ref a_INCREMENTAL_ALTER_CONFIGS), (.int (9 : Int32)), (.ref b1), (.ref b1)])) _
    refine st24 _ ?_
    show Steps p.tables e below (T24.setTop (mkF m 69 #[.val (.int p1), .val (.int p2), .val (.int p3), .unset, .unset, .unset, .unset, .unset, .unset] [(.ref b1)])) _
    refine XS.dup X24.here hx rfl (hb hby at_69) rfl rfl ?_
    show Steps p.tables e below (T24.setTop (mkF m 70 #[.val (.int p1), .val (.int p2), .val (.int p3), .unset, .unset, .unset, .unset, .unset, .unset] [(.ref b1), (.ref b1)])) _
    refine XT.bipushV X24.here hx rfl (10 : Int32) (hb hby at_70) (by decide) ?_
    show Steps p.tables e below (T24.setTop (mkF m 72 #[.val (.int p1), .val (.int p2), .val (.int p3), .unset, .unset, .unset, .unset, .unset, .unset] [(.int (10 : Int32)), (.ref b1), (.ref b1)])) _
    refine st25 _ ?_
    show Steps p.tables e below (T25.setTop (mkF m 75 #[.val (.int p1), .val (.int p2), .val (.int p3), .unset, .unset, .unset, .unset, .unset, .unset] [(.ref a_SHARE_GROUP_HEARTBEAT), (.int (10 : Int32)), (.ref b1), (.ref b1)])) _
    refine st26 _ ?_
    show Steps p.tables e below (T26.setTop (mkF m 76 #[.val (.int p1), .val (.int p2), .val (.int p3), .unset, .unset, .unset, .unset, .unset, .unset] [(.ref b1)])) _
    refine XS.dup X26.here hx rfl (hb hby at_76) rfl rfl ?_
    show Steps p.tables e below (T26.setTop (mkF m 77 #[.val (.int p1), .val (.int p2), .val (.int p3), .unset, .unset, .unset, .unset, .unset, .unset] [(.ref b1), (.ref b1)])) _
    refine XT.bipushV X26.here hx rfl (11 : Int32) (hb hby at_77) (by decide) ?_
    show Steps p.tables e below (T26.setTop (mkF m 79 #[.val (.int p1), .val (.int p2), .val (.int p3), .unset, .unset, .unset, .unset, .unset, .unset] [(.int (11 : Int32)), (.ref b1), (.ref b1)])) _
    refine st27 _ ?_
    show Steps p.tables e below (T27.setTop (mkF m 82 #[.val (.int p1), .val (.int p2), .val (.int p3), .unset, .unset, .unset, .unset, .unset, .unset] [(.ref a_SHARE_GROUP_DESCRIBE), (.int (11 : Int32)), (.ref b1), (.ref b1)])) _
    refine st28 _ ?_
    show Steps p.tables e below (T28.setTop (mkF m 83 #[.val (.int p1), .val (.int p2), .val (.int p3), .unset, .unset, .unset, .unset, .unset, .unset] [(.ref b1)])) _
    refine XS.dup X28.here hx rfl (hb hby at_83) rfl rfl ?_
    show Steps p.tables e below (T28.setTop (mkF m 84 #[.val (.int p1), .val (.int p2), .val (.int p3), .unset, .unset, .unset, .unset, .unset, .unset] [(.ref b1), (.ref b1)])) _
    refine XT.bipushV X28.here hx rfl (12 : Int32) (hb hby at_84) (by decide) ?_
    exact k)
  obtain ⟨T30, X30, e30, st30⟩ := getS2 X28 hx hZ hown (host := "") (Or.inl (hw _ (List.mem_of_getElem? (i := 28) rfl))) Via.refl e28 (S_SHARE_FETCH.ext O28) (g := (mkF m 86 #[.val (.int p1), .val (.int p2), .val (.int p3), .unset, .unset, .unset, .unset, .unset, .unset] [(.int (12 : Int32)), (.ref b1), (.ref b1)])) rfl (hb hby at_86)
  obtain ⟨cl31, Ar31, q31, S31, n31', H31, G31⟩ := id V28
  have hin31 : ¬ ((12 : Int32) < 0 ∨ cl31.slots.size ≤ ((12 : Int32)).toNatClampNeg) := inb_of S31 ⟨by decide, by decide⟩
  have Sto31 : Sto Z h28 b1 (.ref a_SHARE_FETCH) := Sto.ofV Ar31 q31 Ov1 (Ins.self (E_SHARE_FETCH.ext O28))
  obtain ⟨T31, h31, X31, e31, W31, st31⟩ := stR X30 hx hZ e30 Ar31 (j := (12 : Int32)) hin31 rfl Sto31 (g := (mkF m 89 #[.val (.int p1), .val (.int p2), .val (.int p3), .unset, .unset, .unset, .unset, .unset, .unset] [(.ref a_SHARE_FETCH), (.int (12 : Int32)), (.ref b1), (.ref b1)])) rfl rfl (hb hby at_89)
  have V31 : Arv Z h31 b1 k1 (.object "com/example/hursley/hursley/wire/ApiKey") (15 : Int32) [(.ref a_PRODUCE), (.ref a_FETCH), (.ref a_LIST_OFFSETS), (.ref a_METADATA), (.ref a_FIND_COORDINATOR), (.ref a_API_VERSIONS), (.ref a_CREATE_TOPICS), (.ref a_INIT_PRODUCER_ID), (.ref a_DESCRIBE_CONFIGS), (.ref a_INCREMENTAL_ALTER_CONFIGS), (.ref a_SHARE_GROUP_HEARTBEAT), (.ref a_SHARE_GROUP_DESCRIBE), (.ref a_SHARE_FETCH), .null, .null] .null := Arv.set Ar31 q31 S31 n31' H31 G31 rfl W31 12 rfl (Nat.le_of_ble_eq_true rfl)
  have O31 := own_ext_wr O28 W31 z_b1
  have N31 := Fr.snoc X31 N28 g_b1
  obtain ⟨T32, X32, e32, st32⟩ := getS2 X31 hx hZ hown (host := "") (Or.inl (hw _ (List.mem_of_getElem? (i := 30) rfl))) Via.refl e31 (S_SHARE_ACKNOWLEDGE.ext O31) (g := (mkF m 93 #[.val (.int p1), .val (.int p2), .val (.int p3), .unset, .unset, .unset, .unset, .unset, .unset] [(.int (13 : Int32)), (.ref b1), (.ref b1)])) rfl (hb hby at_93)
  obtain ⟨cl33, Ar33, q33, S33, n33', H33, G33⟩ := id V31
  have hin33 : ¬ ((13 : Int32) < 0 ∨ cl33.slots.size ≤ ((13 : Int32)).toNatClampNeg) := inb_of S33 ⟨by decide, by decide⟩
  have Sto33 : Sto Z h31 b1 (.ref a_SHARE_ACKNOWLEDGE) := Sto.ofV Ar33 q33 Ov1 (Ins.self (E_SHARE_ACKNOWLEDGE.ext O31))
  obtain ⟨T33, h33, X33, e33, W33, st33⟩ := stR X32 hx hZ e32 Ar33 (j := (13 : Int32)) hin33 rfl Sto33 (g := (mkF m 96 #[.val (.int p1), .val (.int p2), .val (.int p3), .unset, .unset, .unset, .unset, .unset, .unset] [(.ref a_SHARE_ACKNOWLEDGE), (.int (13 : Int32)), (.ref b1), (.ref b1)])) rfl rfl (hb hby at_96)
  have V33 : Arv Z h33 b1 k1 (.object "com/example/hursley/hursley/wire/ApiKey") (15 : Int32) [(.ref a_PRODUCE), (.ref a_FETCH), (.ref a_LIST_OFFSETS), (.ref a_METADATA), (.ref a_FIND_COORDINATOR), (.ref a_API_VERSIONS), (.ref a_CREATE_TOPICS), (.ref a_INIT_PRODUCER_ID), (.ref a_DESCRIBE_CONFIGS), (.ref a_INCREMENTAL_ALTER_CONFIGS), (.ref a_SHARE_GROUP_HEARTBEAT), (.ref a_SHARE_GROUP_DESCRIBE), (.ref a_SHARE_FETCH), (.ref a_SHARE_ACKNOWLEDGE), .null] .null := Arv.set Ar33 q33 S33 n33' H33 G33 rfl W33 13 rfl (Nat.le_of_ble_eq_true rfl)
  have O33 := own_ext_wr O31 W33 z_b1
  have N33 := Fr.snoc X33 N31 g_b1
  obtain ⟨T34, X34, e34, st34⟩ := getS2 X33 hx hZ hown (host := "") (Or.inl (hw _ (List.mem_of_getElem? (i := 32) rfl))) Via.refl e33 (S_DESCRIBE_SHARE_GROUP_OFFSETS.ext O33) (g := (mkF m 100 #[.val (.int p1), .val (.int p2), .val (.int p3), .unset, .unset, .unset, .unset, .unset, .unset] [(.int (14 : Int32)), (.ref b1), (.ref b1)])) rfl (hb hby at_100)
  obtain ⟨cl35, Ar35, q35, S35, n35', H35, G35⟩ := id V33
  have hin35 : ¬ ((14 : Int32) < 0 ∨ cl35.slots.size ≤ ((14 : Int32)).toNatClampNeg) := inb_of S35 ⟨by decide, by decide⟩
  have Sto35 : Sto Z h33 b1 (.ref a_DESCRIBE_SHARE_GROUP_OFFSETS) := Sto.ofV Ar35 q35 Ov1 (Ins.self (E_DESCRIBE_SHARE_GROUP_OFFSETS.ext O33))
  obtain ⟨T35, h35, X35, e35, W35, st35⟩ := stR X34 hx hZ e34 Ar35 (j := (14 : Int32)) hin35 rfl Sto35 (g := (mkF m 103 #[.val (.int p1), .val (.int p2), .val (.int p3), .unset, .unset, .unset, .unset, .unset, .unset] [(.ref a_DESCRIBE_SHARE_GROUP_OFFSETS), (.int (14 : Int32)), (.ref b1), (.ref b1)])) rfl rfl (hb hby at_103)
  have V35 : Arv Z h35 b1 k1 (.object "com/example/hursley/hursley/wire/ApiKey") (15 : Int32) [(.ref a_PRODUCE), (.ref a_FETCH), (.ref a_LIST_OFFSETS), (.ref a_METADATA), (.ref a_FIND_COORDINATOR), (.ref a_API_VERSIONS), (.ref a_CREATE_TOPICS), (.ref a_INIT_PRODUCER_ID), (.ref a_DESCRIBE_CONFIGS), (.ref a_INCREMENTAL_ALTER_CONFIGS), (.ref a_SHARE_GROUP_HEARTBEAT), (.ref a_SHARE_GROUP_DESCRIBE), (.ref a_SHARE_FETCH), (.ref a_SHARE_ACKNOWLEDGE), (.ref a_DESCRIBE_SHARE_GROUP_OFFSETS)] .null := Arv.set Ar35 q35 S35 n35' H35 G35 rfl W35 14 rfl (Nat.le_of_ble_eq_true rfl)
  have O35 := own_ext_wr O33 W35 z_b1
  have N35 := Fr.snoc X35 N33 g_b1
  obtain ⟨T36, h36, k36, X36, e36, E36, A36, st36⟩ := newP X35 hx hZ (hw _ (List.mem_of_getElem? (i := 34) rfl)) e35 (g := (mkF m 107 #[.val (.int p1), .val (.int p2), .val (.int p3), .val (.ref b1), .unset, .unset, .unset, .unset, .unset] [(.int (15 : Int32))])) rfl (hb hby at_107) rfl (by decide) (cap := 15) (by decide) (by decide) (by decide) (by decide)
  obtain ⟨b36, g36⟩ : ∃ z, z = h35.size := ⟨_, rfl⟩
  rw [← g36] at A36 st36
  have ne_b1_b36 : b1 ≠ b36 := Nat.ne_of_lt (Nat.lt_of_lt_of_le V35.lt (Nat.le_of_eq g36.symm))
  have z_b36 : h0.size ≤ b36 := Nat.le_trans O35.1 (Nat.le_of_eq g36.symm)
  have g_b36 : n0 ≤ b36 := Nat.le_trans Z0 z_b36
  have V36_b1 := V35.ext E36
  have O36 := own_ext_trans O35 E36
  have V36 : Arv Z h36 b36 k36 .int (15 : Int32) [(.int (0 : Int32)), (.int (0 : Int32)), (.int (0 : Int32)), (.int (0 : Int32)), (.int (0 : Int32)), (.int (0 : Int32)), (.int (0 : Int32)), (.int (0 : Int32)), (.int (0 : Int32)), (.int (0 : Int32)), (.int (0 : Int32)), (.int (0 : Int32)), (.int (0 : Int32)), (.int (0 : Int32)), (.int (0 : Int32))] (.int (0 : Int32)) := (Arv.new A36 (by decide)).pad (pad_rep [] (.int (0 : Int32)) 15)
  have pre37 : ∀ t, Steps p.tables e below (T36.setTop (mkF m 109 #[.val (.int p1), .val (.int p2), .val (.int p3), .val (.ref b1), .unset, .unset, .unset, .unset, .unset] [(.ref b36)])) t → Steps p.tables e below (s₁.setTop (entryFrame m #[(.int p1), (.int p2), (.int p3)] maxLocals)) t := fun t k => pre29 t (by
    show Steps p.tables e below (T28.setTop (mkF m 86 #[.val (.int p1), .val (.int p2), .val (.int p3), .unset, .unset, .unset, .unset, .unset, .unset] [(.int (12 : Int32)), (.ref b1), (.ref b1)])) _
    refine st30 _ ?_
    show Steps p.tables e below (T30.setTop (mkF m 89 #[.val (.int p1), .val (.int p2), .val (.int p3), .unset, .unset, .unset, .unset, .unset, .unset] [(.ref a_SHARE_FETCH), (.int (12 : Int32)), (.ref b1), (.ref b1)])) _
    refine st31 _ ?_
    show Steps p.tables e below (T31.setTop (mkF m 90 #[.val (.int p1), .val (.int p2), .val (.int p3), .unset, .unset, .unset, .unset, .unset, .unset] [(.ref b1)])) _
    refine XS.dup X31.here hx rfl (hb hby at_90) rfl rfl ?_
    show Steps p.tables e below (T31.setTop (mkF m 91 #[.val (.int p1), .val (.int p2), .val (.int p3), .unset, .unset, .unset, .unset, .unset, .unset] [(.ref b1), (.ref b1)])) _
    refine XT.bipushV X31.here hx rfl (13 : Int32) (hb hby at_91) (by decide) ?_
    show Steps p.tables e below (T31.setTop (mkF m 93 #[.val (.int p1), .val (.int p2), .val (.int p3), .unset, .unset, .unset, .unset, .unset, .unset] [(.int (13 : Int32)), (.ref b1), (.ref b1)])) _
    refine st32 _ ?_
    show Steps p.tables e below (T32.setTop (mkF m 96 #[.val (.int p1), .val (.int p2), .val (.int p3), .unset, .unset, .unset, .unset, .unset, .unset] [(.ref a_SHARE_ACKNOWLEDGE), (.int (13 : Int32)), (.ref b1), (.ref b1)])) _
    refine st33 _ ?_
    show Steps p.tables e below (T33.setTop (mkF m 97 #[.val (.int p1), .val (.int p2), .val (.int p3), .unset, .unset, .unset, .unset, .unset, .unset] [(.ref b1)])) _
    refine XS.dup X33.here hx rfl (hb hby at_97) rfl rfl ?_
    show Steps p.tables e below (T33.setTop (mkF m 98 #[.val (.int p1), .val (.int p2), .val (.int p3), .unset, .unset, .unset, .unset, .unset, .unset] [(.ref b1), (.ref b1)])) _
    refine XT.bipushV X33.here hx rfl (14 : Int32) (hb hby at_98) (by decide) ?_
    show Steps p.tables e below (T33.setTop (mkF m 100 #[.val (.int p1), .val (.int p2), .val (.int p3), .unset, .unset, .unset, .unset, .unset, .unset] [(.int (14 : Int32)), (.ref b1), (.ref b1)])) _
    refine st34 _ ?_
    show Steps p.tables e below (T34.setTop (mkF m 103 #[.val (.int p1), .val (.int p2), .val (.int p3), .unset, .unset, .unset, .unset, .unset, .unset] [(.ref a_DESCRIBE_SHARE_GROUP_OFFSETS), (.int (14 : Int32)), (.ref b1), (.ref b1)])) _
    refine st35 _ ?_
    show Steps p.tables e below (T35.setTop (mkF m 104 #[.val (.int p1), .val (.int p2), .val (.int p3), .unset, .unset, .unset, .unset, .unset, .unset] [(.ref b1)])) _
    refine XS.astoreN X35.here hx rfl (hb hby at_104) rfl rfl (l' := #[.val (.int p1), .val (.int p2), .val (.int p3), .val (.ref b1), .unset, .unset, .unset, .unset, .unset]) rfl ?_
    show Steps p.tables e below (T35.setTop (mkF m 105 #[.val (.int p1), .val (.int p2), .val (.int p3), .val (.ref b1), .unset, .unset, .unset, .unset, .unset] [])) _
    refine XT.bipushV X35.here hx rfl (15 : Int32) (hb hby at_105) (by decide) ?_
    show Steps p.tables e below (T35.setTop (mkF m 107 #[.val (.int p1), .val (.int p2), .val (.int p3), .val (.ref b1), .unset, .unset, .unset, .unset, .unset] [(.int (15 : Int32))])) _
    refine st36 _ ?_
    exact k)
  obtain ⟨cl38, Ar38, q38, S38, n38', H38, G38⟩ := id V36
  have hin38 : ¬ ((0 : Int32) < 0 ∨ cl38.slots.size ≤ ((0 : Int32)).toNatClampNeg) := inb_of S38 ⟨by decide, by decide⟩
  obtain ⟨T38, h38, X38, e38, W38, st38⟩ := stI X36 hx hZ e36 Ar38 (j := (0 : Int32)) hin38 (g := (mkF m 112 #[.val (.int p1), .val (.int p2), .val (.int p3), .val (.ref b1), .unset, .unset, .unset, .unset, .unset] [(.int (3 : Int32)), (.int (0 : Int32)), (.ref b36), (.ref b36)])) rfl rfl (hb hby at_112)
  have V38 : Arv Z h38 b36 k36 .int (15 : Int32) [(.int (3 : Int32)), (.int (0 : Int32)), (.int (0 : Int32)), (.int (0 : Int32)), (.int (0 : Int32)), (.int (0 : Int32)), (.int (0 : Int32)), (.int (0 : Int32)), (.int (0 : Int32)), (.int (0 : Int32)), (.int (0 : Int32)), (.int (0 : Int32)), (.int (0 : Int32)), (.int (0 : Int32)), (.int (0 : Int32))] (.int (0 : Int32)) := Arv.set Ar38 q38 S38 n38' H38 G38 rfl W38 0 rfl (Nat.le_of_ble_eq_true rfl)
  have V38_b1 := V36_b1.other W38 ne_b1_b36
  have O38 := own_ext_wr O36 W38 z_b36
  have N38 := Fr.snoc X38 N35 g_b36
  obtain ⟨cl39, Ar39, q39, S39, n39', H39, G39⟩ := id V38
  have hin39 : ¬ ((1 : Int32) < 0 ∨ cl39.slots.size ≤ ((1 : Int32)).toNatClampNeg) := inb_of S39 ⟨by decide, by decide⟩
  obtain ⟨T39, h39, X39, e39, W39, st39⟩ := stI X38 hx hZ e38 Ar39 (j := (1 : Int32)) hin39 (g := (mkF m 116 #[.val (.int p1), .val (.int p2), .val (.int p3), .val (.ref b1), .unset, .unset, .unset, .unset, .unset] [(.int (4 : Int32)), (.int (1 : Int32)), (.ref b36), (.ref b36)])) rfl rfl (hb hby at_116)
  have V39 : Arv Z h39 b36 k36 .int (15 : Int32) [(.int (3 : Int32)), (.int (4 : Int32)), (.int (0 : Int32)), (.int (0 : Int32)), (.int (0 : Int32)), (.int (0 : Int32)), (.int (0 : Int32)), (.int (0 : Int32)), (.int (0 : Int32)), (.int (0 : Int32)), (.int (0 : Int32)), (.int (0 : Int32)), (.int (0 : Int32)), (.int (0 : Int32)), (.int (0 : Int32))] (.int (0 : Int32)) := Arv.set Ar39 q39 S39 n39' H39 G39 rfl W39 1 rfl (Nat.le_of_ble_eq_true rfl)
  have V39_b1 := V38_b1.other W39 ne_b1_b36
  have O39 := own_ext_wr O38 W39 z_b36
  have N39 := Fr.snoc X39 N38 g_b36
  obtain ⟨cl40, Ar40, q40, S40, n40', H40, G40⟩ := id V39
  have hin40 : ¬ ((2 : Int32) < 0 ∨ cl40.slots.size ≤ ((2 : Int32)).toNatClampNeg) := inb_of S40 ⟨by decide, by decide⟩
  obtain ⟨T40, h40, X40, e40, W40, st40⟩ := stI X39 hx hZ e39 Ar40 (j := (2 : Int32)) hin40 (g := (mkF m 120 #[.val (.int p1), .val (.int p2), .val (.int p3), .val (.ref b1), .unset, .unset, .unset, .unset, .unset] [(.int (1 : Int32)), (.int (2 : Int32)), (.ref b36), (.ref b36)])) rfl rfl (hb hby at_120)
  have V40 : Arv Z h40 b36 k36 .int (15 : Int32) [(.int (3 : Int32)), (.int (4 : Int32)), (.int (1 : Int32)), (.int (0 : Int32)), (.int (0 : Int32)), (.int (0 : Int32)), (.int (0 : Int32)), (.int (0 : Int32)), (.int (0 : Int32)), (.int (0 : Int32)), (.int (0 : Int32)), (.int (0 : Int32)), (.int (0 : Int32)), (.int (0 : Int32)), (.int (0 : Int32))] (.int (0 : Int32)) := Arv.set Ar40 q40 S40 n40' H40 G40 rfl W40 2 rfl (Nat.le_of_ble_eq_true rfl)
  have V40_b1 := V39_b1.other W40 ne_b1_b36
  have O40 := own_ext_wr O39 W40 z_b36
  have N40 := Fr.snoc X40 N39 g_b36
  have pre41 : ∀ t, Steps p.tables e below (T40.setTop (mkF m 122 #[.val (.int p1), .val (.int p2), .val (.int p3), .val (.ref b1), .unset, .unset, .unset, .unset, .unset] [(.ref b36), (.ref b36)])) t → Steps p.tables e below (s₁.setTop (entryFrame m #[(.int p1), (.int p2), (.int p3)] maxLocals)) t := fun t k => pre37 t (by
    show Steps p.tables e below (T36.setTop (mkF m 109 #[.val (.int p1), .val (.int p2), .val (.int p3), .val (.ref b1), .unset, .unset, .unset, .unset, .unset] [(.ref b36)])) _
    refine XS.dup X36.here hx rfl (hb hby at_109) rfl rfl ?_
    show Steps p.tables e below (T36.setTop (mkF m 110 #[.val (.int p1), .val (.int p2), .val (.int p3), .val (.ref b1), .unset, .unset, .unset, .unset, .unset] [(.ref b36), (.ref b36)])) _
    refine XT.iconstV X36.here hx rfl (0 : Int32) (hb hby at_110) (by decide) ?_
    show Steps p.tables e below (T36.setTop (mkF m 111 #[.val (.int p1), .val (.int p2), .val (.int p3), .val (.ref b1), .unset, .unset, .unset, .unset, .unset] [(.int (0 : Int32)), (.ref b36), (.ref b36)])) _
    refine XT.iconstV X36.here hx rfl (3 : Int32) (hb hby at_111) (by decide) ?_
    show Steps p.tables e below (T36.setTop (mkF m 112 #[.val (.int p1), .val (.int p2), .val (.int p3), .val (.ref b1), .unset, .unset, .unset, .unset, .unset] [(.int (3 : Int32)), (.int (0 : Int32)), (.ref b36), (.ref b36)])) _
    refine st38 _ ?_
    show Steps p.tables e below (T38.setTop (mkF m 113 #[.val (.int p1), .val (.int p2), .val (.int p3), .val (.ref b1), .unset, .unset, .unset, .unset, .unset] [(.ref b36)])) _
    refine XS.dup X38.here hx rfl (hb hby at_113) rfl rfl ?_
    show Steps p.tables e below (T38.setTop (mkF m 114 #[.val (.int p1), .val (.int p2), .val (.int p3), .val (.ref b1), .unset, .unset, .unset, .unset, .unset] [(.ref b36), (.ref b36)])) _
    refine XT.iconstV X38.here hx rfl (1 : Int32) (hb hby at_114) (by decide) ?_
    show Steps p.tables e below (T38.setTop (mkF m 115 #[.val (.int p1), .val (.int p2), .val (.int p3), .val (.ref b1), .unset, .unset, .unset, .unset, .unset] [(.int (1 : Int32)), (.ref b36), (.ref b36)])) _
    refine XT.iconstV X38.here hx rfl (4 : Int32) (hb hby at_115) (by decide) ?_
    show Steps p.tables e below (T38.setTop (mkF m 116 #[.val (.int p1), .val (.int p2), .val (.int p3), .val (.ref b1), .unset, .unset, .unset, .unset, .unset] [(.int (4 : Int32)), (.int (1 : Int32)), (.ref b36), (.ref b36)])) _
    refine st39 _ ?_
    show Steps p.tables e below (T39.setTop (mkF m 117 #[.val (.int p1), .val (.int p2), .val (.int p3), .val (.ref b1), .unset, .unset, .unset, .unset, .unset] [(.ref b36)])) _
    refine XS.dup X39.here hx rfl (hb hby at_117) rfl rfl ?_
    show Steps p.tables e below (T39.setTop (mkF m 118 #[.val (.int p1), .val (.int p2), .val (.int p3), .val (.ref b1), .unset, .unset, .unset, .unset, .unset] [(.ref b36), (.ref b36)])) _
    refine XT.iconstV X39.here hx rfl (2 : Int32) (hb hby at_118) (by decide) ?_
    show Steps p.tables e below (T39.setTop (mkF m 119 #[.val (.int p1), .val (.int p2), .val (.int p3), .val (.ref b1), .unset, .unset, .unset, .unset, .unset] [(.int (2 : Int32)), (.ref b36), (.ref b36)])) _
    refine XT.iconstV X39.here hx rfl (1 : Int32) (hb hby at_119) (by decide) ?_
    show Steps p.tables e below (T39.setTop (mkF m 120 #[.val (.int p1), .val (.int p2), .val (.int p3), .val (.ref b1), .unset, .unset, .unset, .unset, .unset] [(.int (1 : Int32)), (.int (2 : Int32)), (.ref b36), (.ref b36)])) _
    refine st40 _ ?_
    show Steps p.tables e below (T40.setTop (mkF m 121 #[.val (.int p1), .val (.int p2), .val (.int p3), .val (.ref b1), .unset, .unset, .unset, .unset, .unset] [(.ref b36)])) _
    refine XS.dup X40.here hx rfl (hb hby at_121) rfl rfl ?_
    exact k)
  obtain ⟨cl42, Ar42, q42, S42, n42', H42, G42⟩ := id V40
  have hin42 : ¬ ((3 : Int32) < 0 ∨ cl42.slots.size ≤ ((3 : Int32)).toNatClampNeg) := inb_of S42 ⟨by decide, by decide⟩
  obtain ⟨T42, h42, X42, e42, W42, st42⟩ := stI X40 hx hZ e40 Ar42 (j := (3 : Int32)) hin42 (g := (mkF m 124 #[.val (.int p1), .val (.int p2), .val (.int p3), .val (.ref b1), .unset, .unset, .unset, .unset, .unset] [(.int (0 : Int32)), (.int (3 : Int32)), (.ref b36), (.ref b36)])) rfl rfl (hb hby at_124)
  have V42 : Arv Z h42 b36 k36 .int (15 : Int32) [(.int (3 : Int32)), (.int (4 : Int32)), (.int (1 : Int32)), (.int (0 : Int32)), (.int (0 : Int32)), (.int (0 : Int32)), (.int (0 : Int32)), (.int (0 : Int32)), (.int (0 : Int32)), (.int (0 : Int32)), (.int (0 : Int32)), (.int (0 : Int32)), (.int (0 : Int32)), (.int (0 : Int32)), (.int (0 : Int32))] (.int (0 : Int32)) := Arv.set Ar42 q42 S42 n42' H42 G42 rfl W42 3 rfl (Nat.le_of_ble_eq_true rfl)
  have V42_b1 := V40_b1.other W42 ne_b1_b36
  have O42 := own_ext_wr O40 W42 z_b36
  have N42 := Fr.snoc X42 N40 g_b36
  obtain ⟨cl43, Ar43, q43, S43, n43', H43, G43⟩ := id V42
  have hin43 : ¬ ((4 : Int32) < 0 ∨ cl43.slots.size ≤ ((4 : Int32)).toNatClampNeg) := inb_of S43 ⟨by decide, by decide⟩
  obtain ⟨T43, h43, X43, e43, W43, st43⟩ := stI X42 hx hZ e42 Ar43 (j := (4 : Int32)) hin43 (g := (mkF m 128 #[.val (.int p1), .val (.int p2), .val (.int p3), .val (.ref b1), .unset, .unset, .unset, .unset, .unset] [(.int (0 : Int32)), (.int (4 : Int32)), (.ref b36), (.ref b36)])) rfl rfl (hb hby at_128)
  have V43 : Arv Z h43 b36 k36 .int (15 : Int32) [(.int (3 : Int32)), (.int (4 : Int32)), (.int (1 : Int32)), (.int (0 : Int32)), (.int (0 : Int32)), (.int (0 : Int32)), (.int (0 : Int32)), (.int (0 : Int32)), (.int (0 : Int32)), (.int (0 : Int32)), (.int (0 : Int32)), (.int (0 : Int32)), (.int (0 : Int32)), (.int (0 : Int32)), (.int (0 : Int32))] (.int (0 : Int32)) := Arv.set Ar43 q43 S43 n43' H43 G43 rfl W43 4 rfl (Nat.le_of_ble_eq_true rfl)
  have V43_b1 := V42_b1.other W43 ne_b1_b36
  have O43 := own_ext_wr O42 W43 z_b36
  have N43 := Fr.snoc X43 N42 g_b36
  obtain ⟨cl44, Ar44, q44, S44, n44', H44, G44⟩ := id V43
  have hin44 : ¬ ((5 : Int32) < 0 ∨ cl44.slots.size ≤ ((5 : Int32)).toNatClampNeg) := inb_of S44 ⟨by decide, by decide⟩
  obtain ⟨T44, h44, X44, e44, W44, st44⟩ := stI X43 hx hZ e43 Ar44 (j := (5 : Int32)) hin44 (g := (mkF m 132 #[.val (.int p1), .val (.int p2), .val (.int p3), .val (.ref b1), .unset, .unset, .unset, .unset, .unset] [(.int (0 : Int32)), (.int (5 : Int32)), (.ref b36), (.ref b36)])) rfl rfl (hb hby at_132)
  have V44 : Arv Z h44 b36 k36 .int (15 : Int32) [(.int (3 : Int32)), (.int (4 : Int32)), (.int (1 : Int32)), (.int (0 : Int32)), (.int (0 : Int32)), (.int (0 : Int32)), (.int (0 : Int32)), (.int (0 : Int32)), (.int (0 : Int32)), (.int (0 : Int32)), (.int (0 : Int32)), (.int (0 : Int32)), (.int (0 : Int32)), (.int (0 : Int32)), (.int (0 : Int32))] (.int (0 : Int32)) := Arv.set Ar44 q44 S44 n44' H44 G44 rfl W44 5 rfl (Nat.le_of_ble_eq_true rfl)
  have V44_b1 := V43_b1.other W44 ne_b1_b36
  have O44 := own_ext_wr O43 W44 z_b36
  have N44 := Fr.snoc X44 N43 g_b36
  have pre45 : ∀ t, Steps p.tables e below (T44.setTop (mkF m 136 #[.val (.int p1), .val (.int p2), .val (.int p3), .val (.ref b1), .unset, .unset, .unset, .unset, .unset] [(.int (6 : Int32)), (.ref b36), (.ref b36)])) t → Steps p.tables e below (s₁.setTop (entryFrame m #[(.int p1), (.int p2), (.int p3)] maxLocals)) t := fun t k => pre41 t (by
    show Steps p.tables e below (T40.setTop (mkF m 122 #[.val (.int p1), .val (.int p2), .val (.int p3), .val (.ref b1), .unset, .unset, .unset, .unset, .unset] [(.ref b36), (.ref b36)])) _
    refine XT.iconstV X40.here hx rfl (3 : Int32) (hb hby at_122) (by decide) ?_
    show Steps p.tables e below (T40.setTop (mkF m 123 #[.val (.int p1), .val (.int p2), .val (.int p3), .val (.ref b1), .unset, .unset, .unset, .unset, .unset] [(.int (3 : Int32)), (.ref b36), (.ref b36)])) _
    refine XT.iconstV X40.here hx rfl (0 : Int32) (hb hby at_123) (by decide) ?_
    show Steps p.tables e below (T40.setTop (mkF m 124 #[.val (.int p1), .val (.int p2), .val (.int p3), .val (.ref b1), .unset, .unset, .unset, .unset, .unset] [(.int (0 : Int32)), (.int (3 : Int32)), (.ref b36), (.ref b36)])) _
    refine st42 _ ?_
    show Steps p.tables e below (T42.setTop (mkF m 125 #[.val (.int p1), .val (.int p2), .val (.int p3), .val (.ref b1), .unset, .unset, .unset, .unset, .unset] [(.ref b36)])) _
    refine XS.dup X42.here hx rfl (hb hby at_125) rfl rfl ?_
    show Steps p.tables e below (T42.setTop (mkF m 126 #[.val (.int p1), .val (.int p2), .val (.int p3), .val (.ref b1), .unset, .unset, .unset, .unset, .unset] [(.ref b36), (.ref b36)])) _
    refine XT.iconstV X42.here hx rfl (4 : Int32) (hb hby at_126) (by decide) ?_
    show Steps p.tables e below (T42.setTop (mkF m 127 #[.val (.int p1), .val (.int p2), .val (.int p3), .val (.ref b1), .unset, .unset, .unset, .unset, .unset] [(.int (4 : Int32)), (.ref b36), (.ref b36)])) _
    refine XT.iconstV X42.here hx rfl (0 : Int32) (hb hby at_127) (by decide) ?_
    show Steps p.tables e below (T42.setTop (mkF m 128 #[.val (.int p1), .val (.int p2), .val (.int p3), .val (.ref b1), .unset, .unset, .unset, .unset, .unset] [(.int (0 : Int32)), (.int (4 : Int32)), (.ref b36), (.ref b36)])) _
    refine st43 _ ?_
    show Steps p.tables e below (T43.setTop (mkF m 129 #[.val (.int p1), .val (.int p2), .val (.int p3), .val (.ref b1), .unset, .unset, .unset, .unset, .unset] [(.ref b36)])) _
    refine XS.dup X43.here hx rfl (hb hby at_129) rfl rfl ?_
    show Steps p.tables e below (T43.setTop (mkF m 130 #[.val (.int p1), .val (.int p2), .val (.int p3), .val (.ref b1), .unset, .unset, .unset, .unset, .unset] [(.ref b36), (.ref b36)])) _
    refine XT.iconstV X43.here hx rfl (5 : Int32) (hb hby at_130) (by decide) ?_
    show Steps p.tables e below (T43.setTop (mkF m 131 #[.val (.int p1), .val (.int p2), .val (.int p3), .val (.ref b1), .unset, .unset, .unset, .unset, .unset] [(.int (5 : Int32)), (.ref b36), (.ref b36)])) _
    refine XT.iconstV X43.here hx rfl (0 : Int32) (hb hby at_131) (by decide) ?_
    show Steps p.tables e below (T43.setTop (mkF m 132 #[.val (.int p1), .val (.int p2), .val (.int p3), .val (.ref b1), .unset, .unset, .unset, .unset, .unset] [(.int (0 : Int32)), (.int (5 : Int32)), (.ref b36), (.ref b36)])) _
    refine st44 _ ?_
    show Steps p.tables e below (T44.setTop (mkF m 133 #[.val (.int p1), .val (.int p2), .val (.int p3), .val (.ref b1), .unset, .unset, .unset, .unset, .unset] [(.ref b36)])) _
    refine XS.dup X44.here hx rfl (hb hby at_133) rfl rfl ?_
    show Steps p.tables e below (T44.setTop (mkF m 134 #[.val (.int p1), .val (.int p2), .val (.int p3), .val (.ref b1), .unset, .unset, .unset, .unset, .unset] [(.ref b36), (.ref b36)])) _
    refine XT.bipushV X44.here hx rfl (6 : Int32) (hb hby at_134) (by decide) ?_
    exact k)
  obtain ⟨cl46, Ar46, q46, S46, n46', H46, G46⟩ := id V44
  have hin46 : ¬ ((6 : Int32) < 0 ∨ cl46.slots.size ≤ ((6 : Int32)).toNatClampNeg) := inb_of S46 ⟨by decide, by decide⟩
  obtain ⟨T46, h46, X46, e46, W46, st46⟩ := stI X44 hx hZ e44 Ar46 (j := (6 : Int32)) hin46 (g := (mkF m 137 #[.val (.int p1), .val (.int p2), .val (.int p3), .val (.ref b1), .unset, .unset, .unset, .unset, .unset] [(.int (2 : Int32)), (.int (6 : Int32)), (.ref b36), (.ref b36)])) rfl rfl (hb hby at_137)
  have V46 : Arv Z h46 b36 k36 .int (15 : Int32) [(.int (3 : Int32)), (.int (4 : Int32)), (.int (1 : Int32)), (.int (0 : Int32)), (.int (0 : Int32)), (.int (0 : Int32)), (.int (2 : Int32)), (.int (0 : Int32)), (.int (0 : Int32)), (.int (0 : Int32)), (.int (0 : Int32)), (.int (0 : Int32)), (.int (0 : Int32)), (.int (0 : Int32)), (.int (0 : Int32))] (.int (0 : Int32)) := Arv.set Ar46 q46 S46 n46' H46 G46 rfl W46 6 rfl (Nat.le_of_ble_eq_true rfl)
  have V46_b1 := V44_b1.other W46 ne_b1_b36
  have O46 := own_ext_wr O44 W46 z_b36
  have N46 := Fr.snoc X46 N44 g_b36
  obtain ⟨cl47, Ar47, q47, S47, n47', H47, G47⟩ := id V46
  have hin47 : ¬ ((7 : Int32) < 0 ∨ cl47.slots.size ≤ ((7 : Int32)).toNatClampNeg) := inb_of S47 ⟨by decide, by decide⟩
  obtain ⟨T47, h47, X47, e47, W47, st47⟩ := stI X46 hx hZ e46 Ar47 (j := (7 : Int32)) hin47 (g := (mkF m 142 #[.val (.int p1), .val (.int p2), .val (.int p3), .val (.ref b1), .unset, .unset, .unset, .unset, .unset] [(.int (0 : Int32)), (.int (7 : Int32)), (.ref b36), (.ref b36)])) rfl rfl (hb hby at_142)
  have V47 : Arv Z h47 b36 k36 .int (15 : Int32) [(.int (3 : Int32)), (.int (4 : Int32)), (.int (1 : Int32)), (.int (0 : Int32)), (.int (0 : Int32)), (.int (0 : Int32)), (.int (2 : Int32)), (.int (0 : Int32)), (.int (0 : Int32)), (.int (0 : Int32)), (.int (0 : Int32)), (.int (0 : Int32)), (.int (0 : Int32)), (.int (0 : Int32)), (.int (0 : Int32))] (.int (0 : Int32)) := Arv.set Ar47 q47 S47 n47' H47 G47 rfl W47 7 rfl (Nat.le_of_ble_eq_true rfl)
  have V47_b1 := V46_b1.other W47 ne_b1_b36
  have O47 := own_ext_wr O46 W47 z_b36
  have N47 := Fr.snoc X47 N46 g_b36
  obtain ⟨cl48, Ar48, q48, S48, n48', H48, G48⟩ := id V47
  have hin48 : ¬ ((8 : Int32) < 0 ∨ cl48.slots.size ≤ ((8 : Int32)).toNatClampNeg) := inb_of S48 ⟨by decide, by decide⟩
  obtain ⟨T48, h48, X48, e48, W48, st48⟩ := stI X47 hx hZ e47 Ar48 (j := (8 : Int32)) hin48 (g := (mkF m 147 #[.val (.int p1), .val (.int p2), .val (.int p3), .val (.ref b1), .unset, .unset, .unset, .unset, .unset] [(.int (1 : Int32)), (.int (8 : Int32)), (.ref b36), (.ref b36)])) rfl rfl (hb hby at_147)
  have V48 : Arv Z h48 b36 k36 .int (15 : Int32) [(.int (3 : Int32)), (.int (4 : Int32)), (.int (1 : Int32)), (.int (0 : Int32)), (.int (0 : Int32)), (.int (0 : Int32)), (.int (2 : Int32)), (.int (0 : Int32)), (.int (1 : Int32)), (.int (0 : Int32)), (.int (0 : Int32)), (.int (0 : Int32)), (.int (0 : Int32)), (.int (0 : Int32)), (.int (0 : Int32))] (.int (0 : Int32)) := Arv.set Ar48 q48 S48 n48' H48 G48 rfl W48 8 rfl (Nat.le_of_ble_eq_true rfl)
  have V48_b1 := V47_b1.other W48 ne_b1_b36
  have O48 := own_ext_wr O47 W48 z_b36
  have N48 := Fr.snoc X48 N47 g_b36
  have pre49 : ∀ t, Steps p.tables e below (T48.setTop (mkF m 152 #[.val (.int p1), .val (.int p2), .val (.int p3), .val (.ref b1), .unset, .unset, .unset, .unset, .unset] [(.int (0 : Int32)), (.int (9 : Int32)), (.ref b36), (.ref b36)])) t → Steps p.tables e below (s₁.setTop (entryFrame m #[(.int p1), (.int p2), (.int p3)] maxLocals)) t := fun t k => pre45 t (by
    show Steps p.tables e below (T44.setTop (mkF m 136 #[.val (.int p1), .val (.int p2), .val (.int p3), .val (.ref b1), .unset, .unset, .unset, .unset, .unset] [(.int (6 : Int32)), (.ref b36), (.ref b36)])) _
    refine XT.iconstV X44.here hx rfl (2 : Int32) (hb hby at_136) (by decide) ?_
    show Steps p.tables e below (T44.setTop (mkF m 137 #[.val (.int p1), .val (.int p2), .val (.int p3), .val (.ref b1), .unset, .unset, .unset, .unset, .unset] [(.int (2 : Int32)), (.int (6 : Int32)), (.ref b36), (.ref b36)])) _
    refine st46 _ ?_
    show Steps p.tables e below (T46.setTop (mkF m 138 #[.val (.int p1), .val (.int p2), .val (.int p3), .val (.ref b1), .unset, .unset, .unset, .unset, .unset] [(.ref b36)])) _
    refine XS.dup X46.here hx rfl (hb hby at_138) rfl rfl ?_
    show Steps p.tables e below (T46.setTop (mkF m 139 #[.val (.int p1), .val (.int p2), .val (.int p3), .val (.ref b1), .unset, .unset, .unset, .unset, .unset] [(.ref b36), (.ref b36)])) _
    refine XT.bipushV X46.here hx rfl (7 : Int32) (hb hby at_139) (by decide) ?_
    show Steps p.tables e below (T46.setTop (mkF m 141 #[.val (.int p1), .val (.int p2), .val (.int p3), .val (.ref b1), .unset, .unset, .unset, .unset, .unset] [(.int (7 : Int32)), (.ref b36), (.ref b36)])) _
    refine XT.iconstV X46.here hx rfl (0 : Int32) (hb hby at_141) (by decide) ?_
    show Steps p.tables e below (T46.setTop (mkF m 142 #[.val (.int p1), .val (.int p2), .val (.int p3), .val (.ref b1), .unset, .unset, .unset, .unset, .unset] [(.int (0 : Int32)), (.int (7 : Int32)), (.ref b36), (.ref b36)])) _
    refine st47 _ ?_
    show Steps p.tables e below (T47.setTop (mkF m 143 #[.val (.int p1), .val (.int p2), .val (.int p3), .val (.ref b1), .unset, .unset, .unset, .unset, .unset] [(.ref b36)])) _
    refine XS.dup X47.here hx rfl (hb hby at_143) rfl rfl ?_
    show Steps p.tables e below (T47.setTop (mkF m 144 #[.val (.int p1), .val (.int p2), .val (.int p3), .val (.ref b1), .unset, .unset, .unset, .unset, .unset] [(.ref b36), (.ref b36)])) _
    refine XT.bipushV X47.here hx rfl (8 : Int32) (hb hby at_144) (by decide) ?_
    show Steps p.tables e below (T47.setTop (mkF m 146 #[.val (.int p1), .val (.int p2), .val (.int p3), .val (.ref b1), .unset, .unset, .unset, .unset, .unset] [(.int (8 : Int32)), (.ref b36), (.ref b36)])) _
    refine XT.iconstV X47.here hx rfl (1 : Int32) (hb hby at_146) (by decide) ?_
    show Steps p.tables e below (T47.setTop (mkF m 147 #[.val (.int p1), .val (.int p2), .val (.int p3), .val (.ref b1), .unset, .unset, .unset, .unset, .unset] [(.int (1 : Int32)), (.int (8 : Int32)), (.ref b36), (.ref b36)])) _
    refine st48 _ ?_
    show Steps p.tables e below (T48.setTop (mkF m 148 #[.val (.int p1), .val (.int p2), .val (.int p3), .val (.ref b1), .unset, .unset, .unset, .unset, .unset] [(.ref b36)])) _
    refine XS.dup X48.here hx rfl (hb hby at_148) rfl rfl ?_
    show Steps p.tables e below (T48.setTop (mkF m 149 #[.val (.int p1), .val (.int p2), .val (.int p3), .val (.ref b1), .unset, .unset, .unset, .unset, .unset] [(.ref b36), (.ref b36)])) _
    refine XT.bipushV X48.here hx rfl (9 : Int32) (hb hby at_149) (by decide) ?_
    show Steps p.tables e below (T48.setTop (mkF m 151 #[.val (.int p1), .val (.int p2), .val (.int p3), .val (.ref b1), .unset, .unset, .unset, .unset, .unset] [(.int (9 : Int32)), (.ref b36), (.ref b36)])) _
    refine XT.iconstV X48.here hx rfl (0 : Int32) (hb hby at_151) (by decide) ?_
    exact k)
  obtain ⟨cl50, Ar50, q50, S50, n50', H50, G50⟩ := id V48
  have hin50 : ¬ ((9 : Int32) < 0 ∨ cl50.slots.size ≤ ((9 : Int32)).toNatClampNeg) := inb_of S50 ⟨by decide, by decide⟩
  obtain ⟨T50, h50, X50, e50, W50, st50⟩ := stI X48 hx hZ e48 Ar50 (j := (9 : Int32)) hin50 (g := (mkF m 152 #[.val (.int p1), .val (.int p2), .val (.int p3), .val (.ref b1), .unset, .unset, .unset, .unset, .unset] [(.int (0 : Int32)), (.int (9 : Int32)), (.ref b36), (.ref b36)])) rfl rfl (hb hby at_152)
  have V50 : Arv Z h50 b36 k36 .int (15 : Int32) [(.int (3 : Int32)), (.int (4 : Int32)), (.int (1 : Int32)), (.int (0 : Int32)), (.int (0 : Int32)), (.int (0 : Int32)), (.int (2 : Int32)), (.int (0 : Int32)), (.int (1 : Int32)), (.int (0 : Int32)), (.int (0 : Int32)), (.int (0 : Int32)), (.int (0 : Int32)), (.int (0 : Int32)), (.int (0 : Int32))] (.int (0 : Int32)) := Arv.set Ar50 q50 S50 n50' H50 G50 rfl W50 9 rfl (Nat.le_of_ble_eq_true rfl)
  have V50_b1 := V48_b1.other W50 ne_b1_b36
  have O50 := own_ext_wr O48 W50 z_b36
  have N50 := Fr.snoc X50 N48 g_b36
  obtain ⟨cl51, Ar51, q51, S51, n51', H51, G51⟩ := id V50
  have hin51 : ¬ ((10 : Int32) < 0 ∨ cl51.slots.size ≤ ((10 : Int32)).toNatClampNeg) := inb_of S51 ⟨by decide, by decide⟩
  obtain ⟨T51, h51, X51, e51, W51, st51⟩ := stI X50 hx hZ e50 Ar51 (j := (10 : Int32)) hin51 (g := (mkF m 157 #[.val (.int p1), .val (.int p2), .val (.int p3), .val (.ref b1), .unset, .unset, .unset, .unset, .unset] [(.int (1 : Int32)), (.int (10 : Int32)), (.ref b36), (.ref b36)])) rfl rfl (hb hby at_157)
  have V51 : Arv Z h51 b36 k36 .int (15 : Int32) [(.int (3 : Int32)), (.int (4 : Int32)), (.int (1 : Int32)), (.int (0 : Int32)), (.int (0 : Int32)), (.int (0 : Int32)), (.int (2 : Int32)), (.int (0 : Int32)), (.int (1 : Int32)), (.int (0 : Int32)), (.int (1 : Int32)), (.int (0 : Int32)), (.int (0 : Int32)), (.int (0 : Int32)), (.int (0 : Int32))] (.int (0 : Int32)) := Arv.set Ar51 q51 S51 n51' H51 G51 rfl W51 10 rfl (Nat.le_of_ble_eq_true rfl)
  have V51_b1 := V50_b1.other W51 ne_b1_b36
  have O51 := own_ext_wr O50 W51 z_b36
  have N51 := Fr.snoc X51 N50 g_b36
  obtain ⟨cl52, Ar52, q52, S52, n52', H52, G52⟩ := id V51
  have hin52 : ¬ ((11 : Int32) < 0 ∨ cl52.slots.size ≤ ((11 : Int32)).toNatClampNeg) := inb_of S52 ⟨by decide, by decide⟩
  obtain ⟨T52, h52, X52, e52, W52, st52⟩ := stI X51 hx hZ e51 Ar52 (j := (11 : Int32)) hin52 (g := (mkF m 162 #[.val (.int p1), .val (.int p2), .val (.int p3), .val (.ref b1), .unset, .unset, .unset, .unset, .unset] [(.int (1 : Int32)), (.int (11 : Int32)), (.ref b36), (.ref b36)])) rfl rfl (hb hby at_162)
  have V52 : Arv Z h52 b36 k36 .int (15 : Int32) [(.int (3 : Int32)), (.int (4 : Int32)), (.int (1 : Int32)), (.int (0 : Int32)), (.int (0 : Int32)), (.int (0 : Int32)), (.int (2 : Int32)), (.int (0 : Int32)), (.int (1 : Int32)), (.int (0 : Int32)), (.int (1 : Int32)), (.int (1 : Int32)), (.int (0 : Int32)), (.int (0 : Int32)), (.int (0 : Int32))] (.int (0 : Int32)) := Arv.set Ar52 q52 S52 n52' H52 G52 rfl W52 11 rfl (Nat.le_of_ble_eq_true rfl)
  have V52_b1 := V51_b1.other W52 ne_b1_b36
  have O52 := own_ext_wr O51 W52 z_b36
  have N52 := Fr.snoc X52 N51 g_b36
  obtain ⟨cl53, Ar53, q53, S53, n53', H53, G53⟩ := id V52
  have hin53 : ¬ ((12 : Int32) < 0 ∨ cl53.slots.size ≤ ((12 : Int32)).toNatClampNeg) := inb_of S53 ⟨by decide, by decide⟩
  obtain ⟨T53, h53, X53, e53, W53, st53⟩ := stI X52 hx hZ e52 Ar53 (j := (12 : Int32)) hin53 (g := (mkF m 167 #[.val (.int p1), .val (.int p2), .val (.int p3), .val (.ref b1), .unset, .unset, .unset, .unset, .unset] [(.int (1 : Int32)), (.int (12 : Int32)), (.ref b36), (.ref b36)])) rfl rfl (hb hby at_167)
  have V53 : Arv Z h53 b36 k36 .int (15 : Int32) [(.int (3 : Int32)), (.int (4 : Int32)), (.int (1 : Int32)), (.int (0 : Int32)), (.int (0 : Int32)), (.int (0 : Int32)), (.int (2 : Int32)), (.int (0 : Int32)), (.int (1 : Int32)), (.int (0 : Int32)), (.int (1 : Int32)), (.int (1 : Int32)), (.int (1 : Int32)), (.int (0 : Int32)), (.int (0 : Int32))] (.int (0 : Int32)) := Arv.set Ar53 q53 S53 n53' H53 G53 rfl W53 12 rfl (Nat.le_of_ble_eq_true rfl)
  have V53_b1 := V52_b1.other W53 ne_b1_b36
  have O53 := own_ext_wr O52 W53 z_b36
  have N53 := Fr.snoc X53 N52 g_b36
  have pre54 : ∀ t, Steps p.tables e below (T53.setTop (mkF m 168 #[.val (.int p1), .val (.int p2), .val (.int p3), .val (.ref b1), .unset, .unset, .unset, .unset, .unset] [(.ref b36)])) t → Steps p.tables e below (s₁.setTop (entryFrame m #[(.int p1), (.int p2), (.int p3)] maxLocals)) t := fun t k => pre49 t (by
    show Steps p.tables e below (T48.setTop (mkF m 152 #[.val (.int p1), .val (.int p2), .val (.int p3), .val (.ref b1), .unset, .unset, .unset, .unset, .unset] [(.int (0 : Int32)), (.int (9 : Int32)), (.ref b36), (.ref b36)])) _
    refine st50 _ ?_
    show Steps p.tables e below (T50.setTop (mkF m 153 #[.val (.int p1), .val (.int p2), .val (.int p3), .val (.ref b1), .unset, .unset, .unset, .unset, .unset] [(.ref b36)])) _
    refine XS.dup X50.here hx rfl (hb hby at_153) rfl rfl ?_
    show Steps p.tables e below (T50.setTop (mkF m 154 #[.val (.int p1), .val (.int p2), .val (.int p3), .val (.ref b1), .unset, .unset, .unset, .unset, .unset] [(.ref b36), (.ref b36)])) _
    refine XT.bipushV X50.here hx rfl (10 : Int32) (hb hby at_154) (by decide) ?_
    show Steps p.tables e below (T50.setTop (mkF m 156 #[.val (.int p1), .val (.int p2), .val (.int p3), .val (.ref b1), .unset, .unset, .unset, .unset, .unset] [(.int (10 : Int32)), (.ref b36), (.ref b36)])) _
    refine XT.iconstV X50.here hx rfl (1 : Int32) (hb hby at_156) (by decide) ?_
    show Steps p.tables e below (T50.setTop (mkF m 157 #[.val (.int p1), .val (.int p2), .val (.int p3), .val (.ref b1), .unset, .unset, .unset, .unset, .unset] [(.int (1 : Int32)), (.int (10 : Int32)), (.ref b36), (.ref b36)])) _
    refine st51 _ ?_
    show Steps p.tables e below (T51.setTop (mkF m 158 #[.val (.int p1), .val (.int p2), .val (.int p3), .val (.ref b1), .unset, .unset, .unset, .unset, .unset] [(.ref b36)])) _
    refine XS.dup X51.here hx rfl (hb hby at_158) rfl rfl ?_
    show Steps p.tables e below (T51.setTop (mkF m 159 #[.val (.int p1), .val (.int p2), .val (.int p3), .val (.ref b1), .unset, .unset, .unset, .unset, .unset] [(.ref b36), (.ref b36)])) _
    refine XT.bipushV X51.here hx rfl (11 : Int32) (hb hby at_159) (by decide) ?_
    show Steps p.tables e below (T51.setTop (mkF m 161 #[.val (.int p1), .val (.int p2), .val (.int p3), .val (.ref b1), .unset, .unset, .unset, .unset, .unset] [(.int (11 : Int32)), (.ref b36), (.ref b36)])) _
    refine XT.iconstV X51.here hx rfl (1 : Int32) (hb hby at_161) (by decide) ?_
    show Steps p.tables e below (T51.setTop (mkF m 162 #[.val (.int p1), .val (.int p2), .val (.int p3), .val (.ref b1), .unset, .unset, .unset, .unset, .unset] [(.int (1 : Int32)), (.int (11 : Int32)), (.ref b36), (.ref b36)])) _
    refine st52 _ ?_
    show Steps p.tables e below (T52.setTop (mkF m 163 #[.val (.int p1), .val (.int p2), .val (.int p3), .val (.ref b1), .unset, .unset, .unset, .unset, .unset] [(.ref b36)])) _
    refine XS.dup X52.here hx rfl (hb hby at_163) rfl rfl ?_
    show Steps p.tables e below (T52.setTop (mkF m 164 #[.val (.int p1), .val (.int p2), .val (.int p3), .val (.ref b1), .unset, .unset, .unset, .unset, .unset] [(.ref b36), (.ref b36)])) _
    refine XT.bipushV X52.here hx rfl (12 : Int32) (hb hby at_164) (by decide) ?_
    show Steps p.tables e below (T52.setTop (mkF m 166 #[.val (.int p1), .val (.int p2), .val (.int p3), .val (.ref b1), .unset, .unset, .unset, .unset, .unset] [(.int (12 : Int32)), (.ref b36), (.ref b36)])) _
    refine XT.iconstV X52.here hx rfl (1 : Int32) (hb hby at_166) (by decide) ?_
    show Steps p.tables e below (T52.setTop (mkF m 167 #[.val (.int p1), .val (.int p2), .val (.int p3), .val (.ref b1), .unset, .unset, .unset, .unset, .unset] [(.int (1 : Int32)), (.int (12 : Int32)), (.ref b36), (.ref b36)])) _
    refine st53 _ ?_
    exact k)
  obtain ⟨cl55, Ar55, q55, S55, n55', H55, G55⟩ := id V53
  have hin55 : ¬ ((13 : Int32) < 0 ∨ cl55.slots.size ≤ ((13 : Int32)).toNatClampNeg) := inb_of S55 ⟨by decide, by decide⟩
  obtain ⟨T55, h55, X55, e55, W55, st55⟩ := stI X53 hx hZ e53 Ar55 (j := (13 : Int32)) hin55 (g := (mkF m 172 #[.val (.int p1), .val (.int p2), .val (.int p3), .val (.ref b1), .unset, .unset, .unset, .unset, .unset] [(.int (1 : Int32)), (.int (13 : Int32)), (.ref b36), (.ref b36)])) rfl rfl (hb hby at_172)
  have V55 : Arv Z h55 b36 k36 .int (15 : Int32) [(.int (3 : Int32)), (.int (4 : Int32)), (.int (1 : Int32)), (.int (0 : Int32)), (.int (0 : Int32)), (.int (0 : Int32)), (.int (2 : Int32)), (.int (0 : Int32)), (.int (1 : Int32)), (.int (0 : Int32)), (.int (1 : Int32)), (.int (1 : Int32)), (.int (1 : Int32)), (.int (1 : Int32)), (.int (0 : Int32))] (.int (0 : Int32)) := Arv.set Ar55 q55 S55 n55' H55 G55 rfl W55 13 rfl (Nat.le_of_ble_eq_true rfl)
  have V55_b1 := V53_b1.other W55 ne_b1_b36
  have O55 := own_ext_wr O53 W55 z_b36
  have N55 := Fr.snoc X55 N53 g_b36
  obtain ⟨cl56, Ar56, q56, S56, n56', H56, G56⟩ := id V55
  have hin56 : ¬ ((14 : Int32) < 0 ∨ cl56.slots.size ≤ ((14 : Int32)).toNatClampNeg) := inb_of S56 ⟨by decide, by decide⟩
  obtain ⟨T56, h56, X56, e56, W56, st56⟩ := stI X55 hx hZ e55 Ar56 (j := (14 : Int32)) hin56 (g := (mkF m 177 #[.val (.int p1), .val (.int p2), .val (.int p3), .val (.ref b1), .unset, .unset, .unset, .unset, .unset] [(.int (0 : Int32)), (.int (14 : Int32)), (.ref b36), (.ref b36)])) rfl rfl (hb hby at_177)
  have V56 : Arv Z h56 b36 k36 .int (15 : Int32) [(.int (3 : Int32)), (.int (4 : Int32)), (.int (1 : Int32)), (.int (0 : Int32)), (.int (0 : Int32)), (.int (0 : Int32)), (.int (2 : Int32)), (.int (0 : Int32)), (.int (1 : Int32)), (.int (0 : Int32)), (.int (1 : Int32)), (.int (1 : Int32)), (.int (1 : Int32)), (.int (1 : Int32)), (.int (0 : Int32))] (.int (0 : Int32)) := Arv.set Ar56 q56 S56 n56' H56 G56 rfl W56 14 rfl (Nat.le_of_ble_eq_true rfl)
  have V56_b1 := V55_b1.other W56 ne_b1_b36
  have O56 := own_ext_wr O55 W56 z_b36
  have N56 := Fr.snoc X56 N55 g_b36
  obtain ⟨T57, h57, k57, X57, e57, E57, A57, st57⟩ := newP X56 hx hZ (hw _ (List.mem_of_getElem? (i := 34) rfl)) e56 (g := (mkF m 182 #[.val (.int p1), .val (.int p2), .val (.int p3), .val (.ref b1), .val (.ref b36), .unset, .unset, .unset, .unset] [(.int (15 : Int32))])) rfl (hb hby at_182) rfl (by decide) (cap := 15) (by decide) (by decide) (by decide) (by decide)
  obtain ⟨b57, g57⟩ : ∃ z, z = h56.size := ⟨_, rfl⟩
  rw [← g57] at A57 st57
  have ne_b1_b57 : b1 ≠ b57 := Nat.ne_of_lt (Nat.lt_of_lt_of_le V56_b1.lt (Nat.le_of_eq g57.symm))
  have ne_b36_b57 : b36 ≠ b57 := Nat.ne_of_lt (Nat.lt_of_lt_of_le V56.lt (Nat.le_of_eq g57.symm))
  have z_b57 : h0.size ≤ b57 := Nat.le_trans O56.1 (Nat.le_of_eq g57.symm)
  have g_b57 : n0 ≤ b57 := Nat.le_trans Z0 z_b57
  have V57_b1 := V56_b1.ext E57
  have V57_b36 := V56.ext E57
  have O57 := own_ext_trans O56 E57
  have V57 : Arv Z h57 b57 k57 .int (15 : Int32) [(.int (0 : Int32)), (.int (0 : Int32)), (.int (0 : Int32)), (.int (0 : Int32)), (.int (0 : Int32)), (.int (0 : Int32)), (.int (0 : Int32)), (.int (0 : Int32)), (.int (0 : Int32)), (.int (0 : Int32)), (.int (0 : Int32)), (.int (0 : Int32)), (.int (0 : Int32)), (.int (0 : Int32)), (.int (0 : Int32))] (.int (0 : Int32)) := (Arv.new A57 (by decide)).pad (pad_rep [] (.int (0 : Int32)) 15)
  have pre58 : ∀ t, Steps p.tables e below (T57.setTop (mkF m 186 #[.val (.int p1), .val (.int p2), .val (.int p3), .val (.ref b1), .val (.ref b36), .unset, .unset, .unset, .unset] [(.int (0 : Int32)), (.ref b57), (.ref b57)])) t → Steps p.tables e below (s₁.setTop (entryFrame m #[(.int p1), (.int p2), (.int p3)] maxLocals)) t := fun t k => pre54 t (by
    show Steps p.tables e below (T53.setTop (mkF m 168 #[.val (.int p1), .val (.int p2), .val (.int p3), .val (.ref b1), .unset, .unset, .unset, .unset, .unset] [(.ref b36)])) _
    refine XS.dup X53.here hx rfl (hb hby at_168) rfl rfl ?_
    show Steps p.tables e below (T53.setTop (mkF m 169 #[.val (.int p1), .val (.int p2), .val (.int p3), .val (.ref b1), .unset, .unset, .unset, .unset, .unset] [(.ref b36), (.ref b36)])) _
    refine XT.bipushV X53.here hx rfl (13 : Int32) (hb hby at_169) (by decide) ?_
    show Steps p.tables e below (T53.setTop (mkF m 171 #[.val (.int p1), .val (.int p2), .val (.int p3), .val (.ref b1), .unset, .unset, .unset, .unset, .unset] [(.int (13 : Int32)), (.ref b36), (.ref b36)])) _
    refine XT.iconstV X53.here hx rfl (1 : Int32) (hb hby at_171) (by decide) ?_
    show Steps p.tables e below (T53.setTop (mkF m 172 #[.val (.int p1), .val (.int p2), .val (.int p3), .val (.ref b1), .unset, .unset, .unset, .unset, .unset] [(.int (1 : Int32)), (.int (13 : Int32)), (.ref b36), (.ref b36)])) _
    refine st55 _ ?_
    show Steps p.tables e below (T55.setTop (mkF m 173 #[.val (.int p1), .val (.int p2), .val (.int p3), .val (.ref b1), .unset, .unset, .unset, .unset, .unset] [(.ref b36)])) _
    refine XS.dup X55.here hx rfl (hb hby at_173) rfl rfl ?_
    show Steps p.tables e below (T55.setTop (mkF m 174 #[.val (.int p1), .val (.int p2), .val (.int p3), .val (.ref b1), .unset, .unset, .unset, .unset, .unset] [(.ref b36), (.ref b36)])) _
    refine XT.bipushV X55.here hx rfl (14 : Int32) (hb hby at_174) (by decide) ?_
    show Steps p.tables e below (T55.setTop (mkF m 176 #[.val (.int p1), .val (.int p2), .val (.int p3), .val (.ref b1), .unset, .unset, .unset, .unset, .unset] [(.int (14 : Int32)), (.ref b36), (.ref b36)])) _
    refine XT.iconstV X55.here hx rfl (0 : Int32) (hb hby at_176) (by decide) ?_
    show Steps p.tables e below (T55.setTop (mkF m 177 #[.val (.int p1), .val (.int p2), .val (.int p3), .val (.ref b1), .unset, .unset, .unset, .unset, .unset] [(.int (0 : Int32)), (.int (14 : Int32)), (.ref b36), (.ref b36)])) _
    refine st56 _ ?_
    show Steps p.tables e below (T56.setTop (mkF m 178 #[.val (.int p1), .val (.int p2), .val (.int p3), .val (.ref b1), .unset, .unset, .unset, .unset, .unset] [(.ref b36)])) _
    refine XS.astore X56.here hx rfl (hb hby at_178) rfl rfl (l' := #[.val (.int p1), .val (.int p2), .val (.int p3), .val (.ref b1), .val (.ref b36), .unset, .unset, .unset, .unset]) rfl ?_
    show Steps p.tables e below (T56.setTop (mkF m 180 #[.val (.int p1), .val (.int p2), .val (.int p3), .val (.ref b1), .val (.ref b36), .unset, .unset, .unset, .unset] [])) _
    refine XT.bipushV X56.here hx rfl (15 : Int32) (hb hby at_180) (by decide) ?_
    show Steps p.tables e below (T56.setTop (mkF m 182 #[.val (.int p1), .val (.int p2), .val (.int p3), .val (.ref b1), .val (.ref b36), .unset, .unset, .unset, .unset] [(.int (15 : Int32))])) _
    refine st57 _ ?_
    show Steps p.tables e below (T57.setTop (mkF m 184 #[.val (.int p1), .val (.int p2), .val (.int p3), .val (.ref b1), .val (.ref b36), .unset, .unset, .unset, .unset] [(.ref b57)])) _
    refine XS.dup X57.here hx rfl (hb hby at_184) rfl rfl ?_
    show Steps p.tables e below (T57.setTop (mkF m 185 #[.val (.int p1), .val (.int p2), .val (.int p3), .val (.ref b1), .val (.ref b36), .unset, .unset, .unset, .unset] [(.ref b57), (.ref b57)])) _
    refine XT.iconstV X57.here hx rfl (0 : Int32) (hb hby at_185) (by decide) ?_
    exact k)
  obtain ⟨cl59, Ar59, q59, S59, n59', H59, G59⟩ := id V57
  have hin59 : ¬ ((0 : Int32) < 0 ∨ cl59.slots.size ≤ ((0 : Int32)).toNatClampNeg) := inb_of S59 ⟨by decide, by decide⟩
  obtain ⟨T59, h59, X59, e59, W59, st59⟩ := stI X57 hx hZ e57 Ar59 (j := (0 : Int32)) hin59 (g := (mkF m 188 #[.val (.int p1), .val (.int p2), .val (.int p3), .val (.ref b1), .val (.ref b36), .unset, .unset, .unset, .unset] [(.int (7 : Int32)), (.int (0 : Int32)), (.ref b57), (.ref b57)])) rfl rfl (hb hby at_188)
  have V59 : Arv Z h59 b57 k57 .int (15 : Int32) [(.int (7 : Int32)), (.int (0 : Int32)), (.int (0 : Int32)), (.int (0 : Int32)), (.int (0 : Int32)), (.int (0 : Int32)), (.int (0 : Int32)), (.int (0 : Int32)), (.int (0 : Int32)), (.int (0 : Int32)), (.int (0 : Int32)), (.int (0 : Int32)), (.int (0 : Int32)), (.int (0 : Int32)), (.int (0 : Int32))] (.int (0 : Int32)) := Arv.set Ar59 q59 S59 n59' H59 G59 rfl W59 0 rfl (Nat.le_of_ble_eq_true rfl)
  have V59_b1 := V57_b1.other W59 ne_b1_b57
  have V59_b36 := V57_b36.other W59 ne_b36_b57
  have O59 := own_ext_wr O57 W59 z_b57
  have N59 := Fr.snoc X59 N56 g_b57
  obtain ⟨cl60, Ar60, q60, S60, n60', H60, G60⟩ := id V59
  have hin60 : ¬ ((1 : Int32) < 0 ∨ cl60.slots.size ≤ ((1 : Int32)).toNatClampNeg) := inb_of S60 ⟨by decide, by decide⟩
  obtain ⟨T60, h60, X60, e60, W60, st60⟩ := stI X59 hx hZ e59 Ar60 (j := (1 : Int32)) hin60 (g := (mkF m 193 #[.val (.int p1), .val (.int p2), .val (.int p3), .val (.ref b1), .val (.ref b36), .unset, .unset, .unset, .unset] [(.int (11 : Int32)), (.int (1 : Int32)), (.ref b57), (.ref b57)])) rfl rfl (hb hby at_193)
  have V60 : Arv Z h60 b57 k57 .int (15 : Int32) [(.int (7 : Int32)), (.int (11 : Int32)), (.int (0 : Int32)), (.int (0 : Int32)), (.int (0 : Int32)), (.int (0 : Int32)), (.int (0 : Int32)), (.int (0 : Int32)), (.int (0 : Int32)), (.int (0 : Int32)), (.int (0 : Int32)), (.int (0 : Int32)), (.int (0 : Int32)), (.int (0 : Int32)), (.int (0 : Int32))] (.int (0 : Int32)) := Arv.set Ar60 q60 S60 n60' H60 G60 rfl W60 1 rfl (Nat.le_of_ble_eq_true rfl)
  have V60_b1 := V59_b1.other W60 ne_b1_b57
  have V60_b36 := V59_b36.other W60 ne_b36_b57
  have O60 := own_ext_wr O59 W60 z_b57
  have N60 := Fr.snoc X60 N59 g_b57
  obtain ⟨cl61, Ar61, q61, S61, n61', H61, G61⟩ := id V60
  have hin61 : ¬ ((2 : Int32) < 0 ∨ cl61.slots.size ≤ ((2 : Int32)).toNatClampNeg) := inb_of S61 ⟨by decide, by decide⟩
  obtain ⟨T61, h61, X61, e61, W61, st61⟩ := stI X60 hx hZ e60 Ar61 (j := (2 : Int32)) hin61 (g := (mkF m 197 #[.val (.int p1), .val (.int p2), .val (.int p3), .val (.ref b1), .val (.ref b36), .unset, .unset, .unset, .unset] [(.int (2 : Int32)), (.int (2 : Int32)), (.ref b57), (.ref b57)])) rfl rfl (hb hby at_197)
  have V61 : Arv Z h61 b57 k57 .int (15 : Int32) [(.int (7 : Int32)), (.int (11 : Int32)), (.int (2 : Int32)), (.int (0 : Int32)), (.int (0 : Int32)), (.int (0 : Int32)), (.int (0 : Int32)), (.int (0 : Int32)), (.int (0 : Int32)), (.int (0 : Int32)), (.int (0 : Int32)), (.int (0 : Int32)), (.int (0 : Int32)), (.int (0 : Int32)), (.int (0 : Int32))] (.int (0 : Int32)) := Arv.set Ar61 q61 S61 n61' H61 G61 rfl W61 2 rfl (Nat.le_of_ble_eq_true rfl)
  have V61_b1 := V60_b1.other W61 ne_b1_b57
  have V61_b36 := V60_b36.other W61 ne_b36_b57
  have O61 := own_ext_wr O60 W61 z_b57
  have N61 := Fr.snoc X61 N60 g_b57
  have pre62 : ∀ t, Steps p.tables e below (T61.setTop (mkF m 202 #[.val (.int p1), .val (.int p2), .val (.int p3), .val (.ref b1), .val (.ref b36), .unset, .unset, .unset, .unset] [(.int (13 : Int32)), (.int (3 : Int32)), (.ref b57), (.ref b57)])) t → Steps p.tables e below (s₁.setTop (entryFrame m #[(.int p1), (.int p2), (.int p3)] maxLocals)) t := fun t k => pre58 t (by
    show Steps p.tables e below (T57.setTop (mkF m 186 #[.val (.int p1), .val (.int p2), .val (.int p3), .val (.ref b1), .val (.ref b36), .unset, .unset, .unset, .unset] [(.int (0 : Int32)), (.ref b57), (.ref b57)])) _
    refine XT.bipushV X57.here hx rfl (7 : Int32) (hb hby at_186) (by decide) ?_
    show Steps p.tables e below (T57.setTop (mkF m 188 #[.val (.int p1), .val (.int p2), .val (.int p3), .val (.ref b1), .val (.ref b36), .unset, .unset, .unset, .unset] [(.int (7 : Int32)), (.int (0 : Int32)), (.ref b57), (.ref b57)])) _
    refine st59 _ ?_
    show Steps p.tables e below (T59.setTop (mkF m 189 #[.val (.int p1), .val (.int p2), .val (.int p3), .val (.ref b1), .val (.ref b36), .unset, .unset, .unset, .unset] [(.ref b57)])) _
    refine XS.dup X59.here hx rfl (hb hby at_189) rfl rfl ?_
    show Steps p.tables e below (T59.setTop (mkF m 190 #[.val (.int p1), .val (.int p2), .val (.int p3), .val (.ref b1), .val (.ref b36), .unset, .unset, .unset, .unset] [(.ref b57), (.ref b57)])) _
    refine XT.iconstV X59.here hx rfl (1 : Int32) (hb hby at_190) (by decide) ?_
    show Steps p.tables e below (T59.setTop (mkF m 191 #[.val (.int p1), .val (.int p2), .val (.int p3), .val (.ref b1), .val (.ref b36), .unset, .unset, .unset, .unset] [(.int (1 : Int32)), (.ref b57), (.ref b57)])) _
    refine XT.bipushV X59.here hx rfl (11 : Int32) (hb hby at_191) (by decide) ?_
    show Steps p.tables e below (T59.setTop (mkF m 193 #[.val (.int p1), .val (.int p2), .val (.int p3), .val (.ref b1), .val (.ref b36), .unset, .unset, .unset, .unset] [(.int (11 : Int32)), (.int (1 : Int32)), (.ref b57), (.ref b57)])) _
    refine st60 _ ?_
    show Steps p.tables e below (T60.setTop (mkF m 194 #[.val (.int p1), .val (.int p2), .val (.int p3), .val (.ref b1), .val (.ref b36), .unset, .unset, .unset, .unset] [(.ref b57)])) _
    refine XS.dup X60.here hx rfl (hb hby at_194) rfl rfl ?_
    show Steps p.tables e below (T60.setTop (mkF m 195 #[.val (.int p1), .val (.int p2), .val (.int p3), .val (.ref b1), .val (.ref b36), .unset, .unset, .unset, .unset] [(.ref b57), (.ref b57)])) _
    refine XT.iconstV X60.here hx rfl (2 : Int32) (hb hby at_195) (by decide) ?_
    show Steps p.tables e below (T60.setTop (mkF m 196 #[.val (.int p1), .val (.int p2), .val (.int p3), .val (.ref b1), .val (.ref b36), .unset, .unset, .unset, .unset] [(.int (2 : Int32)), (.ref b57), (.ref b57)])) _
    refine XT.iconstV X60.here hx rfl (2 : Int32) (hb hby at_196) (by decide) ?_
    show Steps p.tables e below (T60.setTop (mkF m 197 #[.val (.int p1), .val (.int p2), .val (.int p3), .val (.ref b1), .val (.ref b36), .unset, .unset, .unset, .unset] [(.int (2 : Int32)), (.int (2 : Int32)), (.ref b57), (.ref b57)])) _
    refine st61 _ ?_
    show Steps p.tables e below (T61.setTop (mkF m 198 #[.val (.int p1), .val (.int p2), .val (.int p3), .val (.ref b1), .val (.ref b36), .unset, .unset, .unset, .unset] [(.ref b57)])) _
    refine XS.dup X61.here hx rfl (hb hby at_198) rfl rfl ?_
    show Steps p.tables e below (T61.setTop (mkF m 199 #[.val (.int p1), .val (.int p2), .val (.int p3), .val (.ref b1), .val (.ref b36), .unset, .unset, .unset, .unset] [(.ref b57), (.ref b57)])) _
    refine XT.iconstV X61.here hx rfl (3 : Int32) (hb hby at_199) (by decide) ?_
    show Steps p.tables e below (T61.setTop (mkF m 200 #[.val (.int p1), .val (.int p2), .val (.int p3), .val (.ref b1), .val (.ref b36), .unset, .unset, .unset, .unset] [(.int (3 : Int32)), (.ref b57), (.ref b57)])) _
    refine XT.bipushV X61.here hx rfl (13 : Int32) (hb hby at_200) (by decide) ?_
    exact k)
  obtain ⟨cl63, Ar63, q63, S63, n63', H63, G63⟩ := id V61
  have hin63 : ¬ ((3 : Int32) < 0 ∨ cl63.slots.size ≤ ((3 : Int32)).toNatClampNeg) := inb_of S63 ⟨by decide, by decide⟩
  obtain ⟨T63, h63, X63, e63, W63, st63⟩ := stI X61 hx hZ e61 Ar63 (j := (3 : Int32)) hin63 (g := (mkF m 202 #[.val (.int p1), .val (.int p2), .val (.int p3), .val (.ref b1), .val (.ref b36), .unset, .unset, .unset, .unset] [(.int (13 : Int32)), (.int (3 : Int32)), (.ref b57), (.ref b57)])) rfl rfl (hb hby at_202)
  have V63 : Arv Z h63 b57 k57 .int (15 : Int32) [(.int (7 : Int32)), (.int (11 : Int32)), (.int (2 : Int32)), (.int (13 : Int32)), (.int (0 : Int32)), (.int (0 : Int32)), (.int (0 : Int32)), (.int (0 : Int32)), (.int (0 : Int32)), (.int (0 : Int32)), (.int (0 : Int32)), (.int (0 : Int32)), (.int (0 : Int32)), (.int (0 : Int32)), (.int (0 : Int32))] (.int (0 : Int32)) := Arv.set Ar63 q63 S63 n63' H63 G63 rfl W63 3 rfl (Nat.le_of_ble_eq_true rfl)
  have V63_b1 := V61_b1.other W63 ne_b1_b57
  have V63_b36 := V61_b36.other W63 ne_b36_b57
  have O63 := own_ext_wr O61 W63 z_b57
  have N63 := Fr.snoc X63 N61 g_b57
  obtain ⟨cl64, Ar64, q64, S64, n64', H64, G64⟩ := id V63
  have hin64 : ¬ ((4 : Int32) < 0 ∨ cl64.slots.size ≤ ((4 : Int32)).toNatClampNeg) := inb_of S64 ⟨by decide, by decide⟩
  obtain ⟨T64, h64, X64, e64, W64, st64⟩ := stI X63 hx hZ e63 Ar64 (j := (4 : Int32)) hin64 (g := (mkF m 207 #[.val (.int p1), .val (.int p2), .val (.int p3), .val (.ref b1), .val (.ref b36), .unset, .unset, .unset, .unset] [(.int (6 : Int32)), (.int (4 : Int32)), (.ref b57), (.ref b57)])) rfl rfl (hb hby at_207)
  have V64 : Arv Z h64 b57 k57 .int (15 : Int32) [(.int (7 : Int32)), (.int (11 : Int32)), (.int (2 : Int32)), (.int (13 : Int32)), (.int (6 : Int32)), (.int (0 : Int32)), (.int (0 : Int32)), (.int (0 : Int32)), (.int (0 : Int32)), (.int (0 : Int32)), (.int (0 : Int32)), (.int (0 : Int32)), (.int (0 : Int32)), (.int (0 : Int32)), (.int (0 : Int32))] (.int (0 : Int32)) := Arv.set Ar64 q64 S64 n64' H64 G64 rfl W64 4 rfl (Nat.le_of_ble_eq_true rfl)
  have V64_b1 := V63_b1.other W64 ne_b1_b57
  have V64_b36 := V63_b36.other W64 ne_b36_b57
  have O64 := own_ext_wr O63 W64 z_b57
  have N64 := Fr.snoc X64 N63 g_b57
  obtain ⟨cl65, Ar65, q65, S65, n65', H65, G65⟩ := id V64
  have hin65 : ¬ ((5 : Int32) < 0 ∨ cl65.slots.size ≤ ((5 : Int32)).toNatClampNeg) := inb_of S65 ⟨by decide, by decide⟩
  obtain ⟨T65, h65, X65, e65, W65, st65⟩ := stI X64 hx hZ e64 Ar65 (j := (5 : Int32)) hin65 (g := (mkF m 211 #[.val (.int p1), .val (.int p2), .val (.int p3), .val (.ref b1), .val (.ref b36), .unset, .unset, .unset, .unset] [(.int (3 : Int32)), (.int (5 : Int32)), (.ref b57), (.ref b57)])) rfl rfl (hb hby at_211)
  have V65 : Arv Z h65 b57 k57 .int (15 : Int32) [(.int (7 : Int32)), (.int (11 : Int32)), (.int (2 : Int32)), (.int (13 : Int32)), (.int (6 : Int32)), (.int (3 : Int32)), (.int (0 : Int32)), (.int (0 : Int32)), (.int (0 : Int32)), (.int (0 : Int32)), (.int (0 : Int32)), (.int (0 : Int32)), (.int (0 : Int32)), (.int (0 : Int32)), (.int (0 : Int32))] (.int (0 : Int32)) := Arv.set Ar65 q65 S65 n65' H65 G65 rfl W65 5 rfl (Nat.le_of_ble_eq_true rfl)
  have V65_b1 := V64_b1.other W65 ne_b1_b57
  have V65_b36 := V64_b36.other W65 ne_b36_b57
  have O65 := own_ext_wr O64 W65 z_b57
  have N65 := Fr.snoc X65 N64 g_b57
  obtain ⟨cl66, Ar66, q66, S66, n66', H66, G66⟩ := id V65
  have hin66 : ¬ ((6 : Int32) < 0 ∨ cl66.slots.size ≤ ((6 : Int32)).toNatClampNeg) := inb_of S66 ⟨by decide, by decide⟩
  obtain ⟨T66, h66, X66, e66, W66, st66⟩ := stI X65 hx hZ e65 Ar66 (j := (6 : Int32)) hin66 (g := (mkF m 217 #[.val (.int p1), .val (.int p2), .val (.int p3), .val (.ref b1), .val (.ref b36), .unset, .unset, .unset, .unset] [(.int (7 : Int32)), (.int (6 : Int32)), (.ref b57), (.ref b57)])) rfl rfl (hb hby at_217)
  have V66 : Arv Z h66 b57 k57 .int (15 : Int32) [(.int (7 : Int32)), (.int (11 : Int32)), (.int (2 : Int32)), (.int (13 : Int32)), (.int (6 : Int32)), (.int (3 : Int32)), (.int (7 : Int32)), (.int (0 : Int32)), (.int (0 : Int32)), (.int (0 : Int32)), (.int (0 : Int32)), (.int (0 : Int32)), (.int (0 : Int32)), (.int (0 : Int32)), (.int (0 : Int32))] (.int (0 : Int32)) := Arv.set Ar66 q66 S66 n66' H66 G66 rfl W66 6 rfl (Nat.le_of_ble_eq_true rfl)
  have V66_b1 := V65_b1.other W66 ne_b1_b57
  have V66_b36 := V65_b36.other W66 ne_b36_b57
  have O66 := own_ext_wr O65 W66 z_b57
  have N66 := Fr.snoc X66 N65 g_b57
  have pre67 : ∀ t, Steps p.tables e below (T66.setTop (mkF m 218 #[.val (.int p1), .val (.int p2), .val (.int p3), .val (.ref b1), .val (.ref b36), .unset, .unset, .unset, .unset] [(.ref b57)])) t → Steps p.tables e below (s₁.setTop (entryFrame m #[(.int p1), (.int p2), (.int p3)] maxLocals)) t := fun t k => pre62 t (by
    show Steps p.tables e below (T61.setTop (mkF m 202 #[.val (.int p1), .val (.int p2), .val (.int p3), .val (.ref b1), .val (.ref b36), .unset, .unset, .unset, .unset] [(.int (13 : Int32)), (.int (3 : Int32)), (.ref b57), (.ref b57)])) _
    refine st63 _ ?_
    show Steps p.tables e below (T63.setTop (mkF m 203 #[.val (.int p1), .val (.int p2), .val (.int p3), .val (.ref b1), .val (.ref b36), .unset, .unset, .unset, .unset] [(.ref b57)])) _
    refine XS.dup X63.here hx rfl (hb hby at_203) rfl rfl ?_
    show Steps p.tables e below (T63.setTop (mkF m 204 #[.val (.int p1), .val (.int p2), .val (.int p3), .val (.ref b1), .val (.ref b36), .unset, .unset, .unset, .unset] [(.ref b57), (.ref b57)])) _
    refine XT.iconstV X63.here hx rfl (4 : Int32) (hb hby at_204) (by decide) ?_
    show Steps p.tables e below (T63.setTop (mkF m 205 #[.val (.int p1), .val (.int p2), .val (.int p3), .val (.ref b1), .val (.ref b36), .unset, .unset, .unset, .unset] [(.int (4 : Int32)), (.ref b57), (.ref b57)])) _
    refine XT.bipushV X63.here hx rfl (6 : Int32) (hb hby at_205) (by decide) ?_
    show Steps p.tables e below (T63.setTop (mkF m 207 #[.val (.int p1), .val (.int p2), .val (.int p3), .val (.ref b1), .val (.ref b36), .unset, .unset, .unset, .unset] [(.int (6 : Int32)), (.int (4 : Int32)), (.ref b57), (.ref b57)])) _
    refine st64 _ ?_
    show Steps p.tables e below (T64.setTop (mkF m 208 #[.val (.int p1), .val (.int p2), .val (.int p3), .val (.ref b1), .val (.ref b36), .unset, .unset, .unset, .unset] [(.ref b57)])) _
    refine XS.dup X64.here hx rfl (hb hby at_208) rfl rfl ?_
    show Steps p.tables e below (T64.setTop (mkF m 209 #[.val (.int p1), .val (.int p2), .val (.int p3), .val (.ref b1), .val (.ref b36), .unset, .unset, .unset, .unset] [(.ref b57), (.ref b57)])) _
    refine XT.iconstV X64.here hx rfl (5 : Int32) (hb hby at_209) (by decide) ?_
    show Steps p.tables e below (T64.setTop (mkF m 210 #[.val (.int p1), .val (.int p2), .val (.int p3), .val (.ref b1), .val (.ref b36), .unset, .unset, .unset, .unset] [(.int (5 : Int32)), (.ref b57), (.ref b57)])) _
    refine XT.iconstV X64.here hx rfl (3 : Int32) (hb hby at_210) (by decide) ?_
    show Steps p.tables e below (T64.setTop (mkF m 211 #[.val (.int p1), .val (.int p2), .val (.int p3), .val (.ref b1), .val (.ref b36), .unset, .unset, .unset, .unset] [(.int (3 : Int32)), (.int (5 : Int32)), (.ref b57), (.ref b57)])) _
    refine st65 _ ?_
    show Steps p.tables e below (T65.setTop (mkF m 212 #[.val (.int p1), .val (.int p2), .val (.int p3), .val (.ref b1), .val (.ref b36), .unset, .unset, .unset, .unset] [(.ref b57)])) _
    refine XS.dup X65.here hx rfl (hb hby at_212) rfl rfl ?_
    show Steps p.tables e below (T65.setTop (mkF m 213 #[.val (.int p1), .val (.int p2), .val (.int p3), .val (.ref b1), .val (.ref b36), .unset, .unset, .unset, .unset] [(.ref b57), (.ref b57)])) _
    refine XT.bipushV X65.here hx rfl (6 : Int32) (hb hby at_213) (by decide) ?_
    show Steps p.tables e below (T65.setTop (mkF m 215 #[.val (.int p1), .val (.int p2), .val (.int p3), .val (.ref b1), .val (.ref b36), .unset, .unset, .unset, .unset] [(.int (6 : Int32)), (.ref b57), (.ref b57)])) _
    refine XT.bipushV X65.here hx rfl (7 : Int32) (hb hby at_215) (by decide) ?_
    show Steps p.tables e below (T65.setTop (mkF m 217 #[.val (.int p1), .val (.int p2), .val (.int p3), .val (.ref b1), .val (.ref b36), .unset, .unset, .unset, .unset] [(.int (7 : Int32)), (.int (6 : Int32)), (.ref b57), (.ref b57)])) _
    refine st66 _ ?_
    exact k)
  obtain ⟨cl68, Ar68, q68, S68, n68', H68, G68⟩ := id V66
  have hin68 : ¬ ((7 : Int32) < 0 ∨ cl68.slots.size ≤ ((7 : Int32)).toNatClampNeg) := inb_of S68 ⟨by decide, by decide⟩
  obtain ⟨T68, h68, X68, e68, W68, st68⟩ := stI X66 hx hZ e66 Ar68 (j := (7 : Int32)) hin68 (g := (mkF m 222 #[.val (.int p1), .val (.int p2), .val (.int p3), .val (.ref b1), .val (.ref b36), .unset, .unset, .unset, .unset] [(.int (5 : Int32)), (.int (7 : Int32)), (.ref b57), (.ref b57)])) rfl rfl (hb hby at_222)
  have V68 : Arv Z h68 b57 k57 .int (15 : Int32) [(.int (7 : Int32)), (.int (11 : Int32)), (.int (2 : Int32)), (.int (13 : Int32)), (.int (6 : Int32)), (.int (3 : Int32)), (.int (7 : Int32)), (.int (5 : Int32)), (.int (0 : Int32)), (.int (0 : Int32)), (.int (0 : Int32)), (.int (0 : Int32)), (.int (0 : Int32)), (.int (0 : Int32)), (.int (0 : Int32))] (.int (0 : Int32)) := Arv.set Ar68 q68 S68 n68' H68 G68 rfl W68 7 rfl (Nat.le_of_ble_eq_true rfl)
  have V68_b1 := V66_b1.other W68 ne_b1_b57
  have V68_b36 := V66_b36.other W68 ne_b36_b57
  have O68 := own_ext_wr O66 W68 z_b57
  have N68 := Fr.snoc X68 N66 g_b57
  obtain ⟨cl69, Ar69, q69, S69, n69', H69, G69⟩ := id V68
  have hin69 : ¬ ((8 : Int32) < 0 ∨ cl69.slots.size ≤ ((8 : Int32)).toNatClampNeg) := inb_of S69 ⟨by decide, by decide⟩
  obtain ⟨T69, h69, X69, e69, W69, st69⟩ := stI X68 hx hZ e68 Ar69 (j := (8 : Int32)) hin69 (g := (mkF m 227 #[.val (.int p1), .val (.int p2), .val (.int p3), .val (.ref b1), .val (.ref b36), .unset, .unset, .unset, .unset] [(.int (4 : Int32)), (.int (8 : Int32)), (.ref b57), (.ref b57)])) rfl rfl (hb hby at_227)
  have V69 : Arv Z h69 b57 k57 .int (15 : Int32) [(.int (7 : Int32)), (.int (11 : Int32)), (.int (2 : Int32)), (.int (13 : Int32)), (.int (6 : Int32)), (.int (3 : Int32)), (.int (7 : Int32)), (.int (5 : Int32)), (.int (4 : Int32)), (.int (0 : Int32)), (.int (0 : Int32)), (.int (0 : Int32)), (.int (0 : Int32)), (.int (0 : Int32)), (.int (0 : Int32))] (.int (0 : Int32)) := Arv.set Ar69 q69 S69 n69' H69 G69 rfl W69 8 rfl (Nat.le_of_ble_eq_true rfl)
  have V69_b1 := V68_b1.other W69 ne_b1_b57
  have V69_b36 := V68_b36.other W69 ne_b36_b57
  have O69 := own_ext_wr O68 W69 z_b57
  have N69 := Fr.snoc X69 N68 g_b57
  obtain ⟨cl70, Ar70, q70, S70, n70', H70, G70⟩ := id V69
  have hin70 : ¬ ((9 : Int32) < 0 ∨ cl70.slots.size ≤ ((9 : Int32)).toNatClampNeg) := inb_of S70 ⟨by decide, by decide⟩
  obtain ⟨T70, h70, X70, e70, W70, st70⟩ := stI X69 hx hZ e69 Ar70 (j := (9 : Int32)) hin70 (g := (mkF m 232 #[.val (.int p1), .val (.int p2), .val (.int p3), .val (.ref b1), .val (.ref b36), .unset, .unset, .unset, .unset] [(.int (1 : Int32)), (.int (9 : Int32)), (.ref b57), (.ref b57)])) rfl rfl (hb hby at_232)
  have V70 : Arv Z h70 b57 k57 .int (15 : Int32) [(.int (7 : Int32)), (.int (11 : Int32)), (.int (2 : Int32)), (.int (13 : Int32)), (.int (6 : Int32)), (.int (3 : Int32)), (.int (7 : Int32)), (.int (5 : Int32)), (.int (4 : Int32)), (.int (1 : Int32)), (.int (0 : Int32)), (.int (0 : Int32)), (.int (0 : Int32)), (.int (0 : Int32)), (.int (0 : Int32))] (.int (0 : Int32)) := Arv.set Ar70 q70 S70 n70' H70 G70 rfl W70 9 rfl (Nat.le_of_ble_eq_true rfl)
  have V70_b1 := V69_b1.other W70 ne_b1_b57
  have V70_b36 := V69_b36.other W70 ne_b36_b57
  have O70 := own_ext_wr O69 W70 z_b57
  have N70 := Fr.snoc X70 N69 g_b57
  have pre71 : ∀ t, Steps p.tables e below (T70.setTop (mkF m 234 #[.val (.int p1), .val (.int p2), .val (.int p3), .val (.ref b1), .val (.ref b36), .unset, .unset, .unset, .unset] [(.ref b57), (.ref b57)])) t → Steps p.tables e below (s₁.setTop (entryFrame m #[(.int p1), (.int p2), (.int p3)] maxLocals)) t := fun t k => pre67 t (by
    show Steps p.tables e below (T66.setTop (mkF m 218 #[.val (.int p1), .val (.int p2), .val (.int p3), .val (.ref b1), .val (.ref b36), .unset, .unset, .unset, .unset] [(.ref b57)])) _
    refine XS.dup X66.here hx rfl (hb hby at_218) rfl rfl ?_
    show Steps p.tables e below (T66.setTop (mkF m 219 #[.val (.int p1), .val (.int p2), .val (.int p3), .val (.ref b1), .val (.ref b36), .unset, .unset, .unset, .unset] [(.ref b57), (.ref b57)])) _
    refine XT.bipushV X66.here hx rfl (7 : Int32) (hb hby at_219) (by decide) ?_
    show Steps p.tables e below (T66.setTop (mkF m 221 #[.val (.int p1), .val (.int p2), .val (.int p3), .val (.ref b1), .val (.ref b36), .unset, .unset, .unset, .unset] [(.int (7 : Int32)), (.ref b57), (.ref b57)])) _
    refine XT.iconstV X66.here hx rfl (5 : Int32) (hb hby at_221) (by decide) ?_
    show Steps p.tables e below (T66.setTop (mkF m 222 #[.val (.int p1), .val (.int p2), .val (.int p3), .val (.ref b1), .val (.ref b36), .unset, .unset, .unset, .unset] [(.int (5 : Int32)), (.int (7 : Int32)), (.ref b57), (.ref b57)])) _
    refine st68 _ ?_
    show Steps p.tables e below (T68.setTop (mkF m 223 #[.val (.int p1), .val (.int p2), .val (.int p3), .val (.ref b1), .val (.ref b36), .unset, .unset, .unset, .unset] [(.ref b57)])) _
    refine XS.dup X68.here hx rfl (hb hby at_223) rfl rfl ?_
    show Steps p.tables e below (T68.setTop (mkF m 224 #[.val (.int p1), .val (.int p2), .val (.int p3), .val (.ref b1), .val (.ref b36), .unset, .unset, .unset, .unset] [(.ref b57), (.ref b57)])) _
    refine XT.bipushV X68.here hx rfl (8 : Int32) (hb hby at_224) (by decide) ?_
    show Steps p.tables e below (T68.setTop (mkF m 226 #[.val (.int p1), .val (.int p2), .val (.int p3), .val (.ref b1), .val (.ref b36), .unset, .unset, .unset, .unset] [(.int (8 : Int32)), (.ref b57), (.ref b57)])) _
    refine XT.iconstV X68.here hx rfl (4 : Int32) (hb hby at_226) (by decide) ?_
    show Steps p.tables e below (T68.setTop (mkF m 227 #[.val (.int p1), .val (.int p2), .val (.int p3), .val (.ref b1), .val (.ref b36), .unset, .unset, .unset, .unset] [(.int (4 : Int32)), (.int (8 : Int32)), (.ref b57), (.ref b57)])) _
    refine st69 _ ?_
    show Steps p.tables e below (T69.setTop (mkF m 228 #[.val (.int p1), .val (.int p2), .val (.int p3), .val (.ref b1), .val (.ref b36), .unset, .unset, .unset, .unset] [(.ref b57)])) _
    refine XS.dup X69.here hx rfl (hb hby at_228) rfl rfl ?_
    show Steps p.tables e below (T69.setTop (mkF m 229 #[.val (.int p1), .val (.int p2), .val (.int p3), .val (.ref b1), .val (.ref b36), .unset, .unset, .unset, .unset] [(.ref b57), (.ref b57)])) _
    refine XT.bipushV X69.here hx rfl (9 : Int32) (hb hby at_229) (by decide) ?_
    show Steps p.tables e below (T69.setTop (mkF m 231 #[.val (.int p1), .val (.int p2), .val (.int p3), .val (.ref b1), .val (.ref b36), .unset, .unset, .unset, .unset] [(.int (9 : Int32)), (.ref b57), (.ref b57)])) _
    refine XT.iconstV X69.here hx rfl (1 : Int32) (hb hby at_231) (by decide) ?_
    show Steps p.tables e below (T69.setTop (mkF m 232 #[.val (.int p1), .val (.int p2), .val (.int p3), .val (.ref b1), .val (.ref b36), .unset, .unset, .unset, .unset] [(.int (1 : Int32)), (.int (9 : Int32)), (.ref b57), (.ref b57)])) _
    refine st70 _ ?_
    show Steps p.tables e below (T70.setTop (mkF m 233 #[.val (.int p1), .val (.int p2), .val (.int p3), .val (.ref b1), .val (.ref b36), .unset, .unset, .unset, .unset] [(.ref b57)])) _
    refine XS.dup X70.here hx rfl (hb hby at_233) rfl rfl ?_
    exact k)
  obtain ⟨cl72, Ar72, q72, S72, n72', H72, G72⟩ := id V70
  have hin72 : ¬ ((10 : Int32) < 0 ∨ cl72.slots.size ≤ ((10 : Int32)).toNatClampNeg) := inb_of S72 ⟨by decide, by decide⟩
  obtain ⟨T72, h72, X72, e72, W72, st72⟩ := stI X70 hx hZ e70 Ar72 (j := (10 : Int32)) hin72 (g := (mkF m 237 #[.val (.int p1), .val (.int p2), .val (.int p3), .val (.ref b1), .val (.ref b36), .unset, .unset, .unset, .unset] [(.int (1 : Int32)), (.int (10 : Int32)), (.ref b57), (.ref b57)])) rfl rfl (hb hby at_237)
  have V72 : Arv Z h72 b57 k57 .int (15 : Int32) [(.int (7 : Int32)), (.int (11 : Int32)), (.int (2 : Int32)), (.int (13 : Int32)), (.int (6 : Int32)), (.int (3 : Int32)), (.int (7 : Int32)), (.int (5 : Int32)), (.int (4 : Int32)), (.int (1 : Int32)), (.int (1 : Int32)), (.int (0 : Int32)), (.int (0 : Int32)), (.int (0 : Int32)), (.int (0 : Int32))] (.int (0 : Int32)) := Arv.set Ar72 q72 S72 n72' H72 G72 rfl W72 10 rfl (Nat.le_of_ble_eq_true rfl)
  have V72_b1 := V70_b1.other W72 ne_b1_b57
  have V72_b36 := V70_b36.other W72 ne_b36_b57
  have O72 := own_ext_wr O70 W72 z_b57
  have N72 := Fr.snoc X72 N70 g_b57
  obtain ⟨cl73, Ar73, q73, S73, n73', H73, G73⟩ := id V72
  have hin73 : ¬ ((11 : Int32) < 0 ∨ cl73.slots.size ≤ ((11 : Int32)).toNatClampNeg) := inb_of S73 ⟨by decide, by decide⟩
  obtain ⟨T73, h73, X73, e73, W73, st73⟩ := stI X72 hx hZ e72 Ar73 (j := (11 : Int32)) hin73 (g := (mkF m 242 #[.val (.int p1), .val (.int p2), .val (.int p3), .val (.ref b1), .val (.ref b36), .unset, .unset, .unset, .unset] [(.int (1 : Int32)), (.int (11 : Int32)), (.ref b57), (.ref b57)])) rfl rfl (hb hby at_242)
  have V73 : Arv Z h73 b57 k57 .int (15 : Int32) [(.int (7 : Int32)), (.int (11 : Int32)), (.int (2 : Int32)), (.int (13 : Int32)), (.int (6 : Int32)), (.int (3 : Int32)), (.int (7 : Int32)), (.int (5 : Int32)), (.int (4 : Int32)), (.int (1 : Int32)), (.int (1 : Int32)), (.int (1 : Int32)), (.int (0 : Int32)), (.int (0 : Int32)), (.int (0 : Int32))] (.int (0 : Int32)) := Arv.set Ar73 q73 S73 n73' H73 G73 rfl W73 11 rfl (Nat.le_of_ble_eq_true rfl)
  have V73_b1 := V72_b1.other W73 ne_b1_b57
  have V73_b36 := V72_b36.other W73 ne_b36_b57
  have O73 := own_ext_wr O72 W73 z_b57
  have N73 := Fr.snoc X73 N72 g_b57
  obtain ⟨cl74, Ar74, q74, S74, n74', H74, G74⟩ := id V73
  have hin74 : ¬ ((12 : Int32) < 0 ∨ cl74.slots.size ≤ ((12 : Int32)).toNatClampNeg) := inb_of S74 ⟨by decide, by decide⟩
  obtain ⟨T74, h74, X74, e74, W74, st74⟩ := stI X73 hx hZ e73 Ar74 (j := (12 : Int32)) hin74 (g := (mkF m 247 #[.val (.int p1), .val (.int p2), .val (.int p3), .val (.ref b1), .val (.ref b36), .unset, .unset, .unset, .unset] [(.int (2 : Int32)), (.int (12 : Int32)), (.ref b57), (.ref b57)])) rfl rfl (hb hby at_247)
  have V74 : Arv Z h74 b57 k57 .int (15 : Int32) [(.int (7 : Int32)), (.int (11 : Int32)), (.int (2 : Int32)), (.int (13 : Int32)), (.int (6 : Int32)), (.int (3 : Int32)), (.int (7 : Int32)), (.int (5 : Int32)), (.int (4 : Int32)), (.int (1 : Int32)), (.int (1 : Int32)), (.int (1 : Int32)), (.int (2 : Int32)), (.int (0 : Int32)), (.int (0 : Int32))] (.int (0 : Int32)) := Arv.set Ar74 q74 S74 n74' H74 G74 rfl W74 12 rfl (Nat.le_of_ble_eq_true rfl)
  have V74_b1 := V73_b1.other W74 ne_b1_b57
  have V74_b36 := V73_b36.other W74 ne_b36_b57
  have O74 := own_ext_wr O73 W74 z_b57
  have N74 := Fr.snoc X74 N73 g_b57
  have pre75 : ∀ t, Steps p.tables e below (T74.setTop (mkF m 251 #[.val (.int p1), .val (.int p2), .val (.int p3), .val (.ref b1), .val (.ref b36), .unset, .unset, .unset, .unset] [(.int (13 : Int32)), (.ref b57), (.ref b57)])) t → Steps p.tables e below (s₁.setTop (entryFrame m #[(.int p1), (.int p2), (.int p3)] maxLocals)) t := fun t k => pre71 t (by
    show Steps p.tables e below (T70.setTop (mkF m 234 #[.val (.int p1), .val (.int p2), .val (.int p3), .val (.ref b1), .val (.ref b36), .unset, .unset, .unset, .unset] [(.ref b57), (.ref b57)])) _
    refine XT.bipushV X70.here hx rfl (10 : Int32) (hb hby at_234) (by decide) ?_
    show Steps p.tables e below (T70.setTop (mkF m 236 #[.val (.int p1), .val (.int p2), .val (.int p3), .val (.ref b1), .val (.ref b36), .unset, .unset, .unset, .unset] [(.int (10 : Int32)), (.ref b57), (.ref b57)])) _
    refine XT.iconstV X70.here hx rfl (1 : Int32) (hb hby at_236) (by decide) ?_
    show Steps p.tables e below (T70.setTop (mkF m 237 #[.val (.int p1), .val (.int p2), .val (.int p3), .val (.ref b1), .val (.ref b36), .unset, .unset, .unset, .unset] [(.int (1 : Int32)), (.int (10 : Int32)), (.ref b57), (.ref b57)])) _
    refine st72 _ ?_
    show Steps p.tables e below (T72.setTop (mkF m 238 #[.val (.int p1), .val (.int p2), .val (.int p3), .val (.ref b1), .val (.ref b36), .unset, .unset, .unset, .unset] [(.ref b57)])) _
    refine XS.dup X72.here hx rfl (hb hby at_238) rfl rfl ?_
    show Steps p.tables e below (T72.setTop (mkF m 239 #[.val (.int p1), .val (.int p2), .val (.int p3), .val (.ref b1), .val (.ref b36), .unset, .unset, .unset, .unset] [(.ref b57), (.ref b57)])) _
    refine XT.bipushV X72.here hx rfl (11 : Int32) (hb hby at_239) (by decide) ?_
    show Steps p.tables e below (T72.setTop (mkF m 241 #[.val (.int p1), .val (.int p2), .val (.int p3), .val (.ref b1), .val (.ref b36), .unset, .unset, .unset, .unset] [(.int (11 : Int32)), (.ref b57), (.ref b57)])) _
    refine XT.iconstV X72.here hx rfl (1 : Int32) (hb hby at_241) (by decide) ?_
    show Steps p.tables e below (T72.setTop (mkF m 242 #[.val (.int p1), .val (.int p2), .val (.int p3), .val (.ref b1), .val (.ref b36), .unset, .unset, .unset, .unset] [(.int (1 : Int32)), (.int (11 : Int32)), (.ref b57), (.ref b57)])) _
    refine st73 _ ?_
    show Steps p.tables e below (T73.setTop (mkF m 243 #[.val (.int p1), .val (.int p2), .val (.int p3), .val (.ref b1), .val (.ref b36), .unset, .unset, .unset, .unset] [(.ref b57)])) _
    refine XS.dup X73.here hx rfl (hb hby at_243) rfl rfl ?_
    show Steps p.tables e below (T73.setTop (mkF m 244 #[.val (.int p1), .val (.int p2), .val (.int p3), .val (.ref b1), .val (.ref b36), .unset, .unset, .unset, .unset] [(.ref b57), (.ref b57)])) _
    refine XT.bipushV X73.here hx rfl (12 : Int32) (hb hby at_244) (by decide) ?_
    show Steps p.tables e below (T73.setTop (mkF m 246 #[.val (.int p1), .val (.int p2), .val (.int p3), .val (.ref b1), .val (.ref b36), .unset, .unset, .unset, .unset] [(.int (12 : Int32)), (.ref b57), (.ref b57)])) _
    refine XT.iconstV X73.here hx rfl (2 : Int32) (hb hby at_246) (by decide) ?_
    show Steps p.tables e below (T73.setTop (mkF m 247 #[.val (.int p1), .val (.int p2), .val (.int p3), .val (.ref b1), .val (.ref b36), .unset, .unset, .unset, .unset] [(.int (2 : Int32)), (.int (12 : Int32)), (.ref b57), (.ref b57)])) _
    refine st74 _ ?_
    show Steps p.tables e below (T74.setTop (mkF m 248 #[.val (.int p1), .val (.int p2), .val (.int p3), .val (.ref b1), .val (.ref b36), .unset, .unset, .unset, .unset] [(.ref b57)])) _
    refine XS.dup X74.here hx rfl (hb hby at_248) rfl rfl ?_
    show Steps p.tables e below (T74.setTop (mkF m 249 #[.val (.int p1), .val (.int p2), .val (.int p3), .val (.ref b1), .val (.ref b36), .unset, .unset, .unset, .unset] [(.ref b57), (.ref b57)])) _
    refine XT.bipushV X74.here hx rfl (13 : Int32) (hb hby at_249) (by decide) ?_
    exact k)
  obtain ⟨cl76, Ar76, q76, S76, n76', H76, G76⟩ := id V74
  have hin76 : ¬ ((13 : Int32) < 0 ∨ cl76.slots.size ≤ ((13 : Int32)).toNatClampNeg) := inb_of S76 ⟨by decide, by decide⟩
  obtain ⟨T76, h76, X76, e76, W76, st76⟩ := stI X74 hx hZ e74 Ar76 (j := (13 : Int32)) hin76 (g := (mkF m 252 #[.val (.int p1), .val (.int p2), .val (.int p3), .val (.ref b1), .val (.ref b36), .unset, .unset, .unset, .unset] [(.int (2 : Int32)), (.int (13 : Int32)), (.ref b57), (.ref b57)])) rfl rfl (hb hby at_252)
  have V76 : Arv Z h76 b57 k57 .int (15 : Int32) [(.int (7 : Int32)), (.int (11 : Int32)), (.int (2 : Int32)), (.int (13 : Int32)), (.int (6 : Int32)), (.int (3 : Int32)), (.int (7 : Int32)), (.int (5 : Int32)), (.int (4 : Int32)), (.int (1 : Int32)), (.int (1 : Int32)), (.int (1 : Int32)), (.int (2 : Int32)), (.int (2 : Int32)), (.int (0 : Int32))] (.int (0 : Int32)) := Arv.set Ar76 q76 S76 n76' H76 G76 rfl W76 13 rfl (Nat.le_of_ble_eq_true rfl)
  have V76_b1 := V74_b1.other W76 ne_b1_b57
  have V76_b36 := V74_b36.other W76 ne_b36_b57
  have O76 := own_ext_wr O74 W76 z_b57
  have N76 := Fr.snoc X76 N74 g_b57
  obtain ⟨cl77, Ar77, q77, S77, n77', H77, G77⟩ := id V76
  have hin77 : ¬ ((14 : Int32) < 0 ∨ cl77.slots.size ≤ ((14 : Int32)).toNatClampNeg) := inb_of S77 ⟨by decide, by decide⟩
  obtain ⟨T77, h77, X77, e77, W77, st77⟩ := stI X76 hx hZ e76 Ar77 (j := (14 : Int32)) hin77 (g := (mkF m 257 #[.val (.int p1), .val (.int p2), .val (.int p3), .val (.ref b1), .val (.ref b36), .unset, .unset, .unset, .unset] [(.int (1 : Int32)), (.int (14 : Int32)), (.ref b57), (.ref b57)])) rfl rfl (hb hby at_257)
  have V77 : Arv Z h77 b57 k57 .int (15 : Int32) [(.int (7 : Int32)), (.int (11 : Int32)), (.int (2 : Int32)), (.int (13 : Int32)), (.int (6 : Int32)), (.int (3 : Int32)), (.int (7 : Int32)), (.int (5 : Int32)), (.int (4 : Int32)), (.int (1 : Int32)), (.int (1 : Int32)), (.int (1 : Int32)), (.int (2 : Int32)), (.int (2 : Int32)), (.int (1 : Int32))] (.int (0 : Int32)) := Arv.set Ar77 q77 S77 n77' H77 G77 rfl W77 14 rfl (Nat.le_of_ble_eq_true rfl)
  have V77_b1 := V76_b1.other W77 ne_b1_b57
  have V77_b36 := V76_b36.other W77 ne_b36_b57
  have O77 := own_ext_wr O76 W77 z_b57
  have N77 := Fr.snoc X77 N76 g_b57
  obtain ⟨K, hK, hi⟩ := own_ex p1
  obtain ⟨aK, hat, Ea, Fmn, Fmx⟩ := P K hi
  have pre78 : ∀ t, Steps p.tables e below (T77.setTop (mkF m 267 #[.val (.int p1), .val (.int p2), .val (.int p3), .val (.ref b1), .val (.ref b36), .val (.ref b57), .unset, .unset, .unset] [(.int K)])) t → Steps p.tables e below (s₁.setTop (entryFrame m #[(.int p1), (.int p2), (.int p3)] maxLocals)) t := fun t k => pre75 t (by
    show Steps p.tables e below (T74.setTop (mkF m 251 #[.val (.int p1), .val (.int p2), .val (.int p3), .val (.ref b1), .val (.ref b36), .unset, .unset, .unset, .unset] [(.int (13 : Int32)), (.ref b57), (.ref b57)])) _
    refine XT.iconstV X74.here hx rfl (2 : Int32) (hb hby at_251) (by decide) ?_
    show Steps p.tables e below (T74.setTop (mkF m 252 #[.val (.int p1), .val (.int p2), .val (.int p3), .val (.ref b1), .val (.ref b36), .unset, .unset, .unset, .unset] [(.int (2 : Int32)), (.int (13 : Int32)), (.ref b57), (.ref b57)])) _
    refine st76 _ ?_
    show Steps p.tables e below (T76.setTop (mkF m 253 #[.val (.int p1), .val (.int p2), .val (.int p3), .val (.ref b1), .val (.ref b36), .unset, .unset, .unset, .unset] [(.ref b57)])) _
    refine XS.dup X76.here hx rfl (hb hby at_253) rfl rfl ?_
    show Steps p.tables e below (T76.setTop (mkF m 254 #[.val (.int p1), .val (.int p2), .val (.int p3), .val (.ref b1), .val (.ref b36), .unset, .unset, .unset, .unset] [(.ref b57), (.ref b57)])) _
    refine XT.bipushV X76.here hx rfl (14 : Int32) (hb hby at_254) (by decide) ?_
    show Steps p.tables e below (T76.setTop (mkF m 256 #[.val (.int p1), .val (.int p2), .val (.int p3), .val (.ref b1), .val (.ref b36), .unset, .unset, .unset, .unset] [(.int (14 : Int32)), (.ref b57), (.ref b57)])) _
    refine XT.iconstV X76.here hx rfl (1 : Int32) (hb hby at_256) (by decide) ?_
    show Steps p.tables e below (T76.setTop (mkF m 257 #[.val (.int p1), .val (.int p2), .val (.int p3), .val (.ref b1), .val (.ref b36), .unset, .unset, .unset, .unset] [(.int (1 : Int32)), (.int (14 : Int32)), (.ref b57), (.ref b57)])) _
    refine st77 _ ?_
    show Steps p.tables e below (T77.setTop (mkF m 258 #[.val (.int p1), .val (.int p2), .val (.int p3), .val (.ref b1), .val (.ref b36), .unset, .unset, .unset, .unset] [(.ref b57)])) _
    refine XS.astore X77.here hx rfl (hb hby at_258) rfl rfl (l' := #[.val (.int p1), .val (.int p2), .val (.int p3), .val (.ref b1), .val (.ref b36), .val (.ref b57), .unset, .unset, .unset]) rfl ?_
    show Steps p.tables e below (T77.setTop (mkF m 260 #[.val (.int p1), .val (.int p2), .val (.int p3), .val (.ref b1), .val (.ref b36), .val (.ref b57), .unset, .unset, .unset] [])) _
    refine XS.iloadN X77.here hx rfl (hb hby at_260) rfl ?_
    show Steps p.tables e below (T77.setTop (mkF m 261 #[.val (.int p1), .val (.int p2), .val (.int p3), .val (.ref b1), .val (.ref b36), .val (.ref b57), .unset, .unset, .unset] [(.int p1)])) _
    refine X77.ldcInt hx hown (mvT hZ (hw _ (List.mem_of_getElem? (i := 35) rfl))) (g := (mkF m 261 #[.val (.int p1), .val (.int p2), .val (.int p3), .val (.ref b1), .val (.ref b36), .val (.ref b57), .unset, .unset, .unset] [(.int p1)])) rfl (hb hby at_261) _ ?_
    show Steps p.tables e below (T77.setTop (mkF m 263 #[.val (.int p1), .val (.int p2), .val (.int p3), .val (.ref b1), .val (.ref b36), .val (.ref b57), .unset, .unset, .unset] [(.int (2147483647 : Int32)), (.int p1)])) _
    refine XS.iand X77.here hx rfl (hb hby at_263) rfl ?_
    show Steps p.tables e below (T77.setTop (mkF m 264 #[.val (.int p1), .val (.int p2), .val (.int p3), .val (.ref b1), .val (.ref b36), .val (.ref b57), .unset, .unset, .unset] [(.int (p1 &&& (2147483647 : Int32)))])) _
    refine XT.bipushV X77.here hx rfl (15 : Int32) (hb hby at_264) (by decide) ?_
    show Steps p.tables e below (T77.setTop (mkF m 266 #[.val (.int p1), .val (.int p2), .val (.int p3), .val (.ref b1), .val (.ref b36), .val (.ref b57), .unset, .unset, .unset] [(.int (15 : Int32)), (.int (p1 &&& (2147483647 : Int32)))])) _
    refine iremM X77 hx rfl (hb hby at_266) rfl (by decide) ?_
    show Steps p.tables e below (T77.setTop (mkF m 267 #[.val (.int p1), .val (.int p2), .val (.int p3), .val (.ref b1), .val (.ref b36), .val (.ref b57), .unset, .unset, .unset] [(.int ((p1 &&& (2147483647 : Int32)) % (15 : Int32)))])) _
    refine castTop (g' := (mkF m 267 #[.val (.int p1), .val (.int p2), .val (.int p3), .val (.ref b1), .val (.ref b36), .val (.ref b57), .unset, .unset, .unset] [(.int K)])) (by rw [← hK]) ?_
    exact k)
  have pre79 : ∀ t, Steps p.tables e below (T77.setTop (mkF m 272 #[.val (.int p1), .val (.int p2), .val (.int p3), .val (.ref b1), .val (.ref b36), .val (.ref b57), .val (.int K), .unset, .unset] [(.int (p3 &&& (1 : Int32)))])) t → Steps p.tables e below (s₁.setTop (entryFrame m #[(.int p1), (.int p2), (.int p3)] maxLocals)) t := fun t k => pre78 t (by
    show Steps p.tables e below (T77.setTop (mkF m 267 #[.val (.int p1), .val (.int p2), .val (.int p3), .val (.ref b1), .val (.ref b36), .val (.ref b57), .unset, .unset, .unset] [(.int K)])) _
    refine XS.istore X77.here hx rfl (hb hby at_267) rfl (l' := #[.val (.int p1), .val (.int p2), .val (.int p3), .val (.ref b1), .val (.ref b36), .val (.ref b57), .val (.int K), .unset, .unset]) rfl ?_
    show Steps p.tables e below (T77.setTop (mkF m 269 #[.val (.int p1), .val (.int p2), .val (.int p3), .val (.ref b1), .val (.ref b36), .val (.ref b57), .val (.int K), .unset, .unset] [])) _
    refine XS.iloadN X77.here hx rfl (hb hby at_269) rfl ?_
    show Steps p.tables e below (T77.setTop (mkF m 270 #[.val (.int p1), .val (.int p2), .val (.int p3), .val (.ref b1), .val (.ref b36), .val (.ref b57), .val (.int K), .unset, .unset] [(.int p3)])) _
    refine XT.iconstV X77.here hx rfl (1 : Int32) (hb hby at_270) (by decide) ?_
    show Steps p.tables e below (T77.setTop (mkF m 271 #[.val (.int p1), .val (.int p2), .val (.int p3), .val (.ref b1), .val (.ref b36), .val (.ref b57), .val (.int K), .unset, .unset] [(.int (1 : Int32)), (.int p3)])) _
    refine XS.iand X77.here hx rfl (hb hby at_271) rfl ?_
    exact k)
  by_cases hc272_80 : (p3 &&& (1 : Int32)) = (0 : Int32)
  · have _ := 0
    obtain ⟨cl81, Ar81, q81, S81, n81', H81, G81⟩ := id V77_b36
    have hin81 : ¬ (K < 0 ∨ cl81.slots.size ≤ (K).toNatClampNeg) := inb_of S81 (own_inb hi)
    have hat81 : cl81.slots[(K).toNatClampNeg]? = some (.int (own_mn K)) := Has.at H81 hin81 (own_mnat hi)
    have pre82 : ∀ t, Steps p.tables e below (T77.setTop (mkF m 294 #[.val (.int p1), .val (.int p2), .val (.int p3), .val (.ref b1), .val (.ref b36), .val (.ref b57), .val (.int K), .val (.int ((p2 % (16 : Int32)).toInt16.toInt32)), .unset] [(.int (own_mn K)), (.int ((p2 % (16 : Int32)).toInt16.toInt32))])) t → Steps p.tables e below (s₁.setTop (entryFrame m #[(.int p1), (.int p2), (.int p3)] maxLocals)) t := fun t k => pre79 t (by
      show Steps p.tables e below (T77.setTop (mkF m 272 #[.val (.int p1), .val (.int p2), .val (.int p3), .val (.ref b1), .val (.ref b36), .val (.ref b57), .val (.int K), .unset, .unset] [(.int (p3 &&& (1 : Int32)))])) _
      refine XS.ifYes X77.here hx rfl (pc0 := 272) (pc' := 280) rfl (hb hby at_272) rfl ((if0 _ _).trans (teq hc272_80).1) (by decide) (by decide) ?_
      show Steps p.tables e below (T77.setTop (mkF m 280 #[.val (.int p1), .val (.int p2), .val (.int p3), .val (.ref b1), .val (.ref b36), .val (.ref b57), .val (.int K), .unset, .unset] [])) _
      refine XS.iloadN X77.here hx rfl (hb hby at_280) rfl ?_
      show Steps p.tables e below (T77.setTop (mkF m 281 #[.val (.int p1), .val (.int p2), .val (.int p3), .val (.ref b1), .val (.ref b36), .val (.ref b57), .val (.int K), .unset, .unset] [(.int p2)])) _
      refine XT.bipushV X77.here hx rfl (16 : Int32) (hb hby at_281) (by decide) ?_
      show Steps p.tables e below (T77.setTop (mkF m 283 #[.val (.int p1), .val (.int p2), .val (.int p3), .val (.ref b1), .val (.ref b36), .val (.ref b57), .val (.int K), .unset, .unset] [(.int (16 : Int32)), (.int p2)])) _
      refine iremM X77 hx rfl (hb hby at_283) rfl (by decide) ?_
      show Steps p.tables e below (T77.setTop (mkF m 284 #[.val (.int p1), .val (.int p2), .val (.int p3), .val (.ref b1), .val (.ref b36), .val (.ref b57), .val (.int K), .unset, .unset] [(.int (p2 % (16 : Int32)))])) _
      refine XS.i2s X77.here hx rfl (hb hby at_284) rfl ?_
      show Steps p.tables e below (T77.setTop (mkF m 285 #[.val (.int p1), .val (.int p2), .val (.int p3), .val (.ref b1), .val (.ref b36), .val (.ref b57), .val (.int K), .unset, .unset] [(.int ((p2 % (16 : Int32)).toInt16.toInt32))])) _
      refine XS.istore X77.here hx rfl (hb hby at_285) rfl (l' := #[.val (.int p1), .val (.int p2), .val (.int p3), .val (.ref b1), .val (.ref b36), .val (.ref b57), .val (.int K), .val (.int ((p2 % (16 : Int32)).toInt16.toInt32)), .unset]) rfl ?_
      show Steps p.tables e below (T77.setTop (mkF m 287 #[.val (.int p1), .val (.int p2), .val (.int p3), .val (.ref b1), .val (.ref b36), .val (.ref b57), .val (.int K), .val (.int ((p2 % (16 : Int32)).toInt16.toInt32)), .unset] [])) _
      refine XS.iload X77.here hx rfl (hb hby at_287) rfl ?_
      show Steps p.tables e below (T77.setTop (mkF m 289 #[.val (.int p1), .val (.int p2), .val (.int p3), .val (.ref b1), .val (.ref b36), .val (.ref b57), .val (.int K), .val (.int ((p2 % (16 : Int32)).toInt16.toInt32)), .unset] [(.int ((p2 % (16 : Int32)).toInt16.toInt32))])) _
      refine XS.aload X77.here hx rfl (hb hby at_289) rfl rfl ?_
      show Steps p.tables e below (T77.setTop (mkF m 291 #[.val (.int p1), .val (.int p2), .val (.int p3), .val (.ref b1), .val (.ref b36), .val (.ref b57), .val (.int K), .val (.int ((p2 % (16 : Int32)).toInt16.toInt32)), .unset] [(.ref b36), (.int ((p2 % (16 : Int32)).toInt16.toInt32))])) _
      refine XS.iload X77.here hx rfl (hb hby at_291) rfl ?_
      show Steps p.tables e below (T77.setTop (mkF m 293 #[.val (.int p1), .val (.int p2), .val (.int p3), .val (.ref b1), .val (.ref b36), .val (.ref b57), .val (.int K), .val (.int ((p2 % (16 : Int32)).toInt16.toInt32)), .unset] [(.int K), (.ref b36), (.int ((p2 % (16 : Int32)).toInt16.toInt32))])) _
      refine X77.iaload hx (j := K) (v := (.int (own_mn K))) (by rw [e77]; exact Ar81.1) (State.isArrayOf_alike hZ.alike Ar81.2.1) Ar81.2.2 hin81 hat81 (g := (mkF m 293 #[.val (.int p1), .val (.int p2), .val (.int p3), .val (.ref b1), .val (.ref b36), .val (.ref b57), .val (.int K), .val (.int ((p2 % (16 : Int32)).toInt16.toInt32)), .unset] [(.int K), (.ref b36), (.int ((p2 % (16 : Int32)).toInt16.toInt32))])) rfl rfl (hb hby at_293) _ ?_
      exact k)
    by_cases hc294_83 : ((p2 % (16 : Int32)).toInt16.toInt32) < (own_mn K)
    · have _ := 0
      obtain ⟨cl84, Ar84, q84, S84, n84', H84, G84⟩ := id V77_b1
      have hin84 : ¬ (K < 0 ∨ cl84.slots.size ≤ (K).toNatClampNeg) := inb_of S84 (own_inb hi)
      have hat84 : cl84.slots[(K).toNatClampNeg]? = some (.ref aK) := Has.at H84 hin84 hat
      obtain ⟨cq85, kq85, q85a, q85b, q85c⟩ := isOf hZ e77 (Ea.ext O77)
      obtain ⟨_, _, ⟨T85, L85, k85, n85⟩, -, X85, ⟨Lc85, hQ85, l85, y85, z85⟩, st85⟩ := X77.virtualBack hx (y := (⟨"com/example/hursley/hursley/wire/ApiKey", "supports", "(S)Z"⟩ : MethodName)) (z := (⟨"com/example/hursley/hursley/wire/ApiKey", "supports", "(S)Z"⟩ : MethodName)) hown (mvT hZ (hw _ (List.mem_of_getElem? (i := 36) rfl))) (mvT hZ (hw _ (List.mem_of_getElem? (i := 37) rfl))) (notFace_of_selects (args := #[]) (mvT hZ (hw _ (List.mem_of_getElem? (i := 39) rfl)))) (mvT hZ (hw _ (List.mem_of_getElem? (i := 39) rfl))) (mvT hZ (hw _ (List.mem_of_getElem? (i := 38) rfl))) (by decide) (backOf (W := 0) (rm_sup l Z a0 hw [] aK ((p2 % (16 : Int32)).toInt16.toInt32) h77 n0 (Nat.le_trans Z0 O77.1) (own_mn K) (own_mx K) (Fmn.ext O77) (Fmx.ext O77) (0 : Int32) (by simp only [own_sup, if_pos hc294_83])) hZ (hw _ (List.mem_of_getElem? (i := 40) rfl)) (hw _ (List.mem_of_getElem? (i := 3) rfl)) (by decide) (by decide)) q85a q85c (g := (mkF m 320 #[.val (.int p1), .val (.int p2), .val (.int p3), .val (.ref b1), .val (.ref b36), .val (.ref b57), .val (.int K), .val (.int ((p2 % (16 : Int32)).toInt16.toInt32)), .val (.int (0 : Int32))] [(.int ((p2 % (16 : Int32)).toInt16.toInt32)), (.ref aK)])) rfl (by rw [hml]; rfl) (Steps.refl _) (argsL := [(.int ((p2 % (16 : Int32)).toInt16.toInt32))]) (rest := []) (lenOf pd_0 rfl) rfl (by show 2 * 0 + _ ≤ _; exact Nat.le_of_eq rfl) (hb hby at_320) (fun _ _ => ⟨rfl, e77, (by decide : 3 + 0 ≤ _), (by decide : 45 + 0 ≤ _)⟩)
      dsimp only [Pt.U, Pt.locs, Pt.cells, Pt.slots] at X85 l85 y85 z85 st85 hQ85
      rw [y85, z85] at X85
      obtain ⟨rfl, N85q, e85⟩ := hQ85
      have N85 : Fr n0 L85 := by rw [l85]; exact Fr.app N77 N85q
      have pre86 : ∀ t, Steps p.tables e below (T85.setTop (mkF m 333 #[.val (.int p1), .val (.int p2), .val (.int p3), .val (.ref b1), .val (.ref b36), .val (.ref b57), .val (.int K), .val (.int ((p2 % (16 : Int32)).toInt16.toInt32)), .val (.int (0 : Int32))] [(.int (1 : Int32))])) t → Steps p.tables e below (s₁.setTop (entryFrame m #[(.int p1), (.int p2), (.int p3)] maxLocals)) t := fun t k => pre82 t (by
        show Steps p.tables e below (T77.setTop (mkF m 294 #[.val (.int p1), .val (.int p2), .val (.int p3), .val (.ref b1), .val (.ref b36), .val (.ref b57), .val (.int K), .val (.int ((p2 % (16 : Int32)).toInt16.toInt32)), .unset] [(.int (own_mn K)), (.int ((p2 % (16 : Int32)).toInt16.toInt32))])) _
        refine XS.icmpYes X77.here hx rfl (pc0 := 294) (pc' := 311) rfl (hb hby at_294) rfl (tlt hc294_83).1 (by decide) (by decide) ?_
        show Steps p.tables e below (T77.setTop (mkF m 311 #[.val (.int p1), .val (.int p2), .val (.int p3), .val (.ref b1), .val (.ref b36), .val (.ref b57), .val (.int K), .val (.int ((p2 % (16 : Int32)).toInt16.toInt32)), .unset] [])) _
        refine XT.iconstV X77.here hx rfl (0 : Int32) (hb hby at_311) (by decide) ?_
        show Steps p.tables e below (T77.setTop (mkF m 312 #[.val (.int p1), .val (.int p2), .val (.int p3), .val (.ref b1), .val (.ref b36), .val (.ref b57), .val (.int K), .val (.int ((p2 % (16 : Int32)).toInt16.toInt32)), .unset] [(.int (0 : Int32))])) _
        refine XS.istore X77.here hx rfl (hb hby at_312) rfl (l' := #[.val (.int p1), .val (.int p2), .val (.int p3), .val (.ref b1), .val (.ref b36), .val (.ref b57), .val (.int K), .val (.int ((p2 % (16 : Int32)).toInt16.toInt32)), .val (.int (0 : Int32))]) rfl ?_
        show Steps p.tables e below (T77.setTop (mkF m 314 #[.val (.int p1), .val (.int p2), .val (.int p3), .val (.ref b1), .val (.ref b36), .val (.ref b57), .val (.int K), .val (.int ((p2 % (16 : Int32)).toInt16.toInt32)), .val (.int (0 : Int32))] [])) _
        refine XS.aloadN X77.here hx rfl (hb hby at_314) rfl rfl ?_
        show Steps p.tables e below (T77.setTop (mkF m 315 #[.val (.int p1), .val (.int p2), .val (.int p3), .val (.ref b1), .val (.ref b36), .val (.ref b57), .val (.int K), .val (.int ((p2 % (16 : Int32)).toInt16.toInt32)), .val (.int (0 : Int32))] [(.ref b1)])) _
        refine XS.iload X77.here hx rfl (hb hby at_315) rfl ?_
        show Steps p.tables e below (T77.setTop (mkF m 317 #[.val (.int p1), .val (.int p2), .val (.int p3), .val (.ref b1), .val (.ref b36), .val (.ref b57), .val (.int K), .val (.int ((p2 % (16 : Int32)).toInt16.toInt32)), .val (.int (0 : Int32))] [(.int K), (.ref b1)])) _
        refine X77.aaload hx (j := K) (v := (.ref aK)) (by rw [e77]; exact Ar84.1) (State.isArrayOf_alike hZ.alike Ar84.2.1) rfl Ar84.2.2 hin84 hat84 (g := (mkF m 317 #[.val (.int p1), .val (.int p2), .val (.int p3), .val (.ref b1), .val (.ref b36), .val (.ref b57), .val (.int K), .val (.int ((p2 % (16 : Int32)).toInt16.toInt32)), .val (.int (0 : Int32))] [(.int K), (.ref b1)])) rfl rfl (hb hby at_317) _ ?_
        show Steps p.tables e below (T77.setTop (mkF m 318 #[.val (.int p1), .val (.int p2), .val (.int p3), .val (.ref b1), .val (.ref b36), .val (.ref b57), .val (.int K), .val (.int ((p2 % (16 : Int32)).toInt16.toInt32)), .val (.int (0 : Int32))] [(.ref aK)])) _
        refine XS.iload X77.here hx rfl (hb hby at_318) rfl ?_
        show Steps p.tables e below (T77.setTop (mkF m 320 #[.val (.int p1), .val (.int p2), .val (.int p3), .val (.ref b1), .val (.ref b36), .val (.ref b57), .val (.int K), .val (.int ((p2 % (16 : Int32)).toInt16.toInt32)), .val (.int (0 : Int32))] [(.int ((p2 % (16 : Int32)).toInt16.toInt32)), (.ref aK)])) _
        refine st85.trans ?_
        show Steps p.tables e below (T85.setTop (mkF m 323 #[.val (.int p1), .val (.int p2), .val (.int p3), .val (.ref b1), .val (.ref b36), .val (.ref b57), .val (.int K), .val (.int ((p2 % (16 : Int32)).toInt16.toInt32)), .val (.int (0 : Int32))] [(.int (0 : Int32))])) _
        refine XS.iload X85.here hx rfl (hb hby at_323) rfl ?_
        show Steps p.tables e below (T85.setTop (mkF m 325 #[.val (.int p1), .val (.int p2), .val (.int p3), .val (.ref b1), .val (.ref b36), .val (.ref b57), .val (.int K), .val (.int ((p2 % (16 : Int32)).toInt16.toInt32)), .val (.int (0 : Int32))] [(.int (0 : Int32)), (.int (0 : Int32))])) _
        refine XS.icmpNo X85.here hx rfl (hb hby at_325) rfl (teq (by decide : ((0 : Int32) = (0 : Int32)))).2 ?_
        show Steps p.tables e below (T85.setTop (mkF m 328 #[.val (.int p1), .val (.int p2), .val (.int p3), .val (.ref b1), .val (.ref b36), .val (.ref b57), .val (.int K), .val (.int ((p2 % (16 : Int32)).toInt16.toInt32)), .val (.int (0 : Int32))] [])) _
        refine XT.iconstV X85.here hx rfl (1 : Int32) (hb hby at_328) (by decide) ?_
        show Steps p.tables e below (T85.setTop (mkF m 329 #[.val (.int p1), .val (.int p2), .val (.int p3), .val (.ref b1), .val (.ref b36), .val (.ref b57), .val (.int K), .val (.int ((p2 % (16 : Int32)).toInt16.toInt32)), .val (.int (0 : Int32))] [(.int (1 : Int32))])) _
        refine XS.goto X85.here hx rfl (pc0 := 329) (pc' := 333) rfl (hb hby at_329) (by decide) (by decide) ?_
        exact k)
      obtain ⟨fs, hr, hrun, hended, hW, hsame⟩ := X85.leave (v := some (.int (1 : Int32))) (fun h => by rw [Bd.returns] at h; cases h)
      refine ⟨_, _, pre86 _ ?_, hrun, hended, _, _, rfl, ?_, ⟨_, rfl⟩, hW, hsame.mono (by decide) (by decide)⟩
      · show Steps p.tables e below (T85.setTop (mkF m 333 #[.val (.int p1), .val (.int p2), .val (.int p3), .val (.ref b1), .val (.ref b36), .val (.ref b57), .val (.int K), .val (.int ((p2 % (16 : Int32)).toInt16.toInt32)), .val (.int (0 : Int32))] [(.int (1 : Int32))])) _
        exact retOut X85 hx Bd.returns rfl (Or.inl ⟨rfl, by simp, _, rfl⟩) (hb hby at_333) hr
      · show Q0 Z p1 p2 p3  h0 n0 _ T85.heap _
        rw [e85]
        exact ⟨rfl, N85⟩
    · have _ := 0
      obtain ⟨cl87, Ar87, q87, S87, n87', H87, G87⟩ := id V77
      have hin87 : ¬ (K < 0 ∨ cl87.slots.size ≤ (K).toNatClampNeg) := inb_of S87 (own_inb hi)
      have hat87 : cl87.slots[(K).toNatClampNeg]? = some (.int (own_mx K)) := Has.at H87 hin87 (own_mxat hi)
      have pre88 : ∀ t, Steps p.tables e below (T77.setTop (mkF m 304 #[.val (.int p1), .val (.int p2), .val (.int p3), .val (.ref b1), .val (.ref b36), .val (.ref b57), .val (.int K), .val (.int ((p2 % (16 : Int32)).toInt16.toInt32)), .unset] [(.int (own_mx K)), (.int ((p2 % (16 : Int32)).toInt16.toInt32))])) t → Steps p.tables e below (s₁.setTop (entryFrame m #[(.int p1), (.int p2), (.int p3)] maxLocals)) t := fun t k => pre82 t (by
        show Steps p.tables e below (T77.setTop (mkF m 294 #[.val (.int p1), .val (.int p2), .val (.int p3), .val (.ref b1), .val (.ref b36), .val (.ref b57), .val (.int K), .val (.int ((p2 % (16 : Int32)).toInt16.toInt32)), .unset] [(.int (own_mn K)), (.int ((p2 % (16 : Int32)).toInt16.toInt32))])) _
        refine XS.icmpNo X77.here hx rfl (hb hby at_294) rfl (flt hc294_83).1 ?_
        show Steps p.tables e below (T77.setTop (mkF m 297 #[.val (.int p1), .val (.int p2), .val (.int p3), .val (.ref b1), .val (.ref b36), .val (.ref b57), .val (.int K), .val (.int ((p2 % (16 : Int32)).toInt16.toInt32)), .unset] [])) _
        refine XS.iload X77.here hx rfl (hb hby at_297) rfl ?_
        show Steps p.tables e below (T77.setTop (mkF m 299 #[.val (.int p1), .val (.int p2), .val (.int p3), .val (.ref b1), .val (.ref b36), .val (.ref b57), .val (.int K), .val (.int ((p2 % (16 : Int32)).toInt16.toInt32)), .unset] [(.int ((p2 % (16 : Int32)).toInt16.toInt32))])) _
        refine XS.aload X77.here hx rfl (hb hby at_299) rfl rfl ?_
        show Steps p.tables e below (T77.setTop (mkF m 301 #[.val (.int p1), .val (.int p2), .val (.int p3), .val (.ref b1), .val (.ref b36), .val (.ref b57), .val (.int K), .val (.int ((p2 % (16 : Int32)).toInt16.toInt32)), .unset] [(.ref b57), (.int ((p2 % (16 : Int32)).toInt16.toInt32))])) _
        refine XS.iload X77.here hx rfl (hb hby at_301) rfl ?_
        show Steps p.tables e below (T77.setTop (mkF m 303 #[.val (.int p1), .val (.int p2), .val (.int p3), .val (.ref b1), .val (.ref b36), .val (.ref b57), .val (.int K), .val (.int ((p2 % (16 : Int32)).toInt16.toInt32)), .unset] [(.int K), (.ref b57), (.int ((p2 % (16 : Int32)).toInt16.toInt32))])) _
        refine X77.iaload hx (j := K) (v := (.int (own_mx K))) (by rw [e77]; exact Ar87.1) (State.isArrayOf_alike hZ.alike Ar87.2.1) Ar87.2.2 hin87 hat87 (g := (mkF m 303 #[.val (.int p1), .val (.int p2), .val (.int p3), .val (.ref b1), .val (.ref b36), .val (.ref b57), .val (.int K), .val (.int ((p2 % (16 : Int32)).toInt16.toInt32)), .unset] [(.int K), (.ref b57), (.int ((p2 % (16 : Int32)).toInt16.toInt32))])) rfl rfl (hb hby at_303) _ ?_
        exact k)
      by_cases hc304_89 : (own_mx K) < ((p2 % (16 : Int32)).toInt16.toInt32)
      · have _ := 0
        obtain ⟨cl90, Ar90, q90, S90, n90', H90, G90⟩ := id V77_b1
        have hin90 : ¬ (K < 0 ∨ cl90.slots.size ≤ (K).toNatClampNeg) := inb_of S90 (own_inb hi)
        have hat90 : cl90.slots[(K).toNatClampNeg]? = some (.ref aK) := Has.at H90 hin90 hat
        obtain ⟨cq91, kq91, q91a, q91b, q91c⟩ := isOf hZ e77 (Ea.ext O77)
        obtain ⟨_, _, ⟨T91, L91, k91, n91⟩, -, X91, ⟨Lc91, hQ91, l91, y91, z91⟩, st91⟩ := X77.virtualBack hx (y := (⟨"com/example/hursley/hursley/wire/ApiKey", "supports", "(S)Z"⟩ : MethodName)) (z := (⟨"com/example/hursley/hursley/wire/ApiKey", "supports", "(S)Z"⟩ : MethodName)) hown (mvT hZ (hw _ (List.mem_of_getElem? (i := 36) rfl))) (mvT hZ (hw _ (List.mem_of_getElem? (i := 37) rfl))) (notFace_of_selects (args := #[]) (mvT hZ (hw _ (List.mem_of_getElem? (i := 39) rfl)))) (mvT hZ (hw _ (List.mem_of_getElem? (i := 39) rfl))) (mvT hZ (hw _ (List.mem_of_getElem? (i := 38) rfl))) (by decide) (backOf (W := 0) (rm_sup l Z a0 hw [] aK ((p2 % (16 : Int32)).toInt16.toInt32) h77 n0 (Nat.le_trans Z0 O77.1) (own_mn K) (own_mx K) (Fmn.ext O77) (Fmx.ext O77) (0 : Int32) (by simp only [own_sup, if_neg hc294_83, if_pos hc304_89])) hZ (hw _ (List.mem_of_getElem? (i := 40) rfl)) (hw _ (List.mem_of_getElem? (i := 3) rfl)) (by decide) (by decide)) q91a q91c (g := (mkF m 320 #[.val (.int p1), .val (.int p2), .val (.int p3), .val (.ref b1), .val (.ref b36), .val (.ref b57), .val (.int K), .val (.int ((p2 % (16 : Int32)).toInt16.toInt32)), .val (.int (0 : Int32))] [(.int ((p2 % (16 : Int32)).toInt16.toInt32)), (.ref aK)])) rfl (by rw [hml]; rfl) (Steps.refl _) (argsL := [(.int ((p2 % (16 : Int32)).toInt16.toInt32))]) (rest := []) (lenOf pd_0 rfl) rfl (by show 2 * 0 + _ ≤ _; exact Nat.le_of_eq rfl) (hb hby at_320) (fun _ _ => ⟨rfl, e77, (by decide : 3 + 0 ≤ _), (by decide : 45 + 0 ≤ _)⟩)
        dsimp only [Pt.U, Pt.locs, Pt.cells, Pt.slots] at X91 l91 y91 z91 st91 hQ91
        rw [y91, z91] at X91
        obtain ⟨rfl, N91q, e91⟩ := hQ91
        have N91 : Fr n0 L91 := by rw [l91]; exact Fr.app N77 N91q
        have pre92 : ∀ t, Steps p.tables e below (T91.setTop (mkF m 333 #[.val (.int p1), .val (.int p2), .val (.int p3), .val (.ref b1), .val (.ref b36), .val (.ref b57), .val (.int K), .val (.int ((p2 % (16 : Int32)).toInt16.toInt32)), .val (.int (0 : Int32))] [(.int (1 : Int32))])) t → Steps p.tables e below (s₁.setTop (entryFrame m #[(.int p1), (.int p2), (.int p3)] maxLocals)) t := fun t k => pre88 t (by
          show Steps p.tables e below (T77.setTop (mkF m 304 #[.val (.int p1), .val (.int p2), .val (.int p3), .val (.ref b1), .val (.ref b36), .val (.ref b57), .val (.int K), .val (.int ((p2 % (16 : Int32)).toInt16.toInt32)), .unset] [(.int (own_mx K)), (.int ((p2 % (16 : Int32)).toInt16.toInt32))])) _
          refine XS.icmpYes X77.here hx rfl (pc0 := 304) (pc' := 311) rfl (hb hby at_304) rfl (tlt hc304_89).2.2.1 (by decide) (by decide) ?_
          show Steps p.tables e below (T77.setTop (mkF m 311 #[.val (.int p1), .val (.int p2), .val (.int p3), .val (.ref b1), .val (.ref b36), .val (.ref b57), .val (.int K), .val (.int ((p2 % (16 : Int32)).toInt16.toInt32)), .unset] [])) _
          refine XT.iconstV X77.here hx rfl (0 : Int32) (hb hby at_311) (by decide) ?_
          show Steps p.tables e below (T77.setTop (mkF m 312 #[.val (.int p1), .val (.int p2), .val (.int p3), .val (.ref b1), .val (.ref b36), .val (.ref b57), .val (.int K), .val (.int ((p2 % (16 : Int32)).toInt16.toInt32)), .unset] [(.int (0 : Int32))])) _
          refine XS.istore X77.here hx rfl (hb hby at_312) rfl (l' := #[.val (.int p1), .val (.int p2), .val (.int p3), .val (.ref b1), .val (.ref b36), .val (.ref b57), .val (.int K), .val (.int ((p2 % (16 : Int32)).toInt16.toInt32)), .val (.int (0 : Int32))]) rfl ?_
          show Steps p.tables e below (T77.setTop (mkF m 314 #[.val (.int p1), .val (.int p2), .val (.int p3), .val (.ref b1), .val (.ref b36), .val (.ref b57), .val (.int K), .val (.int ((p2 % (16 : Int32)).toInt16.toInt32)), .val (.int (0 : Int32))] [])) _
          refine XS.aloadN X77.here hx rfl (hb hby at_314) rfl rfl ?_
          show Steps p.tables e below (T77.setTop (mkF m 315 #[.val (.int p1), .val (.int p2), .val (.int p3), .val (.ref b1), .val (.ref b36), .val (.ref b57), .val (.int K), .val (.int ((p2 % (16 : Int32)).toInt16.toInt32)), .val (.int (0 : Int32))] [(.ref b1)])) _
          refine XS.iload X77.here hx rfl (hb hby at_315) rfl ?_
          show Steps p.tables e below (T77.setTop (mkF m 317 #[.val (.int p1), .val (.int p2), .val (.int p3), .val (.ref b1), .val (.ref b36), .val (.ref b57), .val (.int K), .val (.int ((p2 % (16 : Int32)).toInt16.toInt32)), .val (.int (0 : Int32))] [(.int K), (.ref b1)])) _
          refine X77.aaload hx (j := K) (v := (.ref aK)) (by rw [e77]; exact Ar90.1) (State.isArrayOf_alike hZ.alike Ar90.2.1) rfl Ar90.2.2 hin90 hat90 (g := (mkF m 317 #[.val (.int p1), .val (.int p2), .val (.int p3), .val (.ref b1), .val (.ref b36), .val (.ref b57), .val (.int K), .val (.int ((p2 % (16 : Int32)).toInt16.toInt32)), .val (.int (0 : Int32))] [(.int K), (.ref b1)])) rfl rfl (hb hby at_317) _ ?_
          show Steps p.tables e below (T77.setTop (mkF m 318 #[.val (.int p1), .val (.int p2), .val (.int p3), .val (.ref b1), .val (.ref b36), .val (.ref b57), .val (.int K), .val (.int ((p2 % (16 : Int32)).toInt16.toInt32)), .val (.int (0 : Int32))] [(.ref aK)])) _
          refine XS.iload X77.here hx rfl (hb hby at_318) rfl ?_
          show Steps p.tables e below (T77.setTop (mkF m 320 #[.val (.int p1), .val (.int p2), .val (.int p3), .val (.ref b1), .val (.ref b36), .val (.ref b57), .val (.int K), .val (.int ((p2 % (16 : Int32)).toInt16.toInt32)), .val (.int (0 : Int32))] [(.int ((p2 % (16 : Int32)).toInt16.toInt32)), (.ref aK)])) _
          refine st91.trans ?_
          show Steps p.tables e below (T91.setTop (mkF m 323 #[.val (.int p1), .val (.int p2), .val (.int p3), .val (.ref b1), .val (.ref b36), .val (.ref b57), .val (.int K), .val (.int ((p2 % (16 : Int32)).toInt16.toInt32)), .val (.int (0 : Int32))] [(.int (0 : Int32))])) _
          refine XS.iload X91.here hx rfl (hb hby at_323) rfl ?_
          show Steps p.tables e below (T91.setTop (mkF m 325 #[.val (.int p1), .val (.int p2), .val (.int p3), .val (.ref b1), .val (.ref b36), .val (.ref b57), .val (.int K), .val (.int ((p2 % (16 : Int32)).toInt16.toInt32)), .val (.int (0 : Int32))] [(.int (0 : Int32)), (.int (0 : Int32))])) _
          refine XS.icmpNo X91.here hx rfl (hb hby at_325) rfl (teq (by decide : ((0 : Int32) = (0 : Int32)))).2 ?_
          show Steps p.tables e below (T91.setTop (mkF m 328 #[.val (.int p1), .val (.int p2), .val (.int p3), .val (.ref b1), .val (.ref b36), .val (.ref b57), .val (.int K), .val (.int ((p2 % (16 : Int32)).toInt16.toInt32)), .val (.int (0 : Int32))] [])) _
          refine XT.iconstV X91.here hx rfl (1 : Int32) (hb hby at_328) (by decide) ?_
          show Steps p.tables e below (T91.setTop (mkF m 329 #[.val (.int p1), .val (.int p2), .val (.int p3), .val (.ref b1), .val (.ref b36), .val (.ref b57), .val (.int K), .val (.int ((p2 % (16 : Int32)).toInt16.toInt32)), .val (.int (0 : Int32))] [(.int (1 : Int32))])) _
          refine XS.goto X91.here hx rfl (pc0 := 329) (pc' := 333) rfl (hb hby at_329) (by decide) (by decide) ?_
          exact k)
        obtain ⟨fs, hr, hrun, hended, hW, hsame⟩ := X91.leave (v := some (.int (1 : Int32))) (fun h => by rw [Bd.returns] at h; cases h)
        refine ⟨_, _, pre92 _ ?_, hrun, hended, _, _, rfl, ?_, ⟨_, rfl⟩, hW, hsame.mono (by decide) (by decide)⟩
        · show Steps p.tables e below (T91.setTop (mkF m 333 #[.val (.int p1), .val (.int p2), .val (.int p3), .val (.ref b1), .val (.ref b36), .val (.ref b57), .val (.int K), .val (.int ((p2 % (16 : Int32)).toInt16.toInt32)), .val (.int (0 : Int32))] [(.int (1 : Int32))])) _
          exact retOut X91 hx Bd.returns rfl (Or.inl ⟨rfl, by simp, _, rfl⟩) (hb hby at_333) hr
        · show Q0 Z p1 p2 p3  h0 n0 _ T91.heap _
          rw [e91]
          exact ⟨rfl, N91⟩
      · have _ := 0
        obtain ⟨cl93, Ar93, q93, S93, n93', H93, G93⟩ := id V77_b1
        have hin93 : ¬ (K < 0 ∨ cl93.slots.size ≤ (K).toNatClampNeg) := inb_of S93 (own_inb hi)
        have hat93 : cl93.slots[(K).toNatClampNeg]? = some (.ref aK) := Has.at H93 hin93 hat
        obtain ⟨cq94, kq94, q94a, q94b, q94c⟩ := isOf hZ e77 (Ea.ext O77)
        obtain ⟨_, _, ⟨T94, L94, k94, n94⟩, -, X94, ⟨Lc94, hQ94, l94, y94, z94⟩, st94⟩ := X77.virtualBack hx (y := (⟨"com/example/hursley/hursley/wire/ApiKey", "supports", "(S)Z"⟩ : MethodName)) (z := (⟨"com/example/hursley/hursley/wire/ApiKey", "supports", "(S)Z"⟩ : MethodName)) hown (mvT hZ (hw _ (List.mem_of_getElem? (i := 36) rfl))) (mvT hZ (hw _ (List.mem_of_getElem? (i := 37) rfl))) (notFace_of_selects (args := #[]) (mvT hZ (hw _ (List.mem_of_getElem? (i := 39) rfl)))) (mvT hZ (hw _ (List.mem_of_getElem? (i := 39) rfl))) (mvT hZ (hw _ (List.mem_of_getElem? (i := 38) rfl))) (by decide) (backOf (W := 0) (rm_sup l Z a0 hw [] aK ((p2 % (16 : Int32)).toInt16.toInt32) h77 n0 (Nat.le_trans Z0 O77.1) (own_mn K) (own_mx K) (Fmn.ext O77) (Fmx.ext O77) (1 : Int32) (by simp only [own_sup, if_neg hc294_83, if_neg hc304_89])) hZ (hw _ (List.mem_of_getElem? (i := 40) rfl)) (hw _ (List.mem_of_getElem? (i := 3) rfl)) (by decide) (by decide)) q94a q94c (g := (mkF m 320 #[.val (.int p1), .val (.int p2), .val (.int p3), .val (.ref b1), .val (.ref b36), .val (.ref b57), .val (.int K), .val (.int ((p2 % (16 : Int32)).toInt16.toInt32)), .val (.int (1 : Int32))] [(.int ((p2 % (16 : Int32)).toInt16.toInt32)), (.ref aK)])) rfl (by rw [hml]; rfl) (Steps.refl _) (argsL := [(.int ((p2 % (16 : Int32)).toInt16.toInt32))]) (rest := []) (lenOf pd_0 rfl) rfl (by show 2 * 0 + _ ≤ _; exact Nat.le_of_eq rfl) (hb hby at_320) (fun _ _ => ⟨rfl, e77, (by decide : 3 + 0 ≤ _), (by decide : 45 + 0 ≤ _)⟩)
        dsimp only [Pt.U, Pt.locs, Pt.cells, Pt.slots] at X94 l94 y94 z94 st94 hQ94
        rw [y94, z94] at X94
        obtain ⟨rfl, N94q, e94⟩ := hQ94
        have N94 : Fr n0 L94 := by rw [l94]; exact Fr.app N77 N94q
        have pre95 : ∀ t, Steps p.tables e below (T94.setTop (mkF m 333 #[.val (.int p1), .val (.int p2), .val (.int p3), .val (.ref b1), .val (.ref b36), .val (.ref b57), .val (.int K), .val (.int ((p2 % (16 : Int32)).toInt16.toInt32)), .val (.int (1 : Int32))] [(.int (1 : Int32))])) t → Steps p.tables e below (s₁.setTop (entryFrame m #[(.int p1), (.int p2), (.int p3)] maxLocals)) t := fun t k => pre88 t (by
          show Steps p.tables e below (T77.setTop (mkF m 304 #[.val (.int p1), .val (.int p2), .val (.int p3), .val (.ref b1), .val (.ref b36), .val (.ref b57), .val (.int K), .val (.int ((p2 % (16 : Int32)).toInt16.toInt32)), .unset] [(.int (own_mx K)), (.int ((p2 % (16 : Int32)).toInt16.toInt32))])) _
          refine XS.icmpNo X77.here hx rfl (hb hby at_304) rfl (flt hc304_89).2.2.1 ?_
          show Steps p.tables e below (T77.setTop (mkF m 307 #[.val (.int p1), .val (.int p2), .val (.int p3), .val (.ref b1), .val (.ref b36), .val (.ref b57), .val (.int K), .val (.int ((p2 % (16 : Int32)).toInt16.toInt32)), .unset] [])) _
          refine XT.iconstV X77.here hx rfl (1 : Int32) (hb hby at_307) (by decide) ?_
          show Steps p.tables e below (T77.setTop (mkF m 308 #[.val (.int p1), .val (.int p2), .val (.int p3), .val (.ref b1), .val (.ref b36), .val (.ref b57), .val (.int K), .val (.int ((p2 % (16 : Int32)).toInt16.toInt32)), .unset] [(.int (1 : Int32))])) _
          refine XS.goto X77.here hx rfl (pc0 := 308) (pc' := 312) rfl (hb hby at_308) (by decide) (by decide) ?_
          show Steps p.tables e below (T77.setTop (mkF m 312 #[.val (.int p1), .val (.int p2), .val (.int p3), .val (.ref b1), .val (.ref b36), .val (.ref b57), .val (.int K), .val (.int ((p2 % (16 : Int32)).toInt16.toInt32)), .unset] [(.int (1 : Int32))])) _
          refine XS.istore X77.here hx rfl (hb hby at_312) rfl (l' := #[.val (.int p1), .val (.int p2), .val (.int p3), .val (.ref b1), .val (.ref b36), .val (.ref b57), .val (.int K), .val (.int ((p2 % (16 : Int32)).toInt16.toInt32)), .val (.int (1 : Int32))]) rfl ?_
          show Steps p.tables e below (T77.setTop (mkF m 314 #[.val (.int p1), .val (.int p2), .val (.int p3), .val (.ref b1), .val (.ref b36), .val (.ref b57), .val (.int K), .val (.int ((p2 % (16 : Int32)).toInt16.toInt32)), .val (.int (1 : Int32))] [])) _
          refine XS.aloadN X77.here hx rfl (hb hby at_314) rfl rfl ?_
          show Steps p.tables e below (T77.setTop (mkF m 315 #[.val (.int p1), .val (.int p2), .val (.int p3), .val (.ref b1), .val (.ref b36), .val (.ref b57), .val (.int K), .val (.int ((p2 % (16 : Int32)).toInt16.toInt32)), .val (.int (1 : Int32))] [(.ref b1)])) _
          refine XS.iload X77.here hx rfl (hb hby at_315) rfl ?_
          show Steps p.tables e below (T77.setTop (mkF m 317 #[.val (.int p1), .val (.int p2), .val (.int p3), .val (.ref b1), .val (.ref b36), .val (.ref b57), .val (.int K), .val (.int ((p2 % (16 : Int32)).toInt16.toInt32)), .val (.int (1 : Int32))] [(.int K), (.ref b1)])) _
          refine X77.aaload hx (j := K) (v := (.ref aK)) (by rw [e77]; exact Ar93.1) (State.isArrayOf_alike hZ.alike Ar93.2.1) rfl Ar93.2.2 hin93 hat93 (g := (mkF m 317 #[.val (.int p1), .val (.int p2), .val (.int p3), .val (.ref b1), .val (.ref b36), .val (.ref b57), .val (.int K), .val (.int ((p2 % (16 : Int32)).toInt16.toInt32)), .val (.int (1 : Int32))] [(.int K), (.ref b1)])) rfl rfl (hb hby at_317) _ ?_
          show Steps p.tables e below (T77.setTop (mkF m 318 #[.val (.int p1), .val (.int p2), .val (.int p3), .val (.ref b1), .val (.ref b36), .val (.ref b57), .val (.int K), .val (.int ((p2 % (16 : Int32)).toInt16.toInt32)), .val (.int (1 : Int32))] [(.ref aK)])) _
          refine XS.iload X77.here hx rfl (hb hby at_318) rfl ?_
          show Steps p.tables e below (T77.setTop (mkF m 320 #[.val (.int p1), .val (.int p2), .val (.int p3), .val (.ref b1), .val (.ref b36), .val (.ref b57), .val (.int K), .val (.int ((p2 % (16 : Int32)).toInt16.toInt32)), .val (.int (1 : Int32))] [(.int ((p2 % (16 : Int32)).toInt16.toInt32)), (.ref aK)])) _
          refine st94.trans ?_
          show Steps p.tables e below (T94.setTop (mkF m 323 #[.val (.int p1), .val (.int p2), .val (.int p3), .val (.ref b1), .val (.ref b36), .val (.ref b57), .val (.int K), .val (.int ((p2 % (16 : Int32)).toInt16.toInt32)), .val (.int (1 : Int32))] [(.int (1 : Int32))])) _
          refine XS.iload X94.here hx rfl (hb hby at_323) rfl ?_
          show Steps p.tables e below (T94.setTop (mkF m 325 #[.val (.int p1), .val (.int p2), .val (.int p3), .val (.ref b1), .val (.ref b36), .val (.ref b57), .val (.int K), .val (.int ((p2 % (16 : Int32)).toInt16.toInt32)), .val (.int (1 : Int32))] [(.int (1 : Int32)), (.int (1 : Int32))])) _
          refine XS.icmpNo X94.here hx rfl (hb hby at_325) rfl (teq (by decide : ((1 : Int32) = (1 : Int32)))).2 ?_
          show Steps p.tables e below (T94.setTop (mkF m 328 #[.val (.int p1), .val (.int p2), .val (.int p3), .val (.ref b1), .val (.ref b36), .val (.ref b57), .val (.int K), .val (.int ((p2 % (16 : Int32)).toInt16.toInt32)), .val (.int (1 : Int32))] [])) _
          refine XT.iconstV X94.here hx rfl (1 : Int32) (hb hby at_328) (by decide) ?_
          show Steps p.tables e below (T94.setTop (mkF m 329 #[.val (.int p1), .val (.int p2), .val (.int p3), .val (.ref b1), .val (.ref b36), .val (.ref b57), .val (.int K), .val (.int ((p2 % (16 : Int32)).toInt16.toInt32)), .val (.int (1 : Int32))] [(.int (1 : Int32))])) _
          refine XS.goto X94.here hx rfl (pc0 := 329) (pc' := 333) rfl (hb hby at_329) (by decide) (by decide) ?_
          exact k)
        obtain ⟨fs, hr, hrun, hended, hW, hsame⟩ := X94.leave (v := some (.int (1 : Int32))) (fun h => by rw [Bd.returns] at h; cases h)
        refine ⟨_, _, pre95 _ ?_, hrun, hended, _, _, rfl, ?_, ⟨_, rfl⟩, hW, hsame.mono (by decide) (by decide)⟩
        · show Steps p.tables e below (T94.setTop (mkF m 333 #[.val (.int p1), .val (.int p2), .val (.int p3), .val (.ref b1), .val (.ref b36), .val (.ref b57), .val (.int K), .val (.int ((p2 % (16 : Int32)).toInt16.toInt32)), .val (.int (1 : Int32))] [(.int (1 : Int32))])) _
          exact retOut X94 hx Bd.returns rfl (Or.inl ⟨rfl, by simp, _, rfl⟩) (hb hby at_333) hr
        · show Q0 Z p1 p2 p3  h0 n0 _ T94.heap _
          rw [e94]
          exact ⟨rfl, N94⟩
  · have _ := 0
    obtain ⟨cl96, Ar96, q96, S96, n96', H96, G96⟩ := id V77_b36
    have hin96 : ¬ (K < 0 ∨ cl96.slots.size ≤ (K).toNatClampNeg) := inb_of S96 (own_inb hi)
    have hat96 : cl96.slots[(K).toNatClampNeg]? = some (.int (own_mn K)) := Has.at H96 hin96 (own_mnat hi)
    have pre97 : ∀ t, Steps p.tables e below (T77.setTop (mkF m 294 #[.val (.int p1), .val (.int p2), .val (.int p3), .val (.ref b1), .val (.ref b36), .val (.ref b57), .val (.int K), .val (.int (p2.toInt16.toInt32)), .unset] [(.int (own_mn K)), (.int (p2.toInt16.toInt32))])) t → Steps p.tables e below (s₁.setTop (entryFrame m #[(.int p1), (.int p2), (.int p3)] maxLocals)) t := fun t k => pre79 t (by
      show Steps p.tables e below (T77.setTop (mkF m 272 #[.val (.int p1), .val (.int p2), .val (.int p3), .val (.ref b1), .val (.ref b36), .val (.ref b57), .val (.int K), .unset, .unset] [(.int (p3 &&& (1 : Int32)))])) _
      refine XS.ifNo X77.here hx rfl (hb hby at_272) rfl ((if0 _ _).trans (feq hc272_80).1) ?_
      show Steps p.tables e below (T77.setTop (mkF m 275 #[.val (.int p1), .val (.int p2), .val (.int p3), .val (.ref b1), .val (.ref b36), .val (.ref b57), .val (.int K), .unset, .unset] [])) _
      refine XS.iloadN X77.here hx rfl (hb hby at_275) rfl ?_
      show Steps p.tables e below (T77.setTop (mkF m 276 #[.val (.int p1), .val (.int p2), .val (.int p3), .val (.ref b1), .val (.ref b36), .val (.ref b57), .val (.int K), .unset, .unset] [(.int p2)])) _
      refine XS.i2s X77.here hx rfl (hb hby at_276) rfl ?_
      show Steps p.tables e below (T77.setTop (mkF m 277 #[.val (.int p1), .val (.int p2), .val (.int p3), .val (.ref b1), .val (.ref b36), .val (.ref b57), .val (.int K), .unset, .unset] [(.int (p2.toInt16.toInt32))])) _
      refine XS.goto X77.here hx rfl (pc0 := 277) (pc' := 285) rfl (hb hby at_277) (by decide) (by decide) ?_
      show Steps p.tables e below (T77.setTop (mkF m 285 #[.val (.int p1), .val (.int p2), .val (.int p3), .val (.ref b1), .val (.ref b36), .val (.ref b57), .val (.int K), .unset, .unset] [(.int (p2.toInt16.toInt32))])) _
      refine XS.istore X77.here hx rfl (hb hby at_285) rfl (l' := #[.val (.int p1), .val (.int p2), .val (.int p3), .val (.ref b1), .val (.ref b36), .val (.ref b57), .val (.int K), .val (.int (p2.toInt16.toInt32)), .unset]) rfl ?_
      show Steps p.tables e below (T77.setTop (mkF m 287 #[.val (.int p1), .val (.int p2), .val (.int p3), .val (.ref b1), .val (.ref b36), .val (.ref b57), .val (.int K), .val (.int (p2.toInt16.toInt32)), .unset] [])) _
      refine XS.iload X77.here hx rfl (hb hby at_287) rfl ?_
      show Steps p.tables e below (T77.setTop (mkF m 289 #[.val (.int p1), .val (.int p2), .val (.int p3), .val (.ref b1), .val (.ref b36), .val (.ref b57), .val (.int K), .val (.int (p2.toInt16.toInt32)), .unset] [(.int (p2.toInt16.toInt32))])) _
      refine XS.aload X77.here hx rfl (hb hby at_289) rfl rfl ?_
      show Steps p.tables e below (T77.setTop (mkF m 291 #[.val (.int p1), .val (.int p2), .val (.int p3), .val (.ref b1), .val (.ref b36), .val (.ref b57), .val (.int K), .val (.int (p2.toInt16.toInt32)), .unset] [(.ref b36), (.int (p2.toInt16.toInt32))])) _
      refine XS.iload X77.here hx rfl (hb hby at_291) rfl ?_
      show Steps p.tables e below (T77.setTop (mkF m 293 #[.val (.int p1), .val (.int p2), .val (.int p3), .val (.ref b1), .val (.ref b36), .val (.ref b57), .val (.int K), .val (.int (p2.toInt16.toInt32)), .unset] [(.int K), (.ref b36), (.int (p2.toInt16.toInt32))])) _
      refine X77.iaload hx (j := K) (v := (.int (own_mn K))) (by rw [e77]; exact Ar96.1) (State.isArrayOf_alike hZ.alike Ar96.2.1) Ar96.2.2 hin96 hat96 (g := (mkF m 293 #[.val (.int p1), .val (.int p2), .val (.int p3), .val (.ref b1), .val (.ref b36), .val (.ref b57), .val (.int K), .val (.int (p2.toInt16.toInt32)), .unset] [(.int K), (.ref b36), (.int (p2.toInt16.toInt32))])) rfl rfl (hb hby at_293) _ ?_
      exact k)
    by_cases hc294_98 : (p2.toInt16.toInt32) < (own_mn K)
    · have _ := 0
      obtain ⟨cl99, Ar99, q99, S99, n99', H99, G99⟩ := id V77_b1
      have hin99 : ¬ (K < 0 ∨ cl99.slots.size ≤ (K).toNatClampNeg) := inb_of S99 (own_inb hi)
      have hat99 : cl99.slots[(K).toNatClampNeg]? = some (.ref aK) := Has.at H99 hin99 hat
      obtain ⟨cq100, kq100, q100a, q100b, q100c⟩ := isOf hZ e77 (Ea.ext O77)
      obtain ⟨_, _, ⟨T100, L100, k100, n100⟩, -, X100, ⟨Lc100, hQ100, l100, y100, z100⟩, st100⟩ := X77.virtualBack hx (y := (⟨"com/example/hursley/hursley/wire/ApiKey", "supports", "(S)Z"⟩ : MethodName)) (z := (⟨"com/example/hursley/hursley/wire/ApiKey", "supports", "(S)Z"⟩ : MethodName)) hown (mvT hZ (hw _ (List.mem_of_getElem? (i := 36) rfl))) (mvT hZ (hw _ (List.mem_of_getElem? (i := 37) rfl))) (notFace_of_selects (args := #[]) (mvT hZ (hw _ (List.mem_of_getElem? (i := 39) rfl)))) (mvT hZ (hw _ (List.mem_of_getElem? (i := 39) rfl))) (mvT hZ (hw _ (List.mem_of_getElem? (i := 38) rfl))) (by decide) (backOf (W := 0) (rm_sup l Z a0 hw [] aK (p2.toInt16.toInt32) h77 n0 (Nat.le_trans Z0 O77.1) (own_mn K) (own_mx K) (Fmn.ext O77) (Fmx.ext O77) (0 : Int32) (by simp only [own_sup, if_pos hc294_98])) hZ (hw _ (List.mem_of_getElem? (i := 40) rfl)) (hw _ (List.mem_of_getElem? (i := 3) rfl)) (by decide) (by decide)) q100a q100c (g := (mkF m 320 #[.val (.int p1), .val (.int p2), .val (.int p3), .val (.ref b1), .val (.ref b36), .val (.ref b57), .val (.int K), .val (.int (p2.toInt16.toInt32)), .val (.int (0 : Int32))] [(.int (p2.toInt16.toInt32)), (.ref aK)])) rfl (by rw [hml]; rfl) (Steps.refl _) (argsL := [(.int (p2.toInt16.toInt32))]) (rest := []) (lenOf pd_0 rfl) rfl (by show 2 * 0 + _ ≤ _; exact Nat.le_of_eq rfl) (hb hby at_320) (fun _ _ => ⟨rfl, e77, (by decide : 3 + 0 ≤ _), (by decide : 45 + 0 ≤ _)⟩)
      dsimp only [Pt.U, Pt.locs, Pt.cells, Pt.slots] at X100 l100 y100 z100 st100 hQ100
      rw [y100, z100] at X100
      obtain ⟨rfl, N100q, e100⟩ := hQ100
      have N100 : Fr n0 L100 := by rw [l100]; exact Fr.app N77 N100q
      have pre101 : ∀ t, Steps p.tables e below (T100.setTop (mkF m 333 #[.val (.int p1), .val (.int p2), .val (.int p3), .val (.ref b1), .val (.ref b36), .val (.ref b57), .val (.int K), .val (.int (p2.toInt16.toInt32)), .val (.int (0 : Int32))] [(.int (1 : Int32))])) t → Steps p.tables e below (s₁.setTop (entryFrame m #[(.int p1), (.int p2), (.int p3)] maxLocals)) t := fun t k => pre97 t (by
        show Steps p.tables e below (T77.setTop (mkF m 294 #[.val (.int p1), .val (.int p2), .val (.int p3), .val (.ref b1), .val (.ref b36), .val (.ref b57), .val (.int K), .val (.int (p2.toInt16.toInt32)), .unset] [(.int (own_mn K)), (.int (p2.toInt16.toInt32))])) _
        refine XS.icmpYes X77.here hx rfl (pc0 := 294) (pc' := 311) rfl (hb hby at_294) rfl (tlt hc294_98).1 (by decide) (by decide) ?_
        show Steps p.tables e below (T77.setTop (mkF m 311 #[.val (.int p1), .val (.int p2), .val (.int p3), .val (.ref b1), .val (.ref b36), .val (.ref b57), .val (.int K), .val (.int (p2.toInt16.toInt32)), .unset] [])) _
        refine XT.iconstV X77.here hx rfl (0 : Int32) (hb hby at_311) (by decide) ?_
        show Steps p.tables e below (T77.setTop (mkF m 312 #[.val (.int p1), .val (.int p2), .val (.int p3), .val (.ref b1), .val (.ref b36), .val (.ref b57), .val (.int K), .val (.int (p2.toInt16.toInt32)), .unset] [(.int (0 : Int32))])) _
        refine XS.istore X77.here hx rfl (hb hby at_312) rfl (l' := #[.val (.int p1), .val (.int p2), .val (.int p3), .val (.ref b1), .val (.ref b36), .val (.ref b57), .val (.int K), .val (.int (p2.toInt16.toInt32)), .val (.int (0 : Int32))]) rfl ?_
        show Steps p.tables e below (T77.setTop (mkF m 314 #[.val (.int p1), .val (.int p2), .val (.int p3), .val (.ref b1), .val (.ref b36), .val (.ref b57), .val (.int K), .val (.int (p2.toInt16.toInt32)), .val (.int (0 : Int32))] [])) _
        refine XS.aloadN X77.here hx rfl (hb hby at_314) rfl rfl ?_
        show Steps p.tables e below (T77.setTop (mkF m 315 #[.val (.int p1), .val (.int p2), .val (.int p3), .val (.ref b1), .val (.ref b36), .val (.ref b57), .val (.int K), .val (.int (p2.toInt16.toInt32)), .val (.int (0 : Int32))] [(.ref b1)])) _
        refine XS.iload X77.here hx rfl (hb hby at_315) rfl ?_
        show Steps p.tables e below (T77.setTop (mkF m 317 #[.val (.int p1), .val (.int p2), .val (.int p3), .val (.ref b1), .val (.ref b36), .val (.ref b57), .val (.int K), .val (.int (p2.toInt16.toInt32)), .val (.int (0 : Int32))] [(.int K), (.ref b1)])) _
        refine X77.aaload hx (j := K) (v := (.ref aK)) (by rw [e77]; exact Ar99.1) (State.isArrayOf_alike hZ.alike Ar99.2.1) rfl Ar99.2.2 hin99 hat99 (g := (mkF m 317 #[.val (.int p1), .val (.int p2), .val (.int p3), .val (.ref b1), .val (.ref b36), .val (.ref b57), .val (.int K), .val (.int (p2.toInt16.toInt32)), .val (.int (0 : Int32))] [(.int K), (.ref b1)])) rfl rfl (hb hby at_317) _ ?_
        show Steps p.tables e below (T77.setTop (mkF m 318 #[.val (.int p1), .val (.int p2), .val (.int p3), .val (.ref b1), .val (.ref b36), .val (.ref b57), .val (.int K), .val (.int (p2.toInt16.toInt32)), .val (.int (0 : Int32))] [(.ref aK)])) _
        refine XS.iload X77.here hx rfl (hb hby at_318) rfl ?_
        show Steps p.tables e below (T77.setTop (mkF m 320 #[.val (.int p1), .val (.int p2), .val (.int p3), .val (.ref b1), .val (.ref b36), .val (.ref b57), .val (.int K), .val (.int (p2.toInt16.toInt32)), .val (.int (0 : Int32))] [(.int (p2.toInt16.toInt32)), (.ref aK)])) _
        refine st100.trans ?_
        show Steps p.tables e below (T100.setTop (mkF m 323 #[.val (.int p1), .val (.int p2), .val (.int p3), .val (.ref b1), .val (.ref b36), .val (.ref b57), .val (.int K), .val (.int (p2.toInt16.toInt32)), .val (.int (0 : Int32))] [(.int (0 : Int32))])) _
        refine XS.iload X100.here hx rfl (hb hby at_323) rfl ?_
        show Steps p.tables e below (T100.setTop (mkF m 325 #[.val (.int p1), .val (.int p2), .val (.int p3), .val (.ref b1), .val (.ref b36), .val (.ref b57), .val (.int K), .val (.int (p2.toInt16.toInt32)), .val (.int (0 : Int32))] [(.int (0 : Int32)), (.int (0 : Int32))])) _
        refine XS.icmpNo X100.here hx rfl (hb hby at_325) rfl (teq (by decide : ((0 : Int32) = (0 : Int32)))).2 ?_
        show Steps p.tables e below (T100.setTop (mkF m 328 #[.val (.int p1), .val (.int p2), .val (.int p3), .val (.ref b1), .val (.ref b36), .val (.ref b57), .val (.int K), .val (.int (p2.toInt16.toInt32)), .val (.int (0 : Int32))] [])) _
        refine XT.iconstV X100.here hx rfl (1 : Int32) (hb hby at_328) (by decide) ?_
        show Steps p.tables e below (T100.setTop (mkF m 329 #[.val (.int p1), .val (.int p2), .val (.int p3), .val (.ref b1), .val (.ref b36), .val (.ref b57), .val (.int K), .val (.int (p2.toInt16.toInt32)), .val (.int (0 : Int32))] [(.int (1 : Int32))])) _
        refine XS.goto X100.here hx rfl (pc0 := 329) (pc' := 333) rfl (hb hby at_329) (by decide) (by decide) ?_
        exact k)
      obtain ⟨fs, hr, hrun, hended, hW, hsame⟩ := X100.leave (v := some (.int (1 : Int32))) (fun h => by rw [Bd.returns] at h; cases h)
      refine ⟨_, _, pre101 _ ?_, hrun, hended, _, _, rfl, ?_, ⟨_, rfl⟩, hW, hsame.mono (by decide) (by decide)⟩
      · show Steps p.tables e below (T100.setTop (mkF m 333 #[.val (.int p1), .val (.int p2), .val (.int p3), .val (.ref b1), .val (.ref b36), .val (.ref b57), .val (.int K), .val (.int (p2.toInt16.toInt32)), .val (.int (0 : Int32))] [(.int (1 : Int32))])) _
        exact retOut X100 hx Bd.returns rfl (Or.inl ⟨rfl, by simp, _, rfl⟩) (hb hby at_333) hr
      · show Q0 Z p1 p2 p3  h0 n0 _ T100.heap _
        rw [e100]
        exact ⟨rfl, N100⟩
    · have _ := 0
      obtain ⟨cl102, Ar102, q102, S102, n102', H102, G102⟩ := id V77
      have hin102 : ¬ (K < 0 ∨ cl102.slots.size ≤ (K).toNatClampNeg) := inb_of S102 (own_inb hi)
      have hat102 : cl102.slots[(K).toNatClampNeg]? = some (.int (own_mx K)) := Has.at H102 hin102 (own_mxat hi)
      have pre103 : ∀ t, Steps p.tables e below (T77.setTop (mkF m 304 #[.val (.int p1), .val (.int p2), .val (.int p3), .val (.ref b1), .val (.ref b36), .val (.ref b57), .val (.int K), .val (.int (p2.toInt16.toInt32)), .unset] [(.int (own_mx K)), (.int (p2.toInt16.toInt32))])) t → Steps p.tables e below (s₁.setTop (entryFrame m #[(.int p1), (.int p2), (.int p3)] maxLocals)) t := fun t k => pre97 t (by
        show Steps p.tables e below (T77.setTop (mkF m 294 #[.val (.int p1), .val (.int p2), .val (.int p3), .val (.ref b1), .val (.ref b36), .val (.ref b57), .val (.int K), .val (.int (p2.toInt16.toInt32)), .unset] [(.int (own_mn K)), (.int (p2.toInt16.toInt32))])) _
        refine XS.icmpNo X77.here hx rfl (hb hby at_294) rfl (flt hc294_98).1 ?_
        show Steps p.tables e below (T77.setTop (mkF m 297 #[.val (.int p1), .val (.int p2), .val (.int p3), .val (.ref b1), .val (.ref b36), .val (.ref b57), .val (.int K), .val (.int (p2.toInt16.toInt32)), .unset] [])) _
        refine XS.iload X77.here hx rfl (hb hby at_297) rfl ?_
        show Steps p.tables e below (T77.setTop (mkF m 299 #[.val (.int p1), .val (.int p2), .val (.int p3), .val (.ref b1), .val (.ref b36), .val (.ref b57), .val (.int K), .val (.int (p2.toInt16.toInt32)), .unset] [(.int (p2.toInt16.toInt32))])) _
        refine XS.aload X77.here hx rfl (hb hby at_299) rfl rfl ?_
        show Steps p.tables e below (T77.setTop (mkF m 301 #[.val (.int p1), .val (.int p2), .val (.int p3), .val (.ref b1), .val (.ref b36), .val (.ref b57), .val (.int K), .val (.int (p2.toInt16.toInt32)), .unset] [(.ref b57), (.int (p2.toInt16.toInt32))])) _
        refine XS.iload X77.here hx rfl (hb hby at_301) rfl ?_
        show Steps p.tables e below (T77.setTop (mkF m 303 #[.val (.int p1), .val (.int p2), .val (.int p3), .val (.ref b1), .val (.ref b36), .val (.ref b57), .val (.int K), .val (.int (p2.toInt16.toInt32)), .unset] [(.int K), (.ref b57), (.int (p2.toInt16.toInt32))])) _
        refine X77.iaload hx (j := K) (v := (.int (own_mx K))) (by rw [e77]; exact Ar102.1) (State.isArrayOf_alike hZ.alike Ar102.2.1) Ar102.2.2 hin102 hat102 (g := (mkF m 303 #[.val (.int p1), .val (.int p2), .val (.int p3), .val (.ref b1), .val (.ref b36), .val (.ref b57), .val (.int K), .val (.int (p2.toInt16.toInt32)), .unset] [(.int K), (.ref b57), (.int (p2.toInt16.toInt32))])) rfl rfl (hb hby at_303) _ ?_
        exact k)
      by_cases hc304_104 : (own_mx K) < (p2.toInt16.toInt32)
      · have _ := 0
        obtain ⟨cl105, Ar105, q105, S105, n105', H105, G105⟩ := id V77_b1
        have hin105 : ¬ (K < 0 ∨ cl105.slots.size ≤ (K).toNatClampNeg) := inb_of S105 (own_inb hi)
        have hat105 : cl105.slots[(K).toNatClampNeg]? = some (.ref aK) := Has.at H105 hin105 hat
        obtain ⟨cq106, kq106, q106a, q106b, q106c⟩ := isOf hZ e77 (Ea.ext O77)
        obtain ⟨_, _, ⟨T106, L106, k106, n106⟩, -, X106, ⟨Lc106, hQ106, l106, y106, z106⟩, st106⟩ := X77.virtualBack hx (y := (⟨"com/example/hursley/hursley/wire/ApiKey", "supports", "(S)Z"⟩ : MethodName)) (z := (⟨"com/example/hursley/hursley/wire/ApiKey", "supports", "(S)Z"⟩ : MethodName)) hown (mvT hZ (hw _ (List.mem_of_getElem? (i := 36) rfl))) (mvT hZ (hw _ (List.mem_of_getElem? (i := 37) rfl))) (notFace_of_selects (args := #[]) (mvT hZ (hw _ (List.mem_of_getElem? (i := 39) rfl)))) (mvT hZ (hw _ (List.mem_of_getElem? (i := 39) rfl))) (mvT hZ (hw _ (List.mem_of_getElem? (i := 38) rfl))) (by decide) (backOf (W := 0) (rm_sup l Z a0 hw [] aK (p2.toInt16.toInt32) h77 n0 (Nat.le_trans Z0 O77.1) (own_mn K) (own_mx K) (Fmn.ext O77) (Fmx.ext O77) (0 : Int32) (by simp only [own_sup, if_neg hc294_98, if_pos hc304_104])) hZ (hw _ (List.mem_of_getElem? (i := 40) rfl)) (hw _ (List.mem_of_getElem? (i := 3) rfl)) (by decide) (by decide)) q106a q106c (g := (mkF m 320 #[.val (.int p1), .val (.int p2), .val (.int p3), .val (.ref b1), .val (.ref b36), .val (.ref b57), .val (.int K), .val (.int (p2.toInt16.toInt32)), .val (.int (0 : Int32))] [(.int (p2.toInt16.toInt32)), (.ref aK)])) rfl (by rw [hml]; rfl) (Steps.refl _) (argsL := [(.int (p2.toInt16.toInt32))]) (rest := []) (lenOf pd_0 rfl) rfl (by show 2 * 0 + _ ≤ _; exact Nat.le_of_eq rfl) (hb hby at_320) (fun _ _ => ⟨rfl, e77, (by decide : 3 + 0 ≤ _), (by decide : 45 + 0 ≤ _)⟩)
        dsimp only [Pt.U, Pt.locs, Pt.cells, Pt.slots] at X106 l106 y106 z106 st106 hQ106
        rw [y106, z106] at X106
        obtain ⟨rfl, N106q, e106⟩ := hQ106
        have N106 : Fr n0 L106 := by rw [l106]; exact Fr.app N77 N106q
        have pre107 : ∀ t, Steps p.tables e below (T106.setTop (mkF m 333 #[.val (.int p1), .val (.int p2), .val (.int p3), .val (.ref b1), .val (.ref b36), .val (.ref b57), .val (.int K), .val (.int (p2.toInt16.toInt32)), .val (.int (0 : Int32))] [(.int (1 : Int32))])) t → Steps p.tables e below (s₁.setTop (entryFrame m #[(.int p1), (.int p2), (.int p3)] maxLocals)) t := fun t k => pre103 t (by
          show Steps p.tables e below (T77.setTop (mkF m 304 #[.val (.int p1), .val (.int p2), .val (.int p3), .val (.ref b1), .val (.ref b36), .val (.ref b57), .val (.int K), .val (.int (p2.toInt16.toInt32)), .unset] [(.int (own_mx K)), (.int (p2.toInt16.toInt32))])) _
          refine XS.icmpYes X77.here hx rfl (pc0 := 304) (pc' := 311) rfl (hb hby at_304) rfl (tlt hc304_104).2.2.1 (by decide) (by decide) ?_
          show Steps p.tables e below (T77.setTop (mkF m 311 #[.val (.int p1), .val (.int p2), .val (.int p3), .val (.ref b1), .val (.ref b36), .val (.ref b57), .val (.int K), .val (.int (p2.toInt16.toInt32)), .unset] [])) _
          refine XT.iconstV X77.here hx rfl (0 : Int32) (hb hby at_311) (by decide) ?_
          show Steps p.tables e below (T77.setTop (mkF m 312 #[.val (.int p1), .val (.int p2), .val (.int p3), .val (.ref b1), .val (.ref b36), .val (.ref b57), .val (.int K), .val (.int (p2.toInt16.toInt32)), .unset] [(.int (0 : Int32))])) _
          refine XS.istore X77.here hx rfl (hb hby at_312) rfl (l' := #[.val (.int p1), .val (.int p2), .val (.int p3), .val (.ref b1), .val (.ref b36), .val (.ref b57), .val (.int K), .val (.int (p2.toInt16.toInt32)), .val (.int (0 : Int32))]) rfl ?_
          show Steps p.tables e below (T77.setTop (mkF m 314 #[.val (.int p1), .val (.int p2), .val (.int p3), .val (.ref b1), .val (.ref b36), .val (.ref b57), .val (.int K), .val (.int (p2.toInt16.toInt32)), .val (.int (0 : Int32))] [])) _
          refine XS.aloadN X77.here hx rfl (hb hby at_314) rfl rfl ?_
          show Steps p.tables e below (T77.setTop (mkF m 315 #[.val (.int p1), .val (.int p2), .val (.int p3), .val (.ref b1), .val (.ref b36), .val (.ref b57), .val (.int K), .val (.int (p2.toInt16.toInt32)), .val (.int (0 : Int32))] [(.ref b1)])) _
          refine XS.iload X77.here hx rfl (hb hby at_315) rfl ?_
          show Steps p.tables e below (T77.setTop (mkF m 317 #[.val (.int p1), .val (.int p2), .val (.int p3), .val (.ref b1), .val (.ref b36), .val (.ref b57), .val (.int K), .val (.int (p2.toInt16.toInt32)), .val (.int (0 : Int32))] [(.int K), (.ref b1)])) _
          refine X77.aaload hx (j := K) (v := (.ref aK)) (by rw [e77]; exact Ar105.1) (State.isArrayOf_alike hZ.alike Ar105.2.1) rfl Ar105.2.2 hin105 hat105 (g := (mkF m 317 #[.val (.int p1), .val (.int p2), .val (.int p3), .val (.ref b1), .val (.ref b36), .val (.ref b57), .val (.int K), .val (.int (p2.toInt16.toInt32)), .val (.int (0 : Int32))] [(.int K), (.ref b1)])) rfl rfl (hb hby at_317) _ ?_
          show Steps p.tables e below (T77.setTop (mkF m 318 #[.val (.int p1), .val (.int p2), .val (.int p3), .val (.ref b1), .val (.ref b36), .val (.ref b57), .val (.int K), .val (.int (p2.toInt16.toInt32)), .val (.int (0 : Int32))] [(.ref aK)])) _
          refine XS.iload X77.here hx rfl (hb hby at_318) rfl ?_
          show Steps p.tables e below (T77.setTop (mkF m 320 #[.val (.int p1), .val (.int p2), .val (.int p3), .val (.ref b1), .val (.ref b36), .val (.ref b57), .val (.int K), .val (.int (p2.toInt16.toInt32)), .val (.int (0 : Int32))] [(.int (p2.toInt16.toInt32)), (.ref aK)])) _
          refine st106.trans ?_
          show Steps p.tables e below (T106.setTop (mkF m 323 #[.val (.int p1), .val (.int p2), .val (.int p3), .val (.ref b1), .val (.ref b36), .val (.ref b57), .val (.int K), .val (.int (p2.toInt16.toInt32)), .val (.int (0 : Int32))] [(.int (0 : Int32))])) _
          refine XS.iload X106.here hx rfl (hb hby at_323) rfl ?_
          show Steps p.tables e below (T106.setTop (mkF m 325 #[.val (.int p1), .val (.int p2), .val (.int p3), .val (.ref b1), .val (.ref b36), .val (.ref b57), .val (.int K), .val (.int (p2.toInt16.toInt32)), .val (.int (0 : Int32))] [(.int (0 : Int32)), (.int (0 : Int32))])) _
          refine XS.icmpNo X106.here hx rfl (hb hby at_325) rfl (teq (by decide : ((0 : Int32) = (0 : Int32)))).2 ?_
          show Steps p.tables e below (T106.setTop (mkF m 328 #[.val (.int p1), .val (.int p2), .val (.int p3), .val (.ref b1), .val (.ref b36), .val (.ref b57), .val (.int K), .val (.int (p2.toInt16.toInt32)), .val (.int (0 : Int32))] [])) _
          refine XT.iconstV X106.here hx rfl (1 : Int32) (hb hby at_328) (by decide) ?_
          show Steps p.tables e below (T106.setTop (mkF m 329 #[.val (.int p1), .val (.int p2), .val (.int p3), .val (.ref b1), .val (.ref b36), .val (.ref b57), .val (.int K), .val (.int (p2.toInt16.toInt32)), .val (.int (0 : Int32))] [(.int (1 : Int32))])) _
          refine XS.goto X106.here hx rfl (pc0 := 329) (pc' := 333) rfl (hb hby at_329) (by decide) (by decide) ?_
          exact k)
        obtain ⟨fs, hr, hrun, hended, hW, hsame⟩ := X106.leave (v := some (.int (1 : Int32))) (fun h => by rw [Bd.returns] at h; cases h)
        refine ⟨_, _, pre107 _ ?_, hrun, hended, _, _, rfl, ?_, ⟨_, rfl⟩, hW, hsame.mono (by decide) (by decide)⟩
        · show Steps p.tables e below (T106.setTop (mkF m 333 #[.val (.int p1), .val (.int p2), .val (.int p3), .val (.ref b1), .val (.ref b36), .val (.ref b57), .val (.int K), .val (.int (p2.toInt16.toInt32)), .val (.int (0 : Int32))] [(.int (1 : Int32))])) _
          exact retOut X106 hx Bd.returns rfl (Or.inl ⟨rfl, by simp, _, rfl⟩) (hb hby at_333) hr
        · show Q0 Z p1 p2 p3  h0 n0 _ T106.heap _
          rw [e106]
          exact ⟨rfl, N106⟩
      · have _ := 0
        obtain ⟨cl108, Ar108, q108, S108, n108', H108, G108⟩ := id V77_b1
        have hin108 : ¬ (K < 0 ∨ cl108.slots.size ≤ (K).toNatClampNeg) := inb_of S108 (own_inb hi)
        have hat108 : cl108.slots[(K).toNatClampNeg]? = some (.ref aK) := Has.at H108 hin108 hat
        obtain ⟨cq109, kq109, q109a, q109b, q109c⟩ := isOf hZ e77 (Ea.ext O77)
        obtain ⟨_, _, ⟨T109, L109, k109, n109⟩, -, X109, ⟨Lc109, hQ109, l109, y109, z109⟩, st109⟩ := X77.virtualBack hx (y := (⟨"com/example/hursley/hursley/wire/ApiKey", "supports", "(S)Z"⟩ : MethodName)) (z := (⟨"com/example/hursley/hursley/wire/ApiKey", "supports", "(S)Z"⟩ : MethodName)) hown (mvT hZ (hw _ (List.mem_of_getElem? (i := 36) rfl))) (mvT hZ (hw _ (List.mem_of_getElem? (i := 37) rfl))) (notFace_of_selects (args := #[]) (mvT hZ (hw _ (List.mem_of_getElem? (i := 39) rfl)))) (mvT hZ (hw _ (List.mem_of_getElem? (i := 39) rfl))) (mvT hZ (hw _ (List.mem_of_getElem? (i := 38) rfl))) (by decide) (backOf (W := 0) (rm_sup l Z a0 hw [] aK (p2.toInt16.toInt32) h77 n0 (Nat.le_trans Z0 O77.1) (own_mn K) (own_mx K) (Fmn.ext O77) (Fmx.ext O77) (1 : Int32) (by simp only [own_sup, if_neg hc294_98, if_neg hc304_104])) hZ (hw _ (List.mem_of_getElem? (i := 40) rfl)) (hw _ (List.mem_of_getElem? (i := 3) rfl)) (by decide) (by decide)) q109a q109c (g := (mkF m 320 #[.val (.int p1), .val (.int p2), .val (.int p3), .val (.ref b1), .val (.ref b36), .val (.ref b57), .val (.int K), .val (.int (p2.toInt16.toInt32)), .val (.int (1 : Int32))] [(.int (p2.toInt16.toInt32)), (.ref aK)])) rfl (by rw [hml]; rfl) (Steps.refl _) (argsL := [(.int (p2.toInt16.toInt32))]) (rest := []) (lenOf pd_0 rfl) rfl (by show 2 * 0 + _ ≤ _; exact Nat.le_of_eq rfl) (hb hby at_320) (fun _ _ => ⟨rfl, e77, (by decide : 3 + 0 ≤ _), (by decide : 45 + 0 ≤ _)⟩)
        dsimp only [Pt.U, Pt.locs, Pt.cells, Pt.slots] at X109 l109 y109 z109 st109 hQ109
        rw [y109, z109] at X109
        obtain ⟨rfl, N109q, e109⟩ := hQ109
        have N109 : Fr n0 L109 := by rw [l109]; exact Fr.app N77 N109q
        have pre110 : ∀ t, Steps p.tables e below (T109.setTop (mkF m 333 #[.val (.int p1), .val (.int p2), .val (.int p3), .val (.ref b1), .val (.ref b36), .val (.ref b57), .val (.int K), .val (.int (p2.toInt16.toInt32)), .val (.int (1 : Int32))] [(.int (1 : Int32))])) t → Steps p.tables e below (s₁.setTop (entryFrame m #[(.int p1), (.int p2), (.int p3)] maxLocals)) t := fun t k => pre103 t (by
          show Steps p.tables e below (T77.setTop (mkF m 304 #[.val (.int p1), .val (.int p2), .val (.int p3), .val (.ref b1), .val (.ref b36), .val (.ref b57), .val (.int K), .val (.int (p2.toInt16.toInt32)), .unset] [(.int (own_mx K)), (.int (p2.toInt16.toInt32))])) _
          refine XS.icmpNo X77.here hx rfl (hb hby at_304) rfl (flt hc304_104).2.2.1 ?_
          show Steps p.tables e below (T77.setTop (mkF m 307 #[.val (.int p1), .val (.int p2), .val (.int p3), .val (.ref b1), .val (.ref b36), .val (.ref b57), .val (.int K), .val (.int (p2.toInt16.toInt32)), .unset] [])) _
          refine XT.iconstV X77.here hx rfl (1 : Int32) (hb hby at_307) (by decide) ?_
          show Steps p.tables e below (T77.setTop (mkF m 308 #[.val (.int p1), .val (.int p2), .val (.int p3), .val (.ref b1), .val (.ref b36), .val (.ref b57), .val (.int K), .val (.int (p2.toInt16.toInt32)), .unset] [(.int (1 : Int32))])) _
          refine XS.goto X77.here hx rfl (pc0 := 308) (pc' := 312) rfl (hb hby at_308) (by decide) (by decide) ?_
          show Steps p.tables e below (T77.setTop (mkF m 312 #[.val (.int p1), .val (.int p2), .val (.int p3), .val (.ref b1), .val (.ref b36), .val (.ref b57), .val (.int K), .val (.int (p2.toInt16.toInt32)), .unset] [(.int (1 : Int32))])) _
          refine XS.istore X77.here hx rfl (hb hby at_312) rfl (l' := #[.val (.int p1), .val (.int p2), .val (.int p3), .val (.ref b1), .val (.ref b36), .val (.ref b57), .val (.int K), .val (.int (p2.toInt16.toInt32)), .val (.int (1 : Int32))]) rfl ?_
          show Steps p.tables e below (T77.setTop (mkF m 314 #[.val (.int p1), .val (.int p2), .val (.int p3), .val (.ref b1), .val (.ref b36), .val (.ref b57), .val (.int K), .val (.int (p2.toInt16.toInt32)), .val (.int (1 : Int32))] [])) _
          refine XS.aloadN X77.here hx rfl (hb hby at_314) rfl rfl ?_
          show Steps p.tables e below (T77.setTop (mkF m 315 #[.val (.int p1), .val (.int p2), .val (.int p3), .val (.ref b1), .val (.ref b36), .val (.ref b57), .val (.int K), .val (.int (p2.toInt16.toInt32)), .val (.int (1 : Int32))] [(.ref b1)])) _
          refine XS.iload X77.here hx rfl (hb hby at_315) rfl ?_
          show Steps p.tables e below (T77.setTop (mkF m 317 #[.val (.int p1), .val (.int p2), .val (.int p3), .val (.ref b1), .val (.ref b36), .val (.ref b57), .val (.int K), .val (.int (p2.toInt16.toInt32)), .val (.int (1 : Int32))] [(.int K), (.ref b1)])) _
          refine X77.aaload hx (j := K) (v := (.ref aK)) (by rw [e77]; exact Ar108.1) (State.isArrayOf_alike hZ.alike Ar108.2.1) rfl Ar108.2.2 hin108 hat108 (g := (mkF m 317 #[.val (.int p1), .val (.int p2), .val (.int p3), .val (.ref b1), .val (.ref b36), .val (.ref b57), .val (.int K), .val (.int (p2.toInt16.toInt32)), .val (.int (1 : Int32))] [(.int K), (.ref b1)])) rfl rfl (hb hby at_317) _ ?_
          show Steps p.tables e below (T77.setTop (mkF m 318 #[.val (.int p1), .val (.int p2), .val (.int p3), .val (.ref b1), .val (.ref b36), .val (.ref b57), .val (.int K), .val (.int (p2.toInt16.toInt32)), .val (.int (1 : Int32))] [(.ref aK)])) _
          refine XS.iload X77.here hx rfl (hb hby at_318) rfl ?_
          show Steps p.tables e below (T77.setTop (mkF m 320 #[.val (.int p1), .val (.int p2), .val (.int p3), .val (.ref b1), .val (.ref b36), .val (.ref b57), .val (.int K), .val (.int (p2.toInt16.toInt32)), .val (.int (1 : Int32))] [(.int (p2.toInt16.toInt32)), (.ref aK)])) _
          refine st109.trans ?_
          show Steps p.tables e below (T109.setTop (mkF m 323 #[.val (.int p1), .val (.int p2), .val (.int p3), .val (.ref b1), .val (.ref b36), .val (.ref b57), .val (.int K), .val (.int (p2.toInt16.toInt32)), .val (.int (1 : Int32))] [(.int (1 : Int32))])) _
          refine XS.iload X109.here hx rfl (hb hby at_323) rfl ?_
          show Steps p.tables e below (T109.setTop (mkF m 325 #[.val (.int p1), .val (.int p2), .val (.int p3), .val (.ref b1), .val (.ref b36), .val (.ref b57), .val (.int K), .val (.int (p2.toInt16.toInt32)), .val (.int (1 : Int32))] [(.int (1 : Int32)), (.int (1 : Int32))])) _
          refine XS.icmpNo X109.here hx rfl (hb hby at_325) rfl (teq (by decide : ((1 : Int32) = (1 : Int32)))).2 ?_
          show Steps p.tables e below (T109.setTop (mkF m 328 #[.val (.int p1), .val (.int p2), .val (.int p3), .val (.ref b1), .val (.ref b36), .val (.ref b57), .val (.int K), .val (.int (p2.toInt16.toInt32)), .val (.int (1 : Int32))] [])) _
          refine XT.iconstV X109.here hx rfl (1 : Int32) (hb hby at_328) (by decide) ?_
          show Steps p.tables e below (T109.setTop (mkF m 329 #[.val (.int p1), .val (.int p2), .val (.int p3), .val (.ref b1), .val (.ref b36), .val (.ref b57), .val (.int K), .val (.int (p2.toInt16.toInt32)), .val (.int (1 : Int32))] [(.int (1 : Int32))])) _
          refine XS.goto X109.here hx rfl (pc0 := 329) (pc' := 333) rfl (hb hby at_329) (by decide) (by decide) ?_
          exact k)
        obtain ⟨fs, hr, hrun, hended, hW, hsame⟩ := X109.leave (v := some (.int (1 : Int32))) (fun h => by rw [Bd.returns] at h; cases h)
        refine ⟨_, _, pre110 _ ?_, hrun, hended, _, _, rfl, ?_, ⟨_, rfl⟩, hW, hsame.mono (by decide) (by decide)⟩
        · show Steps p.tables e below (T109.setTop (mkF m 333 #[.val (.int p1), .val (.int p2), .val (.int p3), .val (.ref b1), .val (.ref b36), .val (.ref b57), .val (.int K), .val (.int (p2.toInt16.toInt32)), .val (.int (1 : Int32))] [(.int (1 : Int32))])) _
          exact retOut X109 hx Bd.returns rfl (Or.inl ⟨rfl, by simp, _, rfl⟩) (hb hby at_333) hr
        · show Q0 Z p1 p2 p3  h0 n0 _ T109.heap _
          rw [e109]
          exact ⟨rfl, N109⟩
set_option maxRecDepth 65536 in
set_option maxHeartbeats 40000000 in
theorem comes_1 {Post : Tables → Env → Array Value → State → Outcome → State → Prop} (hpost : ∀ tb e args s v u, (limb_1_1.after args s (.returned v) u = true ∧ limb_1_2.after args s (.returned v) u = true ∧ True) → FrameEnd s (.returned v) u (Jvm.fieldLocs frame_1_writes args s ++ Jvm.arrayLocs frame_1_arrays args s ++ Jvm.staticLocs frame_1_statics s) 16 192 → Post tb e args s (.returned v) u) :
    ArmFor flags0 classFile x code maxLocals ret World_1 tables_1 room_1 Calls_1 rest_1 Pre_1 Post := by
  intro l hfl _ _ p e ha hc hk s m args below hf hA hF happ hP
  obtain ⟨hcalls, hrest, hpre⟩ := hP
  obtain ⟨-, -, -, hnamed, -, -, -, hat⟩ := (Spec.applies_iff hf).mp happ
  obtain ⟨hg, hn⟩ := and_e (Cond.before_iff.mp (show (Jvm.Cond.and given_1 narrow_1).before args s = true from hpre))
  obtain ⟨gc, gr0⟩ := and_e hg
  obtain ⟨ga0, gr1⟩ := and_e gr0
  obtain ⟨ga1, gr2⟩ := and_e gr1
  obtain ⟨w0, w1, w2, rfl⟩ : ∃ w0 w1 w2 : Value, args = #[w0, w1, w2] := by
    have hs : args.size = 3 := by simpa [Cond.value, given_1] using gc
    obtain ⟨L⟩ := args
    match L, hs with
    | [w0, w1, w2], _ => exact ⟨w0, w1, w2, rfl⟩
  have hw := fun d (hd : d ∈ tables_1) => atoms_spec (ws := Jvm.Cond.code x code maxLocals ret :: tables_1) hat d (List.mem_cons_of_mem _ hd)
  have hfit : Fit s := fun {y c} hc i hi => by
    obtain ⟨ha, rfl⟩ := Array.getElem?_eq_some_iff.mp hc
    have q := List.all_eq_true.mp ((Array.all_eq_true_iff_forall_mem.mp hF) _ (Array.getElem_mem ha)) i (List.mem_range.mpr hi)
    simpa [Array.getElem?_eq_getElem hi] using q
  obtain ⟨i0, ei0⟩ := is_v ga0
  obtain rfl : w0 = (.int i0) := Option.some.inj ei0
  obtain ⟨i1, ei1⟩ := is_v ga1
  obtain rfl : w1 = (.int i1) := Option.some.inj ei1
  obtain ⟨i2, ei2⟩ := is_v gr2
  obtain rfl : w2 = (.int i2) := Option.some.inj ei2
  obtain ⟨m0a, m0b⟩ := and_e hn
  obtain ⟨m2a, m2b⟩ := and_e m0b
  obtain ⟨m4a, m4b⟩ := and_e m2b
  obtain ⟨m6a, m6b⟩ := and_e m4b
  obtain ⟨m8a, m8b⟩ := and_e m6b
  obtain ⟨m10a, m10b⟩ := and_e m8b
  obtain ⟨m12a, m12b⟩ := and_e m10b
  obtain ⟨m14a, m14b⟩ := and_e m12b
  obtain ⟨m16a, m16b⟩ := and_e m14b
  obtain ⟨m18a, m18b⟩ := and_e m16b
  obtain ⟨m20a, m20b⟩ := and_e m18b
  obtain ⟨m22a, m22b⟩ := and_e m20b
  obtain ⟨m24a, m24b⟩ := and_e m22b
  obtain ⟨m26a, m26b⟩ := and_e m24b
  obtain ⟨m28a, m28b⟩ := and_e m26b
  obtain ⟨m30a, m30b⟩ := and_e m28b
  obtain ⟨m32a, m32b⟩ := and_e m30b
  obtain ⟨m34a, m34b⟩ := and_e m32b
  obtain ⟨m36a, m36b⟩ := and_e m34b
  obtain ⟨m38a, m38b⟩ := and_e m36b
  obtain ⟨m40a, m40b⟩ := and_e m38b
  obtain ⟨m42a, m42b⟩ := and_e m40b
  obtain ⟨m44a, m44b⟩ := and_e m42b
  obtain ⟨m46a, m46b⟩ := and_e m44b
  obtain ⟨m48a, m48b⟩ := and_e m46b
  obtain ⟨m50a, m50b⟩ := and_e m48b
  obtain ⟨m52a, m52b⟩ := and_e m50b
  obtain ⟨m54a, m54b⟩ := and_e m52b
  obtain ⟨m56a, m56b⟩ := and_e m54b
  obtain ⟨m58a, m58b⟩ := and_e m56b
  obtain ⟨m60a, m60b⟩ := and_e m58b
  obtain ⟨m62a, m62b⟩ := and_e m60b
  obtain ⟨m64a, m64b⟩ := and_e m62b
  obtain ⟨m66a, m66b⟩ := and_e m64b
  obtain ⟨m68a, m68b⟩ := and_e m66b
  obtain ⟨m70a, m70b⟩ := and_e m68b
  obtain ⟨m72a, m72b⟩ := and_e m70b
  obtain ⟨m74a, m74b⟩ := and_e m72b
  obtain ⟨m76a, m76b⟩ := and_e m74b
  obtain ⟨m78a, m78b⟩ := and_e m76b
  obtain ⟨m80a, m80b⟩ := and_e m78b
  obtain ⟨m82a, m82b⟩ := and_e m80b
  obtain ⟨m84a, m84b⟩ := and_e m82b
  obtain ⟨m86a, m86b⟩ := and_e m84b
  obtain ⟨a_PRODUCE, v_PRODUCE⟩ := exa_v m0a
  have E_PRODUCE := Exa.start v_PRODUCE m0a
  have S_PRODUCE := Sta.start v_PRODUCE (Or.inr ⟨(hw _ (List.mem_of_getElem? (i := 3) rfl)), (hw _ (List.mem_of_getElem? (i := 4) rfl))⟩)
  obtain ⟨a_FETCH, v_FETCH⟩ := exa_v m2a
  have E_FETCH := Exa.start v_FETCH m2a
  have S_FETCH := Sta.start v_FETCH (Or.inr ⟨(hw _ (List.mem_of_getElem? (i := 3) rfl)), (hw _ (List.mem_of_getElem? (i := 7) rfl))⟩)
  obtain ⟨a_LIST_OFFSETS, v_LIST_OFFSETS⟩ := exa_v m4a
  have E_LIST_OFFSETS := Exa.start v_LIST_OFFSETS m4a
  have S_LIST_OFFSETS := Sta.start v_LIST_OFFSETS (Or.inr ⟨(hw _ (List.mem_of_getElem? (i := 3) rfl)), (hw _ (List.mem_of_getElem? (i := 9) rfl))⟩)
  obtain ⟨a_METADATA, v_METADATA⟩ := exa_v m6a
  have E_METADATA := Exa.start v_METADATA m6a
  have S_METADATA := Sta.start v_METADATA (Or.inr ⟨(hw _ (List.mem_of_getElem? (i := 3) rfl)), (hw _ (List.mem_of_getElem? (i := 11) rfl))⟩)
  obtain ⟨a_FIND_COORDINATOR, v_FIND_COORDINATOR⟩ := exa_v m8a
  have E_FIND_COORDINATOR := Exa.start v_FIND_COORDINATOR m8a
  have S_FIND_COORDINATOR := Sta.start v_FIND_COORDINATOR (Or.inr ⟨(hw _ (List.mem_of_getElem? (i := 3) rfl)), (hw _ (List.mem_of_getElem? (i := 13) rfl))⟩)
  obtain ⟨a_API_VERSIONS, v_API_VERSIONS⟩ := exa_v m10a
  have E_API_VERSIONS := Exa.start v_API_VERSIONS m10a
  have S_API_VERSIONS := Sta.start v_API_VERSIONS (Or.inr ⟨(hw _ (List.mem_of_getElem? (i := 3) rfl)), (hw _ (List.mem_of_getElem? (i := 15) rfl))⟩)
  obtain ⟨a_CREATE_TOPICS, v_CREATE_TOPICS⟩ := exa_v m12a
  have E_CREATE_TOPICS := Exa.start v_CREATE_TOPICS m12a
  have S_CREATE_TOPICS := Sta.start v_CREATE_TOPICS (Or.inr ⟨(hw _ (List.mem_of_getElem? (i := 3) rfl)), (hw _ (List.mem_of_getElem? (i := 17) rfl))⟩)
  obtain ⟨a_INIT_PRODUCER_ID, v_INIT_PRODUCER_ID⟩ := exa_v m14a
  have E_INIT_PRODUCER_ID := Exa.start v_INIT_PRODUCER_ID m14a
  have S_INIT_PRODUCER_ID := Sta.start v_INIT_PRODUCER_ID (Or.inr ⟨(hw _ (List.mem_of_getElem? (i := 3) rfl)), (hw _ (List.mem_of_getElem? (i := 19) rfl))⟩)
  obtain ⟨a_DESCRIBE_CONFIGS, v_DESCRIBE_CONFIGS⟩ := exa_v m16a
  have E_DESCRIBE_CONFIGS := Exa.start v_DESCRIBE_CONFIGS m16a
  have S_DESCRIBE_CONFIGS := Sta.start v_DESCRIBE_CONFIGS (Or.inr ⟨(hw _ (List.mem_of_getElem? (i := 3) rfl)), (hw _ (List.mem_of_getElem? (i := 21) rfl))⟩)
  obtain ⟨a_INCREMENTAL_ALTER_CONFIGS, v_INCREMENTAL_ALTER_CONFIGS⟩ := exa_v m18a
  have E_INCREMENTAL_ALTER_CONFIGS := Exa.start v_INCREMENTAL_ALTER_CONFIGS m18a
  have S_INCREMENTAL_ALTER_CONFIGS := Sta.start v_INCREMENTAL_ALTER_CONFIGS (Or.inr ⟨(hw _ (List.mem_of_getElem? (i := 3) rfl)), (hw _ (List.mem_of_getElem? (i := 23) rfl))⟩)
  obtain ⟨a_SHARE_GROUP_HEARTBEAT, v_SHARE_GROUP_HEARTBEAT⟩ := exa_v m20a
  have E_SHARE_GROUP_HEARTBEAT := Exa.start v_SHARE_GROUP_HEARTBEAT m20a
  have S_SHARE_GROUP_HEARTBEAT := Sta.start v_SHARE_GROUP_HEARTBEAT (Or.inr ⟨(hw _ (List.mem_of_getElem? (i := 3) rfl)), (hw _ (List.mem_of_getElem? (i := 25) rfl))⟩)
  obtain ⟨a_SHARE_GROUP_DESCRIBE, v_SHARE_GROUP_DESCRIBE⟩ := exa_v m22a
  have E_SHARE_GROUP_DESCRIBE := Exa.start v_SHARE_GROUP_DESCRIBE m22a
  have S_SHARE_GROUP_DESCRIBE := Sta.start v_SHARE_GROUP_DESCRIBE (Or.inr ⟨(hw _ (List.mem_of_getElem? (i := 3) rfl)), (hw _ (List.mem_of_getElem? (i := 27) rfl))⟩)
  obtain ⟨a_SHARE_FETCH, v_SHARE_FETCH⟩ := exa_v m24a
  have E_SHARE_FETCH := Exa.start v_SHARE_FETCH m24a
  have S_SHARE_FETCH := Sta.start v_SHARE_FETCH (Or.inr ⟨(hw _ (List.mem_of_getElem? (i := 3) rfl)), (hw _ (List.mem_of_getElem? (i := 29) rfl))⟩)
  obtain ⟨a_SHARE_ACKNOWLEDGE, v_SHARE_ACKNOWLEDGE⟩ := exa_v m26a
  have E_SHARE_ACKNOWLEDGE := Exa.start v_SHARE_ACKNOWLEDGE m26a
  have S_SHARE_ACKNOWLEDGE := Sta.start v_SHARE_ACKNOWLEDGE (Or.inr ⟨(hw _ (List.mem_of_getElem? (i := 3) rfl)), (hw _ (List.mem_of_getElem? (i := 31) rfl))⟩)
  obtain ⟨a_DESCRIBE_SHARE_GROUP_OFFSETS, v_DESCRIBE_SHARE_GROUP_OFFSETS⟩ := exa_v m28a
  have E_DESCRIBE_SHARE_GROUP_OFFSETS := Exa.start v_DESCRIBE_SHARE_GROUP_OFFSETS m28a
  have S_DESCRIBE_SHARE_GROUP_OFFSETS := Sta.start v_DESCRIBE_SHARE_GROUP_OFFSETS (Or.inr ⟨(hw _ (List.mem_of_getElem? (i := 3) rfl)), (hw _ (List.mem_of_getElem? (i := 33) rfl))⟩)
  have F_PRODUCE_minVersion := own_fldpin v_PRODUCE m30a
  have F_PRODUCE_maxVersion := own_fldpin v_PRODUCE m32a
  have F_FETCH_minVersion := own_fldpin v_FETCH m34a
  have F_FETCH_maxVersion := own_fldpin v_FETCH m36a
  have F_DESCRIBE_SHARE_GROUP_OFFSETS_minVersion := own_fldpin v_DESCRIBE_SHARE_GROUP_OFFSETS m38a
  have F_DESCRIBE_SHARE_GROUP_OFFSETS_maxVersion := own_fldpin v_DESCRIBE_SHARE_GROUP_OFFSETS m40a
  have F_API_VERSIONS_minVersion := own_fldpin v_API_VERSIONS m42a
  have F_API_VERSIONS_maxVersion := own_fldpin v_API_VERSIONS m44a
  have F_DESCRIBE_CONFIGS_minVersion := own_fldpin v_DESCRIBE_CONFIGS m46a
  have F_INCREMENTAL_ALTER_CONFIGS_minVersion := own_fldpin v_INCREMENTAL_ALTER_CONFIGS m48a
  have F_DESCRIBE_CONFIGS_maxVersion := own_fldpin v_DESCRIBE_CONFIGS m50a
  have F_SHARE_GROUP_HEARTBEAT_minVersion := own_fldpin v_SHARE_GROUP_HEARTBEAT m52a
  have F_SHARE_GROUP_HEARTBEAT_maxVersion := own_fldpin v_SHARE_GROUP_HEARTBEAT m54a
  have F_METADATA_minVersion := own_fldpin v_METADATA m56a
  have F_METADATA_maxVersion := own_fldpin v_METADATA m58a
  have F_SHARE_GROUP_DESCRIBE_minVersion := own_fldpin v_SHARE_GROUP_DESCRIBE m60a
  have F_SHARE_GROUP_DESCRIBE_maxVersion := own_fldpin v_SHARE_GROUP_DESCRIBE m62a
  have F_LIST_OFFSETS_minVersion := own_fldpin v_LIST_OFFSETS m64a
  have F_LIST_OFFSETS_maxVersion := own_fldpin v_LIST_OFFSETS m66a
  have F_FIND_COORDINATOR_minVersion := own_fldpin v_FIND_COORDINATOR m68a
  have F_INIT_PRODUCER_ID_minVersion := own_fldpin v_INIT_PRODUCER_ID m70a
  have F_CREATE_TOPICS_minVersion := own_fldpin v_CREATE_TOPICS m72a
  have F_SHARE_ACKNOWLEDGE_minVersion := own_fldpin v_SHARE_ACKNOWLEDGE m74a
  have F_SHARE_ACKNOWLEDGE_maxVersion := own_fldpin v_SHARE_ACKNOWLEDGE m76a
  have F_INCREMENTAL_ALTER_CONFIGS_maxVersion := own_fldpin v_INCREMENTAL_ALTER_CONFIGS m78a
  have F_CREATE_TOPICS_maxVersion := own_fldpin v_CREATE_TOPICS m80a
  have F_FIND_COORDINATOR_maxVersion := own_fldpin v_FIND_COORDINATOR m82a
  have F_SHARE_FETCH_minVersion := own_fldpin v_SHARE_FETCH m84a
  have F_SHARE_FETCH_maxVersion := own_fldpin v_SHARE_FETCH m86a
  have F_INIT_PRODUCER_ID_maxVersion := own_fldpin v_INIT_PRODUCER_ID m86b
  have P : ∀ k : Int32, own_in k → ∃ a, ([(.ref a_PRODUCE), (.ref a_FETCH), (.ref a_LIST_OFFSETS), (.ref a_METADATA), (.ref a_FIND_COORDINATOR), (.ref a_API_VERSIONS), (.ref a_CREATE_TOPICS), (.ref a_INIT_PRODUCER_ID), (.ref a_DESCRIBE_CONFIGS), (.ref a_INCREMENTAL_ALTER_CONFIGS), (.ref a_SHARE_GROUP_HEARTBEAT), (.ref a_SHARE_GROUP_DESCRIBE), (.ref a_SHARE_FETCH), (.ref a_SHARE_ACKNOWLEDGE), (.ref a_DESCRIBE_SHARE_GROUP_OFFSETS)] : List Value).getD k.toNatClampNeg .null = .ref a ∧ Exa s s.heap a "com/example/hursley/hursley/wire/ApiKey" ∧ Fld s s.heap a "com/example/hursley/hursley/wire/ApiKey" "minVersion" "S" (.int (own_mn k)) ∧ Fld s s.heap a "com/example/hursley/hursley/wire/ApiKey" "maxVersion" "S" (.int (own_mx k)) := by
    intro k hk
    rcases hk with rfl | rfl | rfl | rfl | rfl | rfl | rfl | rfl | rfl | rfl | rfl | rfl | rfl | rfl | rfl
    · exact ⟨_, rfl, E_PRODUCE, by rw [show own_mn (0 : Int32) = (3 : Int32) from by decide]; exact F_PRODUCE_minVersion, by rw [show own_mx (0 : Int32) = (7 : Int32) from by decide]; exact F_PRODUCE_maxVersion⟩
    · exact ⟨_, rfl, E_FETCH, by rw [show own_mn (1 : Int32) = (4 : Int32) from by decide]; exact F_FETCH_minVersion, by rw [show own_mx (1 : Int32) = (11 : Int32) from by decide]; exact F_FETCH_maxVersion⟩
    · exact ⟨_, rfl, E_LIST_OFFSETS, by rw [show own_mn (2 : Int32) = (1 : Int32) from by decide]; exact F_LIST_OFFSETS_minVersion, by rw [show own_mx (2 : Int32) = (2 : Int32) from by decide]; exact F_LIST_OFFSETS_maxVersion⟩
    · exact ⟨_, rfl, E_METADATA, by rw [show own_mn (3 : Int32) = (0 : Int32) from by decide]; exact F_METADATA_minVersion, by rw [show own_mx (3 : Int32) = (13 : Int32) from by decide]; exact F_METADATA_maxVersion⟩
    · exact ⟨_, rfl, E_FIND_COORDINATOR, by rw [show own_mn (4 : Int32) = (0 : Int32) from by decide]; exact F_FIND_COORDINATOR_minVersion, by rw [show own_mx (4 : Int32) = (6 : Int32) from by decide]; exact F_FIND_COORDINATOR_maxVersion⟩
    · exact ⟨_, rfl, E_API_VERSIONS, by rw [show own_mn (5 : Int32) = (0 : Int32) from by decide]; exact F_API_VERSIONS_minVersion, by rw [show own_mx (5 : Int32) = (3 : Int32) from by decide]; exact F_API_VERSIONS_maxVersion⟩
    · exact ⟨_, rfl, E_CREATE_TOPICS, by rw [show own_mn (6 : Int32) = (2 : Int32) from by decide]; exact F_CREATE_TOPICS_minVersion, by rw [show own_mx (6 : Int32) = (7 : Int32) from by decide]; exact F_CREATE_TOPICS_maxVersion⟩
    · exact ⟨_, rfl, E_INIT_PRODUCER_ID, by rw [show own_mn (7 : Int32) = (0 : Int32) from by decide]; exact F_INIT_PRODUCER_ID_minVersion, by rw [show own_mx (7 : Int32) = (5 : Int32) from by decide]; exact F_INIT_PRODUCER_ID_maxVersion⟩
    · exact ⟨_, rfl, E_DESCRIBE_CONFIGS, by rw [show own_mn (8 : Int32) = (1 : Int32) from by decide]; exact F_DESCRIBE_CONFIGS_minVersion, by rw [show own_mx (8 : Int32) = (4 : Int32) from by decide]; exact F_DESCRIBE_CONFIGS_maxVersion⟩
    · exact ⟨_, rfl, E_INCREMENTAL_ALTER_CONFIGS, by rw [show own_mn (9 : Int32) = (0 : Int32) from by decide]; exact F_INCREMENTAL_ALTER_CONFIGS_minVersion, by rw [show own_mx (9 : Int32) = (1 : Int32) from by decide]; exact F_INCREMENTAL_ALTER_CONFIGS_maxVersion⟩
    · exact ⟨_, rfl, E_SHARE_GROUP_HEARTBEAT, by rw [show own_mn (10 : Int32) = (1 : Int32) from by decide]; exact F_SHARE_GROUP_HEARTBEAT_minVersion, by rw [show own_mx (10 : Int32) = (1 : Int32) from by decide]; exact F_SHARE_GROUP_HEARTBEAT_maxVersion⟩
    · exact ⟨_, rfl, E_SHARE_GROUP_DESCRIBE, by rw [show own_mn (11 : Int32) = (1 : Int32) from by decide]; exact F_SHARE_GROUP_DESCRIBE_minVersion, by rw [show own_mx (11 : Int32) = (1 : Int32) from by decide]; exact F_SHARE_GROUP_DESCRIBE_maxVersion⟩
    · exact ⟨_, rfl, E_SHARE_FETCH, by rw [show own_mn (12 : Int32) = (1 : Int32) from by decide]; exact F_SHARE_FETCH_minVersion, by rw [show own_mx (12 : Int32) = (2 : Int32) from by decide]; exact F_SHARE_FETCH_maxVersion⟩
    · exact ⟨_, rfl, E_SHARE_ACKNOWLEDGE, by rw [show own_mn (13 : Int32) = (1 : Int32) from by decide]; exact F_SHARE_ACKNOWLEDGE_minVersion, by rw [show own_mx (13 : Int32) = (2 : Int32) from by decide]; exact F_SHARE_ACKNOWLEDGE_maxVersion⟩
    · exact ⟨_, rfl, E_DESCRIBE_SHARE_GROUP_OFFSETS, by rw [show own_mn (14 : Int32) = (0 : Int32) from by decide]; exact F_DESCRIBE_SHARE_GROUP_OFFSETS_minVersion, by rw [show own_mx (14 : Int32) = (1 : Int32) from by decide]; exact F_DESCRIBE_SHARE_GROUP_OFFSETS_maxVersion⟩
  obtain ⟨n, o, h1, h2, h3, _, L, rfl, ⟨rfl, N⟩, hq⟩ := rm0 l s _ hw tables_1 i0 i1 i2 s.heap s.heap.size (Nat.le_refl _) a_PRODUCE S_PRODUCE a_FETCH S_FETCH a_LIST_OFFSETS S_LIST_OFFSETS a_METADATA S_METADATA a_FIND_COORDINATOR S_FIND_COORDINATOR a_API_VERSIONS S_API_VERSIONS a_CREATE_TOPICS S_CREATE_TOPICS a_INIT_PRODUCER_ID S_INIT_PRODUCER_ID a_DESCRIBE_CONFIGS S_DESCRIBE_CONFIGS a_INCREMENTAL_ALTER_CONFIGS S_INCREMENTAL_ALTER_CONFIGS a_SHARE_GROUP_HEARTBEAT S_SHARE_GROUP_HEARTBEAT a_SHARE_GROUP_DESCRIBE S_SHARE_GROUP_DESCRIBE a_SHARE_FETCH S_SHARE_FETCH a_SHARE_ACKNOWLEDGE S_SHARE_ACKNOWLEDGE a_DESCRIBE_SHARE_GROUP_OFFSETS S_DESCRIBE_SHARE_GROUP_OFFSETS E_PRODUCE E_FETCH E_LIST_OFFSETS E_METADATA E_FIND_COORDINATOR E_API_VERSIONS E_CREATE_TOPICS E_INIT_PRODUCER_ID E_DESCRIBE_CONFIGS E_INCREMENTAL_ALTER_CONFIGS E_SHARE_GROUP_HEARTBEAT E_SHARE_GROUP_DESCRIBE E_SHARE_FETCH E_SHARE_ACKNOWLEDGE E_DESCRIBE_SHARE_GROUP_OFFSETS P p e ha hc hk s m _ below hf ((Spec.applies_iff_loose hf).mp happ).1 ⟨rfl, State.Warmed39.refl s, rfl⟩ trivial
  exact ⟨n, _, h1, h2, h3, hpost _ _ _ _ _ _ ⟨Cond.after_iff.mpr rfl, Cond.after_iff.mpr (eq_i res_at (Term.int_eval (1)) rfl), trivial⟩ ⟨hq.1, hq.2.1, (hq.2.2.sift fun y hy => Or.inr (N y hy)).mono (by decide) (by decide)⟩⟩
theorem main_1_1 : Claimed_1_1 := comes_1 fun _ _ _ _ _ _ h hF => ⟨h.1, hF⟩
theorem main_1_2 : Claimed_1_2 := comes_1 fun _ _ _ _ _ _ h hF => ⟨h.2.1, hF⟩
end Jvm.Pilot.@@N@@
namespace Jvm.Pilot.@@N@@
open Jvm Jvm.ClassFile Sem Op Lib Jvm.Free Jvm.Stand Jvm.Pilot.@@N@@.Jvm.D
/-! MADE BY PROGRAM (witnessworld.py) out of the Statement's table words and the real class files: 13 classes; the members and pool entries that the words name. The judged class is class 1, her method 1. -/
namespace start1
open Jvm.ClassFile
def u (s : String) : CpInfo := .utf8 (stringToUtf16 s)
/-- a pool by its gaps: so many unusable entries, then the entry; so many at the end -/
def gap : Nat → List CpInfo → List CpInfo
  | 0, r => r
  | n + 1, r => .unusable :: gap n r
def poolList (es : List (Nat × CpInfo)) (last : Nat) : List CpInfo := es.foldr (fun e r => gap e.1 (e.2 :: r)) (gap last [])
def pool (es : List (Nat × CpInfo)) (last : Nat) : Array CpInfo := ⟨poolList es last⟩
def fileOf (pool : Array CpInfo) (this : Nat) (attrs : Array Attribute := #[]) (ms : Array MethodInfo := #[]) (fl : Nat := 33) (sup : Nat := 0) (ifs : Array Nat := #[]) (fds : Array FieldInfo := #[]) : ClassFile where
  minorVersion := 0
  majorVersion := 65
  constantPool := pool
  accessFlags := fl
  thisClass := this
  superClass := sup
  interfaces := ifs
  fields := fds
  methods := ms
  attributes := attrs
def plain (name : String) (sup : Option ClassId) : Class where
  name := name
  kind := .ordinary
  loader := none
  accessFlags := 33
  super := sup
  interfaces := #[]
  cf := none
  fields := #[]
  methods := #[]
  instanceTypes := #[]
  staticTypes := #[]
  resolved := #[]
  callSites := []
  init := .initialized
  statics := none
  mirror := none

def pool0 : Array CpInfo := pool [(5, u "<init>"), (0, u "()V"), (1, .class_ 10), (1, u "java/lang/Object")] 113

def k0m0 : Method := { name := "<init>", desc := "()V", sig := { parameters := [], returnType := none }, accessFlags := 1, code := none }
/-- java/lang/Object -/
def k0 : Class := { plain "java/lang/Object" none with
  accessFlags := 33
  interfaces := #[]
  cf := some (fileOf pool0 8 #[] #[{ accessFlags := 1, nameIndex := 5, descriptorIndex := 6, attributes := #[] }] 33 0 #[] #[])
  fields := #[]
  methods := #[k0m0]
  instanceTypes := #[]
  staticTypes := #[]
  resolved := Array.replicate 124 none
  statics := none }

def pool1 : Array CpInfo := pool [(2, .class_ 4), (1, u "java/lang/Object"), (0, u "<init>"), (0, u "()V"), (0, .class_ 8), (0, u "com/example/hursley/hursley/wire/ApiKey"), (0, .fieldref 7 10), (0, .nameAndType 11 12), (0, u "PRODUCE"), (0, u "Lcom/example/hursley/hursley/wire/ApiKey;"), (0, .fieldref 7 14), (0, .nameAndType 15 12), (0, u "FETCH"), (0, .fieldref 7 17), (0, .nameAndType 18 12), (0, u "LIST_OFFSETS"), (0, .fieldref 7 20), (0, .nameAndType 21 12), (0, u "METADATA"), (0, .fieldref 7 23), (0, .nameAndType 24 12), (0, u "FIND_COORDINATOR"), (0, .fieldref 7 26), (0, .nameAndType 27 12), (0, u "API_VERSIONS"), (0, .fieldref 7 29), (0, .nameAndType 30 12), (0, u "CREATE_TOPICS"), (0, .fieldref 7 32), (0, .nameAndType 33 12), (0, u "INIT_PRODUCER_ID"), (0, .fieldref 7 35), (0, .nameAndType 36 12), (0, u "DESCRIBE_CONFIGS"), (0, .fieldref 7 38), (0, .nameAndType 39 12), (0, u "INCREMENTAL_ALTER_CONFIGS"), (0, .fieldref 7 41), (0, .nameAndType 42 12), (0, u "SHARE_GROUP_HEARTBEAT"), (0, .fieldref 7 44), (0, .nameAndType 45 12), (0, u "SHARE_GROUP_DESCRIBE"), (0, .fieldref 7 47), (0, .nameAndType 48 12), (0, u "SHARE_FETCH"), (0, .fieldref 7 50), (0, .nameAndType 51 12), (0, u "SHARE_ACKNOWLEDGE"), (0, .fieldref 7 53), (0, .nameAndType 54 12), (0, u "DESCRIBE_SHARE_GROUP_OFFSETS"), (0, .integer 2147483647), (0, .methodref 7 57), (0, .nameAndType 58 59), (0, u "supports"), (0, u "(S)Z"), (0, .class_ 61), (0, u "com/example/hursley/hursley/wire/ApiKeySupportsPinLaw"), (2, u "law"), (0, u "(III)Z")] 7

def k1m0 : Method := { name := "<init>", desc := "()V", sig := { parameters := [], returnType := none }, accessFlags := 1, code := none }
def k1c1 : Code := { maxStack := 4, maxLocals := 9, code := code, exceptionTable := #[], attributes := #[] }
def k1m1 : Method := { name := "law", desc := "(III)Z", sig := { parameters := [.int, .int, .int], returnType := some .boolean }, accessFlags := 9, code := some k1c1 }
/-- com/example/hursley/hursley/wire/ApiKeySupportsPinLaw -/
def k1 : Class := { plain "com/example/hursley/hursley/wire/ApiKeySupportsPinLaw" (some 0) with
  accessFlags := 49
  interfaces := #[]
  cf := some (fileOf pool1 60 #[] #[{ accessFlags := 1, nameIndex := 5, descriptorIndex := 6, attributes := #[] }, { accessFlags := 9, nameIndex := 64, descriptorIndex := 65, attributes := #[] }] 49 2 #[] #[])
  fields := #[]
  methods := #[k1m0, k1m1]
  instanceTypes := #[]
  staticTypes := #[]
  resolved := Array.replicate 73 none
  statics := none }

def pool2 : Array CpInfo := pool [(1, .class_ 2), (0, u "java/lang/constant/Constable"), (0, .class_ 4), (0, u "java/lang/Object")] 6

/-- java/lang/constant/Constable -/
def k2 : Class := { plain "java/lang/constant/Constable" (some 0) with
  accessFlags := 1537
  interfaces := #[]
  cf := some (fileOf pool2 1 #[] #[] 1537 3 #[] #[])
  fields := #[]
  methods := #[]
  instanceTypes := #[]
  staticTypes := #[]
  resolved := Array.replicate 11 none
  statics := none }

def pool3 : Array CpInfo := pool [(1, .class_ 2), (0, u "java/lang/Comparable"), (0, .class_ 4), (0, u "java/lang/Object")] 7

/-- java/lang/Comparable -/
def k3 : Class := { plain "java/lang/Comparable" (some 0) with
  accessFlags := 1537
  interfaces := #[]
  cf := some (fileOf pool3 1 #[] #[] 1537 3 #[] #[])
  fields := #[]
  methods := #[]
  instanceTypes := #[]
  staticTypes := #[]
  resolved := Array.replicate 12 none
  statics := none }

def pool4 : Array CpInfo := pool [(1, .class_ 2), (0, u "java/io/Serializable"), (0, .class_ 4), (0, u "java/lang/Object")] 2

/-- java/io/Serializable -/
def k4 : Class := { plain "java/io/Serializable" (some 0) with
  accessFlags := 1537
  interfaces := #[]
  cf := some (fileOf pool4 1 #[] #[] 1537 3 #[] #[])
  fields := #[]
  methods := #[]
  instanceTypes := #[]
  staticTypes := #[]
  resolved := Array.replicate 7 none
  statics := none }

def pool5 : Array CpInfo := pool [(2, .class_ 4), (1, u "java/lang/Enum"), (0, u "name"), (0, u "Ljava/lang/String;"), (2, u "ordinal"), (0, u "I"), (1, .class_ 14), (1, u "java/lang/Object"), (4, u "hash"), (86, .class_ 108), (1, u "java/lang/Enum$EnumDesc"), (2, .class_ 112), (0, u "java/lang/constant/Constable"), (0, .class_ 114), (0, u "java/lang/Comparable"), (0, .class_ 116), (0, u "java/io/Serializable")] 87

/-- java/lang/Enum -/
def k5 : Class := { plain "java/lang/Enum" (some 0) with
  accessFlags := 1057
  interfaces := #[2, 3, 4]
  cf := some (fileOf pool5 2 #[.nestMembers #[106]] #[] 1057 12 #[111, 113, 115] #[{ accessFlags := 18, nameIndex := 5, descriptorIndex := 6, attributes := #[] }, { accessFlags := 18, nameIndex := 9, descriptorIndex := 10, attributes := #[] }, { accessFlags := 2, nameIndex := 19, descriptorIndex := 10, attributes := #[] }])
  fields := #[{ name := "name", type := (.object "java/lang/String"), accessFlags := 18, slot := 0, constantValue := 0 }, { name := "ordinal", type := .int, accessFlags := 18, slot := 1, constantValue := 0 }, { name := "hash", type := .int, accessFlags := 2, slot := 2, constantValue := 0 }]
  methods := #[]
  instanceTypes := #[(.object "java/lang/String"), .int, .int]
  staticTypes := #[]
  resolved := Array.replicate 204 none
  statics := none }

def pool6 : Array CpInfo := pool [(1, .class_ 2), (0, u "com/example/hursley/hursley/wire/ApiKey"), (2, u "PRODUCE"), (0, u "Lcom/example/hursley/hursley/wire/ApiKey;"), (2, u "FETCH"), (2, u "LIST_OFFSETS"), (2, u "METADATA"), (2, u "FIND_COORDINATOR"), (2, u "API_VERSIONS"), (2, u "CREATE_TOPICS"), (2, u "INIT_PRODUCER_ID"), (2, u "DESCRIBE_CONFIGS"), (2, u "INCREMENTAL_ALTER_CONFIGS"), (2, u "SHARE_GROUP_HEARTBEAT"), (2, u "SHARE_GROUP_DESCRIBE"), (2, u "SHARE_FETCH"), (2, u "SHARE_ACKNOWLEDGE"), (2, u "DESCRIBE_SHARE_GROUP_OFFSETS"), (2, u "$VALUES"), (0, u "[Lcom/example/hursley/hursley/wire/ApiKey;"), (6, .class_ 61), (1, u "java/lang/Enum"), (8, u "id"), (0, u "S"), (0, .fieldref 1 73), (0, .nameAndType 74 71), (0, u "minVersion"), (0, .fieldref 1 76), (0, .nameAndType 77 71), (0, u "maxVersion"), (2, u "firstFlexibleVersion"), (7, u "(S)Z"), (31, u "supports")] 6

def k6c0 : Code := { maxStack := 2, maxLocals := 2, code := prog_37_method_8_code, exceptionTable := #[], attributes := #[] }
def k6m0 : Method := { name := "supports", desc := "(S)Z", sig := { parameters := [.short], returnType := some .boolean }, accessFlags := 1, code := some k6c0 }
/-- com/example/hursley/hursley/wire/ApiKey -/
def k6 : Class := { plain "com/example/hursley/hursley/wire/ApiKey" (some 5) with
  accessFlags := 16433
  interfaces := #[]
  cf := some (fileOf pool6 1 #[] #[{ accessFlags := 1, nameIndex := 120, descriptorIndex := 88, attributes := #[] }] 16433 59 #[] #[{ accessFlags := 16409, nameIndex := 5, descriptorIndex := 6, attributes := #[] }, { accessFlags := 16409, nameIndex := 9, descriptorIndex := 6, attributes := #[] }, { accessFlags := 16409, nameIndex := 12, descriptorIndex := 6, attributes := #[] }, { accessFlags := 16409, nameIndex := 15, descriptorIndex := 6, attributes := #[] }, { accessFlags := 16409, nameIndex := 18, descriptorIndex := 6, attributes := #[] }, { accessFlags := 16409, nameIndex := 21, descriptorIndex := 6, attributes := #[] }, { accessFlags := 16409, nameIndex := 24, descriptorIndex := 6, attributes := #[] }, { accessFlags := 16409, nameIndex := 27, descriptorIndex := 6, attributes := #[] }, { accessFlags := 16409, nameIndex := 30, descriptorIndex := 6, attributes := #[] }, { accessFlags := 16409, nameIndex := 33, descriptorIndex := 6, attributes := #[] }, { accessFlags := 16409, nameIndex := 36, descriptorIndex := 6, attributes := #[] }, { accessFlags := 16409, nameIndex := 39, descriptorIndex := 6, attributes := #[] }, { accessFlags := 16409, nameIndex := 42, descriptorIndex := 6, attributes := #[] }, { accessFlags := 16409, nameIndex := 45, descriptorIndex := 6, attributes := #[] }, { accessFlags := 16409, nameIndex := 48, descriptorIndex := 6, attributes := #[] }, { accessFlags := 18, nameIndex := 70, descriptorIndex := 71, attributes := #[] }, { accessFlags := 18, nameIndex := 74, descriptorIndex := 71, attributes := #[] }, { accessFlags := 18, nameIndex := 77, descriptorIndex := 71, attributes := #[] }, { accessFlags := 18, nameIndex := 80, descriptorIndex := 71, attributes := #[] }, { accessFlags := 4122, nameIndex := 51, descriptorIndex := 52, attributes := #[] }])
  fields := #[{ name := "PRODUCE", type := (.object "com/example/hursley/hursley/wire/ApiKey"), accessFlags := 16409, slot := 0, constantValue := 0 }, { name := "FETCH", type := (.object "com/example/hursley/hursley/wire/ApiKey"), accessFlags := 16409, slot := 1, constantValue := 0 }, { name := "LIST_OFFSETS", type := (.object "com/example/hursley/hursley/wire/ApiKey"), accessFlags := 16409, slot := 2, constantValue := 0 }, { name := "METADATA", type := (.object "com/example/hursley/hursley/wire/ApiKey"), accessFlags := 16409, slot := 3, constantValue := 0 }, { name := "FIND_COORDINATOR", type := (.object "com/example/hursley/hursley/wire/ApiKey"), accessFlags := 16409, slot := 4, constantValue := 0 }, { name := "API_VERSIONS", type := (.object "com/example/hursley/hursley/wire/ApiKey"), accessFlags := 16409, slot := 5, constantValue := 0 }, { name := "CREATE_TOPICS", type := (.object "com/example/hursley/hursley/wire/ApiKey"), accessFlags := 16409, slot := 6, constantValue := 0 }, { name := "INIT_PRODUCER_ID", type := (.object "com/example/hursley/hursley/wire/ApiKey"), accessFlags := 16409, slot := 7, constantValue := 0 }, { name := "DESCRIBE_CONFIGS", type := (.object "com/example/hursley/hursley/wire/ApiKey"), accessFlags := 16409, slot := 8, constantValue := 0 }, { name := "INCREMENTAL_ALTER_CONFIGS", type := (.object "com/example/hursley/hursley/wire/ApiKey"), accessFlags := 16409, slot := 9, constantValue := 0 }, { name := "SHARE_GROUP_HEARTBEAT", type := (.object "com/example/hursley/hursley/wire/ApiKey"), accessFlags := 16409, slot := 10, constantValue := 0 }, { name := "SHARE_GROUP_DESCRIBE", type := (.object "com/example/hursley/hursley/wire/ApiKey"), accessFlags := 16409, slot := 11, constantValue := 0 }, { name := "SHARE_FETCH", type := (.object "com/example/hursley/hursley/wire/ApiKey"), accessFlags := 16409, slot := 12, constantValue := 0 }, { name := "SHARE_ACKNOWLEDGE", type := (.object "com/example/hursley/hursley/wire/ApiKey"), accessFlags := 16409, slot := 13, constantValue := 0 }, { name := "DESCRIBE_SHARE_GROUP_OFFSETS", type := (.object "com/example/hursley/hursley/wire/ApiKey"), accessFlags := 16409, slot := 14, constantValue := 0 }, { name := "id", type := .short, accessFlags := 18, slot := 3, constantValue := 0 }, { name := "minVersion", type := .short, accessFlags := 18, slot := 4, constantValue := 0 }, { name := "maxVersion", type := .short, accessFlags := 18, slot := 5, constantValue := 0 }, { name := "firstFlexibleVersion", type := .short, accessFlags := 18, slot := 6, constantValue := 0 }, { name := "$VALUES", type := (.array (.object "com/example/hursley/hursley/wire/ApiKey")), accessFlags := 4122, slot := 15, constantValue := 0 }]
  methods := #[k6m0]
  instanceTypes := #[(.object "java/lang/String"), .int, .int, .short, .short, .short, .short]
  staticTypes := #[(.object "com/example/hursley/hursley/wire/ApiKey"), (.object "com/example/hursley/hursley/wire/ApiKey"), (.object "com/example/hursley/hursley/wire/ApiKey"), (.object "com/example/hursley/hursley/wire/ApiKey"), (.object "com/example/hursley/hursley/wire/ApiKey"), (.object "com/example/hursley/hursley/wire/ApiKey"), (.object "com/example/hursley/hursley/wire/ApiKey"), (.object "com/example/hursley/hursley/wire/ApiKey"), (.object "com/example/hursley/hursley/wire/ApiKey"), (.object "com/example/hursley/hursley/wire/ApiKey"), (.object "com/example/hursley/hursley/wire/ApiKey"), (.object "com/example/hursley/hursley/wire/ApiKey"), (.object "com/example/hursley/hursley/wire/ApiKey"), (.object "com/example/hursley/hursley/wire/ApiKey"), (.object "com/example/hursley/hursley/wire/ApiKey"), (.array (.object "com/example/hursley/hursley/wire/ApiKey"))]
  resolved := Array.replicate 127 none
  statics := some 0 }

def pool7 : Array CpInfo := pool [(1, u "java/lang/Cloneable"), (0, .class_ 1), (0, u "java/lang/Object"), (0, .class_ 3)] 3

/-- java/lang/Cloneable -/
def k7 : Class := { plain "java/lang/Cloneable" (some 0) with
  accessFlags := 1537
  interfaces := #[]
  cf := some (fileOf pool7 2 #[] #[] 1537 4 #[] #[])
  fields := #[]
  methods := #[]
  instanceTypes := #[]
  staticTypes := #[]
  resolved := Array.replicate 8 none
  statics := none }

/-- the primitive byte -/
def k8 : Class := { plain "byte" none with kind := .primitive 'B', accessFlags := 0x411 }
/-- [B -/
def k9 : Class := { plain "[B" (some 0) with kind := .array 8 .byte, interfaces := #[7, 4], accessFlags := 1041 }

/-- the primitive int -/
def k10 : Class := { plain "int" none with kind := .primitive 'I', accessFlags := 0x411 }
/-- [I -/
def k11 : Class := { plain "[I" (some 0) with kind := .array 10 .int, interfaces := #[7, 4], accessFlags := 1041 }

/-- [Lcom/example/hursley/hursley/wire/ApiKey; -/
def k12 : Class := { plain "[Lcom/example/hursley/hursley/wire/ApiKey;" (some 0) with kind := .array 6 (.object "com/example/hursley/hursley/wire/ApiKey"), interfaces := #[7, 4], accessFlags := 1041 }

def heap : Heap := #[{ cls := 6, slots := #[.ref 1, .ref 2, .ref 3, .ref 4, .ref 5, .ref 6, .ref 7, .ref 8, .ref 9, .ref 10, .ref 11, .ref 12, .ref 13, .ref 14, .ref 15, .null], vm := .statics 6 },
  { cls := 6, slots := #[.null, .int 0, .int 0, .int 0, .int 3, .int 7, .int 0], vm := .none },
  { cls := 6, slots := #[.null, .int 1, .int 0, .int 0, .int 4, .int 11, .int 0], vm := .none },
  { cls := 6, slots := #[.null, .int 2, .int 0, .int 0, .int 1, .int 2, .int 0], vm := .none },
  { cls := 6, slots := #[.null, .int 3, .int 0, .int 0, .int 0, .int 13, .int 0], vm := .none },
  { cls := 6, slots := #[.null, .int 4, .int 0, .int 0, .int 0, .int 6, .int 0], vm := .none },
  { cls := 6, slots := #[.null, .int 5, .int 0, .int 0, .int 0, .int 3, .int 0], vm := .none },
  { cls := 6, slots := #[.null, .int 6, .int 0, .int 0, .int 2, .int 7, .int 0], vm := .none },
  { cls := 6, slots := #[.null, .int 7, .int 0, .int 0, .int 0, .int 5, .int 0], vm := .none },
  { cls := 6, slots := #[.null, .int 8, .int 0, .int 0, .int 1, .int 4, .int 0], vm := .none },
  { cls := 6, slots := #[.null, .int 9, .int 0, .int 0, .int 0, .int 1, .int 0], vm := .none },
  { cls := 6, slots := #[.null, .int 10, .int 0, .int 0, .int 1, .int 1, .int 0], vm := .none },
  { cls := 6, slots := #[.null, .int 11, .int 0, .int 0, .int 1, .int 1, .int 0], vm := .none },
  { cls := 6, slots := #[.null, .int 12, .int 0, .int 0, .int 1, .int 2, .int 0], vm := .none },
  { cls := 6, slots := #[.null, .int 13, .int 0, .int 0, .int 1, .int 2, .int 0], vm := .none },
  { cls := 6, slots := #[.null, .int 14, .int 0, .int 0, .int 0, .int 1, .int 0], vm := .none }]
def classes : Array Class := #[k0, k1, k2, k3, k4, k5, k6, k7, k8, k9, k10, k11, k12]
def interned : List (Array UInt16 × Addr) := []
def slotsUsed : Nat := 121
def theMethod : MethodId := ⟨1, 1⟩
def args0 : Array Value := #[.int 5, .int 7, .int 1]
def aboutOver (below : List Frame) : State where
  vm := { classes := classes, interned := interned.toArray }
  heap := heap
  slotsUsed := slotsUsed
  threads := #[{ frames := .invoking theMethod args0 :: below }]
def below0 : List Frame := [.native { method := ⟨0, 0⟩, args := #[] }]
def about1 : State := aboutOver below0
def p0 : Program := .bare "" "" ""
def e0 : Env := launch0.env 0 0 0
theorem w_frames : about1.frames = Frame.invoking theMethod args0 :: below0 := rfl
set_option maxRecDepth 65536 in
theorem w_args : argsFit about1.vm theMethod args0 = true := by decide +kernel
set_option maxRecDepth 65536 in
theorem w_heap : heapFits about1 = true := by decide +kernel
set_option maxRecDepth 65536 in
theorem w_runnable : about1.curStatus? = some .runnable := by decide +kernel
set_option maxRecDepth 65536 in
theorem w_alone : about1.alone = true := by decide +kernel
set_option maxRecDepth 65536 in
theorem w_named : about1.methodNamed? x = some theMethod := by decide +kernel
set_option maxRecDepth 65536 in
theorem w_hears : about1.hears theMethod below0 = true := by decide +kernel
set_option maxRecDepth 65536 in
theorem w_ripe : about1.ripe theMethod args0 below0 = true := by decide +kernel
theorem w_running : about1.status = .running := rfl
set_option maxRecDepth 65536 in
theorem w_room : about1.hasRoom e0.platform room_1 = true :=
  launch0.hasRoom_least _ room_1 (by decide +kernel) (by decide +kernel) (by decide +kernel) (by decide +kernel) (by decide +kernel) (by decide +kernel)
theorem allAtoms_all (ts : List Jvm.Cond) (a : Array Jvm.Value) (st : Jvm.State) : (allAtoms ts).before a st = ts.all (fun c => c.before a st) := by
  induction ts with
  | nil => rfl
  | cons c t ih =>
    show (Jvm.Cond.and c (allAtoms t)).before a st = _
    rw [Jvm.Cond.before_and, ih, List.all_cons]
def words1 : List Jvm.Cond := Jvm.Cond.code x code maxLocals ret :: tables_1
/-- a 'code' word, met by the world's own term for the bytes: nothing is compared byte by byte -/
theorem code_word {y : MethodName} {bytes : ByteArray} {mx : Nat} {rt : Option FieldType} {a : Array Value} {s : State} {m : MethodId} {meth : Method} {c : Code} (h1 : s.methodNamed? y = some m) (h2 : s.vm.method? m = some meth) (h3 : meth.code = some c) (h4 : c.code = bytes)
    (h5 : (c.maxLocals == mx && c.exceptionTable.isEmpty && decide (c.maxStack ≤ mostOperands) && decide (meth.sig.returnType = rt) && !meth.locks && decide (parseMethodDescriptor y.desc = some meth.sig)) = true) : (Jvm.Cond.code y bytes mx rt).before a s = true := by
  simp only [Bool.and_eq_true, beq_iff_eq, Bool.not_eq_true', decide_eq_true_eq] at h5
  obtain ⟨⟨⟨⟨⟨g1, g2⟩, g3⟩, g4⟩, g5⟩, g6⟩ := h5
  simp [Cond.before, Cond.holds, Cond.value, h1, h2, h3, h4, g1, g2, g3, g4, g5, g6]
def isCode : Jvm.Cond → Bool
  | .code _ _ _ _ => true
  | _ => false
theorem all_split {L : List Jvm.Cond} {P : Jvm.Cond → Bool} (h1 : L.all (fun c => isCode c || P c) = true) (h2 : ∀ c ∈ L.filter isCode, P c = true) : L.all P = true := by
  refine List.all_eq_true.mpr fun c hc => ?_
  have h := List.all_eq_true.mp h1 c hc
  rcases Bool.eq_false_or_eq_true (isCode c) with hi | hi
  · exact h2 c (List.mem_filter.mpr ⟨hc, hi⟩)
  · simpa [hi] using h
set_option maxRecDepth 65536 in
theorem w_c0 : (Jvm.Cond.code x code maxLocals ret).before args0 about1 = true := code_word (m := ⟨1, 1⟩) (meth := k1m1) (c := k1c1) (by decide +kernel) rfl rfl rfl (by decide +kernel)
set_option maxRecDepth 65536 in
theorem w_c1 : (Jvm.Cond.code ({ cls := "com/example/hursley/hursley/wire/ApiKey", name := "supports", desc := "(S)Z" } : Jvm.MethodName) prog_37_method_8_code (2 : Nat) (Option.some Jvm.ClassFile.FieldType.boolean)).before args0 about1 = true := code_word (m := ⟨6, 0⟩) (meth := k6m0) (c := k6c0) (by decide +kernel) rfl rfl rfl (by decide +kernel)
def codes1 : List Jvm.Cond := [Jvm.Cond.code x code maxLocals ret, Jvm.Cond.code ({ cls := "com/example/hursley/hursley/wire/ApiKey", name := "supports", desc := "(S)Z" } : Jvm.MethodName) prog_37_method_8_code (2 : Nat) (Option.some Jvm.ClassFile.FieldType.boolean)]
set_option maxRecDepth 65536 in
theorem codes_eq : words1.filter isCode = codes1 := rfl
theorem w_codes : ∀ c ∈ words1.filter isCode, c.before args0 about1 = true := by
  rw [codes_eq]
  intro c hc
  simp only [codes1, List.mem_cons, List.not_mem_nil, or_false] at hc
  rcases hc with rfl | rfl
  · exact w_c0
  · exact w_c1
set_option maxRecDepth 65536 in
theorem w_t1 : (words1.take 24).all (fun c => isCode c || c.before args0 about1) = true := by decide +kernel
set_option maxRecDepth 65536 in
theorem w_t2 : (words1.drop 24).all (fun c => isCode c || c.before args0 about1) = true := by decide +kernel
theorem w_tables : (allAtoms (Jvm.Cond.code x code maxLocals ret :: tables_1)).before args0 about1 = true := by
  rw [allAtoms_all]
  show words1.all (fun c => c.before args0 about1) = true
  refine all_split ?_ w_codes
  rw [← List.take_append_drop 24 words1, List.all_append, w_t1, w_t2]
  rfl
set_option maxRecDepth 65536 in
theorem w_case : (Jvm.Cond.and given_1 narrow_1).before args0 about1 = true := by decide +kernel
theorem w_applies : (headSpec (Jvm.Cond.code x code maxLocals ret :: tables_1) room_1).applies x e0.platform about1 = true :=
  (Spec.applies_iff w_frames).mpr ⟨w_running, w_runnable, w_alone, w_named, w_hears, w_ripe, w_room, w_tables⟩
theorem atStart : AtStart classFile x code maxLocals ret World_1 tables_1 room_1 Calls_1 rest_1 Pre_1 launch0 p0 e0 about1 theMethod args0 below0 :=
  ⟨lists_1, trivial, launch0.admits_env _ _ _, launch0.least_env, fairChoices_fair.cas, fairChoices_fair.clock, w_frames, w_args, w_heap, w_applies, trivial, trivial, w_case⟩
end start1
theorem witness_1 : WitnessClaimed_1 := ⟨start1.p0, start1.e0, start1.about1, start1.theMethod, start1.args0, start1.below0, start1.atStart⟩
end Jvm.Pilot.@@N@@
