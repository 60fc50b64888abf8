import JvmDerived
import JvmDerived.Pilot.@@N@@Statement
import JvmDerived.Pilot.@@N@@Code
set_option linter.unusedVariables false
set_option linter.unusedSimpArgs false
namespace Jvm.Pilot.@@N@@
open Jvm Jvm.ClassFile Sem Op Lib Jvm.Free Jvm.Stand Jvm.LawKit Jvm.RoadKit Bundle Jvm.Pilot.@@N@@.Jvm.D
theorem pd_0 : parseMethodDescriptor "()I" = some ⟨[], some .int⟩ := by decide +kernel
theorem pd_1 : parseMethodDescriptor "(I)Lcom/example/sealtrail/sealtrail/Encryption;" = some ⟨[.int], some (.object "com/example/sealtrail/sealtrail/Encryption")⟩ := by decide +kernel
theorem own_fldpin {t : Term} {C n d : String} {k : Int32} {a : Addr} {args : Array Value} {s : State} (ev : t.eval args s none [] s = some (.ref a)) (h : (Cond.eq (.field t C n d) (.int k)).value args s none s [] = some true) : Fld s s.heap a C n d (.int k) := by
  refine Fld.start ?_
  have e1 : (Term.field t C n d).eval args s none [] s = s.fieldOf? a C n d := fld_at ev
  cases hf : s.fieldOf? a C n d with
  | none => rw [hf] at e1; simp [Cond.value, e1] at h
  | some v =>
    rw [hf] at e1
    have e2 : (Term.int k).eval args s none [] s = some (.int k) := rfl
    cases v <;> simp [Cond.value, e1, e2] at h ⊢
    exact h
theorem own_len {t : Term} {a : Addr} {c : Cell} {ty : FieldType} {n : Int32} {args : Array Value} {s : State} (ev : t.eval args s none [] s = some (.ref a)) (A : Arr s s.heap a c ty) (h : (Cond.eq (.length t) (.int n)).value args s none s [] = some true) : c.slots.size < 2 ^ 31 ∧ c.slots.size.toInt32 = n := by
  have ha := Arr.fin (Vm.Alike.refl _) A
  have e2 : (Term.int n).eval args s none [] s = some (.int n) := rfl
  by_cases q : c.slots.size < 2 ^ 31
  · have e1 : (Term.length t).eval args s none [] s = some (.int c.slots.size.toInt32) := len_f ev ha q
    refine ⟨q, ?_⟩
    simpa [Cond.value, e1, e2] using h
  · have e1 : (Term.length t).eval args s none [] s = none := by
      have hq : ¬ c.slots.size < 2147483648 := q
      simp [Term.eval, ev, ha]; omega
    simp [Cond.value, e1] at h
theorem own_sz {c : Cell} {n : Int32} (h : c.slots.size < 2 ^ 31 ∧ c.slots.size.toInt32 = n) : c.slots.size = n.toNatClampNeg := by
  rw [← h.2]; simp only [Int32.toNatClampNeg, len_toInt h.1]; rfl
theorem own_elem {t u : Term} {a b : Addr} {c : Cell} {ty : FieldType} {j : Int32} {args : Array Value} {s : State} (ev : t.eval args s none [] s = some (.ref a)) (A : Arr s s.heap a c ty) (hj : ¬ j < 0) (eu : u.eval args s none [] s = some (.ref b)) (h : (Cond.eq (.elem t (.int j)) u).value args s none s [] = some true) : c.slots[j.toNatClampNeg]? = some (.ref b) := by
  have ha := Arr.fin (Vm.Alike.refl _) A
  have e1 : (Term.elem t (.int j)).eval args s none [] s = c.slots[j.toNatClampNeg]? := elem_f ev rfl ha hj
  cases hx : c.slots[j.toNatClampNeg]? with
  | none => rw [hx] at e1; simp [Cond.value, e1] at h
  | some v => rw [hx] at e1; cases v <;> simp [Cond.value, e1, eu] at h ⊢; exact h
theorem d1_0 : decode method_3_code 0 = .ok (.iload_n 0, 1) := by decide +kernel
theorem d1_1 : decode method_3_code 1 = .ok (.ifCond .ne 7, 3) := by decide +kernel
theorem d1_4 : decode method_3_code 4 = .ok (.getstatic 22, 3) := by decide +kernel
theorem d1_7 : decode method_3_code 7 = .ok (.areturn, 1) := by decide +kernel
theorem d1_8 : decode method_3_code 8 = .ok (.iload_n 0, 1) := by decide +kernel
theorem d1_9 : decode method_3_code 9 = .ok (.iconst 1, 1) := by decide +kernel
theorem d1_10 : decode method_3_code 10 = .ok (.if_icmp .ne 7, 3) := by decide +kernel
theorem d1_13 : decode method_3_code 13 = .ok (.getstatic 26, 3) := by decide +kernel
theorem d1_16 : decode method_3_code 16 = .ok (.areturn, 1) := by decide +kernel
theorem d1_17 : decode method_3_code 17 = .ok (.iload_n 0, 1) := by decide +kernel
theorem d1_18 : decode method_3_code 18 = .ok (.iconst 2, 1) := by decide +kernel
theorem d1_19 : decode method_3_code 19 = .ok (.if_icmp .ne 7, 3) := by decide +kernel
theorem d1_22 : decode method_3_code 22 = .ok (.getstatic 29, 3) := by decide +kernel
theorem d1_25 : decode method_3_code 25 = .ok (.areturn, 1) := by decide +kernel
theorem d1_26 : decode method_3_code 26 = .ok (.iload_n 0, 1) := by decide +kernel
theorem d1_27 : decode method_3_code 27 = .ok (.iconst 3, 1) := by decide +kernel
theorem d1_28 : decode method_3_code 28 = .ok (.if_icmp .ne 7, 3) := by decide +kernel
theorem d1_31 : decode method_3_code 31 = .ok (.getstatic 32, 3) := by decide +kernel
theorem d1_34 : decode method_3_code 34 = .ok (.areturn, 1) := by decide +kernel
theorem d1_35 : decode method_3_code 35 = .ok (.iload_n 0, 1) := by decide +kernel
theorem d1_36 : decode method_3_code 36 = .ok (.iconst 4, 1) := by decide +kernel
theorem d1_37 : decode method_3_code 37 = .ok (.if_icmp .ne 7, 3) := by decide +kernel
theorem d1_40 : decode method_3_code 40 = .ok (.getstatic 35, 3) := by decide +kernel
theorem d1_43 : decode method_3_code 43 = .ok (.areturn, 1) := by decide +kernel
theorem d1_44 : decode method_3_code 44 = .ok (.aconst_null, 1) := by decide +kernel
theorem d1_45 : decode method_3_code 45 = .ok (.areturn, 1) := by decide +kernel
theorem d2_0 : decode prog_18_method_4_code 0 = .ok (.iload_n 0, 1) := by decide +kernel
theorem d2_1 : decode prog_18_method_4_code 1 = .ok (.ifCond .lt 19, 3) := by decide +kernel
theorem d2_4 : decode prog_18_method_4_code 4 = .ok (.iload_n 0, 1) := by decide +kernel
theorem d2_5 : decode prog_18_method_4_code 5 = .ok (.getstatic 38, 3) := by decide +kernel
theorem d2_8 : decode prog_18_method_4_code 8 = .ok (.arraylength, 1) := by decide +kernel
theorem d2_9 : decode prog_18_method_4_code 9 = .ok (.if_icmp .ge 11, 3) := by decide +kernel
theorem d2_12 : decode prog_18_method_4_code 12 = .ok (.getstatic 38, 3) := by decide +kernel
theorem d2_15 : decode prog_18_method_4_code 15 = .ok (.iload_n 0, 1) := by decide +kernel
theorem d2_16 : decode prog_18_method_4_code 16 = .ok (.aaload, 1) := by decide +kernel
theorem d2_17 : decode prog_18_method_4_code 17 = .ok (.goto 4, 3) := by decide +kernel
theorem d2_20 : decode prog_18_method_4_code 20 = .ok (.aconst_null, 1) := by decide +kernel
theorem d2_21 : decode prog_18_method_4_code 21 = .ok (.areturn, 1) := by decide +kernel
theorem d3_0 : decode prog_18_method_5_code 0 = .ok (.aload_n 0, 1) := by decide +kernel
theorem d3_1 : decode prog_18_method_5_code 1 = .ok (.invokevirtual 41, 3) := by decide +kernel
theorem d3_4 : decode prog_18_method_5_code 4 = .ok (.ireturn, 1) := by decide +kernel
theorem d4_0 : decode jdk_37_method_2_code 0 = .ok (.aload_n 0, 1) := by decide +kernel
theorem d4_1 : decode jdk_37_method_2_code 1 = .ok (.getfield 7, 3) := by decide +kernel
theorem d4_4 : decode jdk_37_method_2_code 4 = .ok (.ireturn, 1) := by decide +kernel
def Qv (Z : State) (p1 : Int32) (res : Value) (h0 : Heap) (n0 : Nat) (v : Option Value) (h : Heap) (L : List Loc) : Prop := v = some res ∧ Fr n0 L ∧ h = h0
theorem pn_2 : plainName "com/example/sealtrail/sealtrail/Encryption" = true := by first | (simp [plainName, overriddenIn]; done) | decide +kernel
theorem ef_rm_of_null (m : MethodId) (x0 : Int32) : entryFrame m #[(.int x0)] 1 = mkF m 0 #[.val (.int x0)] [] := by first | (simp [entryFrame, mkF, argsToLocals, Value.category]; done) | rfl
set_option maxRecDepth 65536 in
set_option maxHeartbeats 40000000 in
theorem rm_of_null (l : Launch) (Z : State) (a0 : Array Value) (hw : ∀ d ∈ tables_1, d.before a0 Z = true) (ws : List Jvm.Cond) (p1 : Int32) (h0 : Heap) (n0 : Nat) (Z0 : n0 ≤ h0.size) (aB : Addr) (S_BY : Sta Z h0 "com/example/sealtrail/sealtrail/Encryption" "BY_CODE" "[Lcom/example/sealtrail/sealtrail/Encryption;" (.ref aB)) (clB : Cell) (ArB : Arr Z h0 aB clB (.object "com/example/sealtrail/sealtrail/Encryption")) (SzB : clB.slots.size = (5 : Int32).toNatClampNeg) (hc : p1 < (0 : Int32) ∨ ¬ p1 < (5 : Int32)) :
    MetFree l (⟨"com/example/sealtrail/sealtrail/Encryption", "of", "(I)Lcom/example/sealtrail/sealtrail/Encryption;"⟩ : MethodName) (head1 (Jvm.Cond.code (⟨"com/example/sealtrail/sealtrail/Encryption", "of", "(I)Lcom/example/sealtrail/sealtrail/Encryption;"⟩ : MethodName) prog_18_method_4_code 1 (some (.object "com/example/sealtrail/sealtrail/Encryption")) :: ws) ({ frames := 0, cells := 0, slots := 0, locals := 0 } : Room)) (fun a U => a = #[(.int p1)] ∧ Z.Warmed39 U.vm ∧ U.heap = h0) (fun _ _ _ _ _ => True) (fun _ U o U' => ∃ v L, o = .returned v ∧ Qv Z p1 .null h0 n0 v U'.heap L ∧ FrameEnd U o U' L ({ frames := 0, cells := 0, slots := 0, locals := 0 } : Room).cells ({ frames := 0, cells := 0, slots := 0, locals := 0 } : Room).slots) := by
  refine MetFree.of_bodySF (plainFor_of_name pn_2) hisR ?_
  intro p e s m args below meth c s₁ Bd hml0 hP hK
  obtain ⟨rfl, hZ, hh⟩ := hP
  have hx := Bd.exec
  have hby := Bd.bytes
  have hml : c.maxLocals = 1 := hml0
  have hown : s.vm.findClass "com/example/sealtrail/sealtrail/Encryption" = some m.cls := findClass_of_methodNamed Bd.named
  have hnm := (name_of_methodNamed Bd.named Bd.method).1
  have X0 : Stand p l e ({ frames := 0, cells := 0, slots := 0, locals := 0 } : Room) s m #[(.int p1)] below meth c s₁ [] 0 0 := Stand.of_body Bd
  have e0 : s₁.heap = h0 := by rw [← hh, Bd.state]; rfl
  have N0 := Fr.nil n0
  have pre0 : ∀ t, Steps p.tables e below (s₁.setTop (mkF m 0 #[.val (.int p1)] [])) t → Steps p.tables e below (s₁.setTop (entryFrame m #[(.int p1)] 1)) t := fun t k => castTop (ef_rm_of_null m p1) k
  have pre1 : ∀ t, Steps p.tables e below (s₁.setTop (mkF m 1 #[.val (.int p1)] [(.int p1)])) t → Steps p.tables e below (s₁.setTop (entryFrame m #[(.int p1)] 1)) t := fun t k => pre0 t (by
    show Steps p.tables e below (s₁.setTop (mkF m 0 #[.val (.int p1)] [])) _
    refine XS.iloadN X0.here hx rfl (hb hby d2_0) rfl ?_
    exact k)
  by_cases hc1_2 : p1 < (0 : Int32)
  · have _ := 0
    have pre3 : ∀ t, Steps p.tables e below (s₁.setTop (mkF m 21 #[.val (.int p1)] [.null])) t → Steps p.tables e below (s₁.setTop (entryFrame m #[(.int p1)] 1)) t := fun t k => pre1 t (by
      show Steps p.tables e below (s₁.setTop (mkF m 1 #[.val (.int p1)] [(.int p1)])) _
      refine XS.ifYes X0.here hx rfl (pc0 := 1) (pc' := 20) rfl (hb hby d2_1) rfl ((if0 _ _).trans (tlt hc1_2).1) (by decide) (by decide) ?_
      show Steps p.tables e below (s₁.setTop (mkF m 20 #[.val (.int p1)] [])) _
      refine XS.aconstNull X0.here hx rfl (hb hby d2_20) ?_
      exact k)
    obtain ⟨fs, hr, hrun, hended, hW, hsame⟩ := X0.leave (v := some .null) (fun h => by rw [Bd.returns] at h; cases h)
    refine ⟨_, _, pre3 _ ?_, hrun, hended, _, _, rfl, ?_, ⟨_, rfl⟩, hW, hsame.mono (by decide) (by decide)⟩
    · show Steps p.tables e below (s₁.setTop (mkF m 21 #[.val (.int p1)] [.null])) _
      exact retOut X0 hx Bd.returns rfl (Or.inr (Or.inr (Or.inr (Or.inr ⟨rfl, rfl, rfl⟩)))) (hb hby d2_21) hr
    · show Qv Z p1 .null h0 n0 _ s₁.heap _
      rw [e0]
      exact ⟨rfl, N0, rfl⟩
  · have _ := 0
    obtain ⟨T4, X4, e4, st4⟩ := getS2 X0 hx hZ hown (host := "") (Or.inl (hw _ (List.mem_of_getElem? (i := 10) rfl))) Via.refl e0 S_BY (g := (mkF m 5 #[.val (.int p1)] [(.int p1)])) rfl (hb hby d2_5)
    have pre5 : ∀ t, Steps p.tables e below (T4.setTop (mkF m 21 #[.val (.int p1)] [.null])) t → Steps p.tables e below (s₁.setTop (entryFrame m #[(.int p1)] 1)) t := fun t k => pre1 t (by
      show Steps p.tables e below (s₁.setTop (mkF m 1 #[.val (.int p1)] [(.int p1)])) _
      refine XS.ifNo X0.here hx rfl (hb hby d2_1) rfl ((if0 _ _).trans (flt hc1_2).1) ?_
      show Steps p.tables e below (s₁.setTop (mkF m 4 #[.val (.int p1)] [])) _
      refine XS.iloadN X0.here hx rfl (hb hby d2_4) rfl ?_
      show Steps p.tables e below (s₁.setTop (mkF m 5 #[.val (.int p1)] [(.int p1)])) _
      refine st4 _ ?_
      show Steps p.tables e below (T4.setTop (mkF m 8 #[.val (.int p1)] [(.ref aB), (.int p1)])) _
      refine X4.arraylength hx (by rw [e4]; exact ArB.1) (State.isArrayOf_alike hZ.alike ArB.2.1) (g := (mkF m 8 #[.val (.int p1)] [(.ref aB), (.int p1)])) rfl rfl (hb hby d2_8) _ ?_
      rw [len_of SzB (by decide)]
      show Steps p.tables e below (T4.setTop (mkF m 9 #[.val (.int p1)] [(.int (5 : Int32)), (.int p1)])) _
      refine XS.icmpYes X4.here hx rfl (pc0 := 9) (pc' := 20) rfl (hb hby d2_9) rfl (flt (hc.resolve_left hc1_2)).2.1 (by decide) (by decide) ?_
      show Steps p.tables e below (T4.setTop (mkF m 20 #[.val (.int p1)] [])) _
      refine XS.aconstNull X4.here hx rfl (hb hby d2_20) ?_
      exact k)
    obtain ⟨fs, hr, hrun, hended, hW, hsame⟩ := X4.leave (v := some .null) (fun h => by rw [Bd.returns] at h; cases h)
    refine ⟨_, _, pre5 _ ?_, hrun, hended, _, _, rfl, ?_, ⟨_, rfl⟩, hW, hsame.mono (by decide) (by decide)⟩
    · show Steps p.tables e below (T4.setTop (mkF m 21 #[.val (.int p1)] [.null])) _
      exact retOut X4 hx Bd.returns rfl (Or.inr (Or.inr (Or.inr (Or.inr ⟨rfl, rfl, rfl⟩)))) (hb hby d2_21) hr
    · show Qv Z p1 .null h0 n0 _ T4.heap _
      rw [e4]
      exact ⟨rfl, N0, rfl⟩
theorem ef_rm_of_ref (m : MethodId) (x0 : Int32) : entryFrame m #[(.int x0)] 1 = mkF m 0 #[.val (.int x0)] [] := by first | (simp [entryFrame, mkF, argsToLocals, Value.category]; done) | rfl
set_option maxRecDepth 65536 in
set_option maxHeartbeats 40000000 in
theorem rm_of_ref (l : Launch) (Z : State) (a0 : Array Value) (hw : ∀ d ∈ tables_1, d.before a0 Z = true) (ws : List Jvm.Cond) (p1 : Int32) (h0 : Heap) (n0 : Nat) (Z0 : n0 ≤ h0.size) (aB : Addr) (S_BY : Sta Z h0 "com/example/sealtrail/sealtrail/Encryption" "BY_CODE" "[Lcom/example/sealtrail/sealtrail/Encryption;" (.ref aB)) (clB : Cell) (ArB : Arr Z h0 aB clB (.object "com/example/sealtrail/sealtrail/Encryption")) (SzB : clB.slots.size = (5 : Int32).toNatClampNeg) (h1 : ¬ p1 < (0 : Int32)) (h2 : p1 < (5 : Int32)) (a : Addr) (hat : clB.slots[p1.toNatClampNeg]? = some (.ref a)) :
    MetFree l (⟨"com/example/sealtrail/sealtrail/Encryption", "of", "(I)Lcom/example/sealtrail/sealtrail/Encryption;"⟩ : MethodName) (head1 (Jvm.Cond.code (⟨"com/example/sealtrail/sealtrail/Encryption", "of", "(I)Lcom/example/sealtrail/sealtrail/Encryption;"⟩ : MethodName) prog_18_method_4_code 1 (some (.object "com/example/sealtrail/sealtrail/Encryption")) :: ws) ({ frames := 0, cells := 0, slots := 0, locals := 0 } : Room)) (fun a U => a = #[(.int p1)] ∧ Z.Warmed39 U.vm ∧ U.heap = h0) (fun _ _ _ _ _ => True) (fun _ U o U' => ∃ v L, o = .returned v ∧ Qv Z p1 (.ref a) h0 n0 v U'.heap L ∧ FrameEnd U o U' L ({ frames := 0, cells := 0, slots := 0, locals := 0 } : Room).cells ({ frames := 0, cells := 0, slots := 0, locals := 0 } : Room).slots) := by
  refine MetFree.of_bodySF (plainFor_of_name pn_2) hisR ?_
  intro p e s m args below meth c s₁ Bd hml0 hP hK
  obtain ⟨rfl, hZ, hh⟩ := hP
  have hx := Bd.exec
  have hby := Bd.bytes
  have hml : c.maxLocals = 1 := hml0
  have hown : s.vm.findClass "com/example/sealtrail/sealtrail/Encryption" = some m.cls := findClass_of_methodNamed Bd.named
  have hnm := (name_of_methodNamed Bd.named Bd.method).1
  have X0 : Stand p l e ({ frames := 0, cells := 0, slots := 0, locals := 0 } : Room) s m #[(.int p1)] below meth c s₁ [] 0 0 := Stand.of_body Bd
  have e0 : s₁.heap = h0 := by rw [← hh, Bd.state]; rfl
  have N0 := Fr.nil n0
  have pre0 : ∀ t, Steps p.tables e below (s₁.setTop (mkF m 0 #[.val (.int p1)] [])) t → Steps p.tables e below (s₁.setTop (entryFrame m #[(.int p1)] 1)) t := fun t k => castTop (ef_rm_of_ref m p1) k
  obtain ⟨T1, X1, e1, st1⟩ := getS2 X0 hx hZ hown (host := "") (Or.inl (hw _ (List.mem_of_getElem? (i := 10) rfl))) Via.refl e0 S_BY (g := (mkF m 5 #[.val (.int p1)] [(.int p1)])) rfl (hb hby d2_5)
  obtain ⟨T2, X2, e2, st2⟩ := getS2 X1 hx hZ hown (host := "") (Or.inl (hw _ (List.mem_of_getElem? (i := 10) rfl))) Via.refl e1 S_BY (g := (mkF m 12 #[.val (.int p1)] [])) rfl (hb hby d2_12)
  have pre3 : ∀ t, Steps p.tables e below (T2.setTop (mkF m 21 #[.val (.int p1)] [(.ref a)])) t → Steps p.tables e below (s₁.setTop (entryFrame m #[(.int p1)] 1)) t := fun t k => pre0 t (by
    show Steps p.tables e below (s₁.setTop (mkF m 0 #[.val (.int p1)] [])) _
    refine XS.iloadN X0.here hx rfl (hb hby d2_0) rfl ?_
    show Steps p.tables e below (s₁.setTop (mkF m 1 #[.val (.int p1)] [(.int p1)])) _
    refine XS.ifNo X0.here hx rfl (hb hby d2_1) rfl ((if0 _ _).trans (flt h1).1) ?_
    show Steps p.tables e below (s₁.setTop (mkF m 4 #[.val (.int p1)] [])) _
    refine XS.iloadN X0.here hx rfl (hb hby d2_4) rfl ?_
    show Steps p.tables e below (s₁.setTop (mkF m 5 #[.val (.int p1)] [(.int p1)])) _
    refine st1 _ ?_
    show Steps p.tables e below (T1.setTop (mkF m 8 #[.val (.int p1)] [(.ref aB), (.int p1)])) _
    refine X1.arraylength hx (by rw [e1]; exact ArB.1) (State.isArrayOf_alike hZ.alike ArB.2.1) (g := (mkF m 8 #[.val (.int p1)] [(.ref aB), (.int p1)])) rfl rfl (hb hby d2_8) _ ?_
    rw [len_of SzB (by decide)]
    show Steps p.tables e below (T1.setTop (mkF m 9 #[.val (.int p1)] [(.int (5 : Int32)), (.int p1)])) _
    refine XS.icmpNo X1.here hx rfl (hb hby d2_9) rfl (tlt h2).2.1 ?_
    show Steps p.tables e below (T1.setTop (mkF m 12 #[.val (.int p1)] [])) _
    refine st2 _ ?_
    show Steps p.tables e below (T2.setTop (mkF m 15 #[.val (.int p1)] [(.ref aB)])) _
    refine XS.iloadN X2.here hx rfl (hb hby d2_15) rfl ?_
    show Steps p.tables e below (T2.setTop (mkF m 16 #[.val (.int p1)] [(.int p1), (.ref aB)])) _
    refine X2.aaload hx (j := p1) (v := (.ref a)) (by rw [e2]; exact ArB.1) (State.isArrayOf_alike hZ.alike ArB.2.1) rfl ArB.2.2 (inb_of SzB ⟨h1, h2⟩) hat (g := (mkF m 16 #[.val (.int p1)] [(.int p1), (.ref aB)])) rfl rfl (hb hby d2_16) _ ?_
    show Steps p.tables e below (T2.setTop (mkF m 17 #[.val (.int p1)] [(.ref a)])) _
    refine XS.goto X2.here hx rfl (pc0 := 17) (pc' := 21) rfl (hb hby d2_17) (by decide) (by decide) ?_
    exact k)
  obtain ⟨fs, hr, hrun, hended, hW, hsame⟩ := X2.leave (v := some (.ref a)) (fun h => by rw [Bd.returns] at h; cases h)
  refine ⟨_, _, pre3 _ ?_, hrun, hended, _, _, rfl, ?_, ⟨_, rfl⟩, hW, hsame.mono (by decide) (by decide)⟩
  · show Steps p.tables e below (T2.setTop (mkF m 21 #[.val (.int p1)] [(.ref a)])) _
    exact retOut X2 hx Bd.returns rfl (Or.inr (Or.inr (Or.inr (Or.inr ⟨rfl, rfl, rfl⟩)))) (hb hby d2_21) hr
  · show Qv Z p1 (.ref a) h0 n0 _ T2.heap _
    rw [e2]
    exact ⟨rfl, N0, rfl⟩
def Qi (Z : State) (r1 : Addr) (w : Int32) (h0 : Heap) (n0 : Nat) (v : Option Value) (h : Heap) (L : List Loc) : Prop := v = some (.int w) ∧ Fr n0 L ∧ h = h0
theorem pn_4 : plainName "java/lang/Enum" = true := by first | (simp [plainName, overriddenIn]; done) | decide +kernel
theorem ef_rm_ord (m : MethodId) (x0 : Addr) : entryFrame m #[(.ref x0)] 1 = mkF m 0 #[.val (.ref x0)] [] := by first | (simp [entryFrame, mkF, argsToLocals, Value.category]; done) | rfl
set_option maxRecDepth 65536 in
set_option maxHeartbeats 40000000 in
theorem rm_ord (l : Launch) (Z : State) (a0 : Array Value) (hw : ∀ d ∈ tables_1, d.before a0 Z = true) (ws : List Jvm.Cond) (r1 : Addr) (h0 : Heap) (n0 : Nat) (Z0 : n0 ≤ h0.size) (w : Int32) (F1 : Fld Z h0 r1 "java/lang/Enum" "ordinal" "I" (.int w)) :
    MetFree l (⟨"java/lang/Enum", "ordinal", "()I"⟩ : MethodName) (head1 (Jvm.Cond.code (⟨"java/lang/Enum", "ordinal", "()I"⟩ : MethodName) jdk_37_method_2_code 1 (some .int) :: ws) ({ frames := 0, cells := 0, slots := 0, locals := 0 } : Room)) (fun a U => a = #[(.ref r1)] ∧ Z.Warmed39 U.vm ∧ U.heap = h0) (fun _ _ _ _ _ => True) (fun _ U o U' => ∃ v L, o = .returned v ∧ Qi Z r1 w h0 n0 v U'.heap L ∧ FrameEnd U o U' L ({ frames := 0, cells := 0, slots := 0, locals := 0 } : Room).cells ({ frames := 0, cells := 0, slots := 0, locals := 0 } : Room).slots) := by
  refine MetFree.of_bodySF (plainFor_of_name pn_4) hisR ?_
  intro p e s m args below meth c s₁ Bd hml0 hP hK
  obtain ⟨rfl, hZ, hh⟩ := hP
  have hx := Bd.exec
  have hby := Bd.bytes
  have hml : c.maxLocals = 1 := hml0
  have hown : s.vm.findClass "java/lang/Enum" = some m.cls := findClass_of_methodNamed Bd.named
  have hnm := (name_of_methodNamed Bd.named Bd.method).1
  have X0 : Stand p l e ({ frames := 0, cells := 0, slots := 0, locals := 0 } : Room) s m #[(.ref r1)] below meth c s₁ [] 0 0 := Stand.of_body Bd
  have e0 : s₁.heap = h0 := by rw [← hh, Bd.state]; rfl
  have N0 := Fr.nil n0
  have pre0 : ∀ t, Steps p.tables e below (s₁.setTop (mkF m 0 #[.val (.ref r1)] [])) t → Steps p.tables e below (s₁.setTop (entryFrame m #[(.ref r1)] 1)) t := fun t k => castTop (ef_rm_ord m r1) k
  obtain ⟨T1, X1, e1, st1⟩ := getF X0 hx hZ hown (host := "") (Or.inl (hw _ (List.mem_of_getElem? (i := 24) rfl))) Via.refl e0 F1 (g := (mkF m 1 #[.val (.ref r1)] [(.ref r1)])) rfl rfl (hb hby d4_1)
  have pre2 : ∀ t, Steps p.tables e below (T1.setTop (mkF m 4 #[.val (.ref r1)] [(.int w)])) t → Steps p.tables e below (s₁.setTop (entryFrame m #[(.ref r1)] 1)) t := fun t k => pre0 t (by
    show Steps p.tables e below (s₁.setTop (mkF m 0 #[.val (.ref r1)] [])) _
    refine XS.aloadN X0.here hx rfl (hb hby d4_0) rfl rfl ?_
    show Steps p.tables e below (s₁.setTop (mkF m 1 #[.val (.ref r1)] [(.ref r1)])) _
    refine st1 _ ?_
    exact k)
  obtain ⟨fs, hr, hrun, hended, hW, hsame⟩ := X1.leave (v := some (.int w)) (fun h => by rw [Bd.returns] at h; cases h)
  refine ⟨_, _, pre2 _ ?_, hrun, hended, _, _, rfl, ?_, ⟨_, rfl⟩, hW, hsame.mono (by decide) (by decide)⟩
  · show Steps p.tables e below (T1.setTop (mkF m 4 #[.val (.ref r1)] [(.int w)])) _
    exact retOut X1 hx Bd.returns rfl (Or.inl ⟨rfl, by simp, _, rfl⟩) (hb hby d4_4) hr
  · show Qi Z r1 w h0 n0 _ T1.heap _
    rw [e1]
    exact ⟨rfl, N0, rfl⟩
theorem pn_3 : plainName "com/example/sealtrail/sealtrail/Encryption" = true := by first | (simp [plainName, overriddenIn]; done) | decide +kernel
theorem ef_rm_code (m : MethodId) (x0 : Addr) : entryFrame m #[(.ref x0)] 1 = mkF m 0 #[.val (.ref x0)] [] := by first | (simp [entryFrame, mkF, argsToLocals, Value.category]; done) | rfl
set_option maxRecDepth 65536 in
set_option maxHeartbeats 40000000 in
theorem rm_code (l : Launch) (Z : State) (a0 : Array Value) (hw : ∀ d ∈ tables_1, d.before a0 Z = true) (ws : List Jvm.Cond) (r1 : Addr) (h0 : Heap) (n0 : Nat) (Z0 : n0 ≤ h0.size) (w : Int32) (F1 : Fld Z h0 r1 "java/lang/Enum" "ordinal" "I" (.int w)) (E1 : Exa Z h0 r1 "com/example/sealtrail/sealtrail/Encryption") :
    MetFree l (⟨"com/example/sealtrail/sealtrail/Encryption", "code", "()I"⟩ : MethodName) (head1 (Jvm.Cond.code (⟨"com/example/sealtrail/sealtrail/Encryption", "code", "()I"⟩ : MethodName) prog_18_method_5_code 1 (some .int) :: ws) ({ frames := 1, cells := 0, slots := 0, locals := 12 } : Room)) (fun a U => a = #[(.ref r1)] ∧ Z.Warmed39 U.vm ∧ U.heap = h0) (fun _ _ _ _ _ => True) (fun _ U o U' => ∃ v L, o = .returned v ∧ Qi Z r1 w h0 n0 v U'.heap L ∧ FrameEnd U o U' L ({ frames := 1, cells := 0, slots := 0, locals := 12 } : Room).cells ({ frames := 1, cells := 0, slots := 0, locals := 12 } : Room).slots) := by
  refine MetFree.of_bodySF (plainFor_of_name pn_3) hisR ?_
  intro p e s m args below meth c s₁ Bd hml0 hP hK
  obtain ⟨rfl, hZ, hh⟩ := hP
  have hx := Bd.exec
  have hby := Bd.bytes
  have hml : c.maxLocals = 1 := hml0
  have hown : s.vm.findClass "com/example/sealtrail/sealtrail/Encryption" = some m.cls := findClass_of_methodNamed Bd.named
  have hnm := (name_of_methodNamed Bd.named Bd.method).1
  have X0 : Stand p l e ({ frames := 1, cells := 0, slots := 0, locals := 12 } : Room) s m #[(.ref r1)] below meth c s₁ [] 0 0 := Stand.of_body Bd
  have e0 : s₁.heap = h0 := by rw [← hh, Bd.state]; rfl
  have N0 := Fr.nil n0
  have pre0 : ∀ t, Steps p.tables e below (s₁.setTop (mkF m 0 #[.val (.ref r1)] [])) t → Steps p.tables e below (s₁.setTop (entryFrame m #[(.ref r1)] 1)) t := fun t k => castTop (ef_rm_code m r1) k
  obtain ⟨cq1, kq1, q1a, q1b, q1c⟩ := isOf hZ e0 E1
  obtain ⟨_, _, ⟨T1, L1, k1, n1⟩, -, X1, ⟨Lc1, hQ1, l1, y1, z1⟩, st1⟩ := X0.virtualBackUp hx (owner := "java/lang/Enum") (x := (⟨"com/example/sealtrail/sealtrail/Encryption", "ordinal", "()I"⟩ : MethodName)) (y := (⟨"java/lang/Enum", "ordinal", "()I"⟩ : MethodName)) hown (mvT hZ (hw _ (List.mem_of_getElem? (i := 17) rfl))) (mvT hZ (hw _ (List.mem_of_getElem? (i := 18) rfl))) (mvT hZ (hw _ (List.mem_of_getElem? (i := 19) rfl))) (by decide) (mvT hZ (hw _ (List.mem_of_getElem? (i := 21) rfl))) (mvT hZ (hw _ (List.mem_of_getElem? (i := 20) rfl))) (backOf (W := 0) (rm_ord l Z a0 hw [] r1 h0 n0 Z0 w F1) hZ (hw _ (List.mem_of_getElem? (i := 23) rfl)) (hw _ (List.mem_of_getElem? (i := 22) rfl)) (by decide) (by decide)) q1a q1c (g := (mkF m 1 #[.val (.ref r1)] [(.ref r1)])) rfl (by rw [hml]; rfl) (Steps.refl _) (argsL := []) (rest := []) (lenOf pd_0 rfl) rfl (by show 2 * 0 + _ ≤ _; exact Nat.le_of_eq rfl) (hb hby d3_1) (fun _ _ => ⟨rfl, e0, (by decide : 0 + 0 ≤ _), (by decide : 0 + 0 ≤ _)⟩)
  dsimp only [Pt.U, Pt.locs, Pt.cells, Pt.slots] at X1 l1 y1 z1 st1 hQ1
  subst l1 y1 z1
  obtain ⟨rfl, N1q, e1⟩ := hQ1
  have N1 := Fr.app N0 N1q
  have pre2 : ∀ t, Steps p.tables e below (T1.setTop (mkF m 4 #[.val (.ref r1)] [(.int w)])) t → Steps p.tables e below (s₁.setTop (entryFrame m #[(.ref r1)] 1)) t := fun t k => pre0 t (by
    show Steps p.tables e below (s₁.setTop (mkF m 0 #[.val (.ref r1)] [])) _
    refine XS.aloadN X0.here hx rfl (hb hby d3_0) rfl rfl ?_
    show Steps p.tables e below (s₁.setTop (mkF m 1 #[.val (.ref r1)] [(.ref r1)])) _
    refine st1.trans ?_
    exact k)
  obtain ⟨fs, hr, hrun, hended, hW, hsame⟩ := X1.leave (v := some (.int w)) (fun h => by rw [Bd.returns] at h; cases h)
  refine ⟨_, _, pre2 _ ?_, hrun, hended, _, _, rfl, ?_, ⟨_, rfl⟩, hW, hsame.mono (by decide) (by decide)⟩
  · show Steps p.tables e below (T1.setTop (mkF m 4 #[.val (.ref r1)] [(.int w)])) _
    exact retOut X1 hx Bd.returns rfl (Or.inl ⟨rfl, by simp, _, rfl⟩) (hb hby d3_4) hr
  · show Qi Z r1 w h0 n0 _ T1.heap _
    rw [e1]
    exact ⟨rfl, N1, rfl⟩
theorem own_below {j : Int32} (h1 : ¬ j < (0 : Int32)) (h2 : j < (5 : Int32)) : j = (0 : Int32) ∨ j = (1 : Int32) ∨ j = (2 : Int32) ∨ j = (3 : Int32) ∨ j = (4 : Int32) := by
  rw [Int32.lt_iff_toInt_lt] at h1 h2
  have o0 : (0 : Int32).toInt = 0 := by decide
  have oN : (5 : Int32).toInt = 5 := by decide
  have h : j.toInt = 0 ∨ j.toInt = 1 ∨ j.toInt = 2 ∨ j.toInt = 3 ∨ j.toInt = 4 := by omega
  rcases h with h | h | h | h | h
  · exact Or.inl (Int32.toInt_inj.mp (h.trans (by decide : (0 : Int) = (0 : Int32).toInt)))
  · exact Or.inr (Or.inl (Int32.toInt_inj.mp (h.trans (by decide : (1 : Int) = (1 : Int32).toInt))))
  · exact Or.inr (Or.inr (Or.inl (Int32.toInt_inj.mp (h.trans (by decide : (2 : Int) = (2 : Int32).toInt)))))
  · exact Or.inr (Or.inr (Or.inr (Or.inl (Int32.toInt_inj.mp (h.trans (by decide : (3 : Int) = (3 : Int32).toInt))))))
  · exact Or.inr (Or.inr (Or.inr (Or.inr ((Int32.toInt_inj.mp (h.trans (by decide : (4 : Int) = (4 : Int32).toInt)))))))
def own_exp (p : Int32) (a_NONE a_SYMMETRIC a_SEALTRAIL_KEY a_VIEWER_KEY a_CLIENT_KEY : Addr) : Value := if p = (0 : Int32) then .ref a_NONE else if p = (1 : Int32) then .ref a_SYMMETRIC else if p = (2 : Int32) then .ref a_SEALTRAIL_KEY else if p = (3 : Int32) then .ref a_VIEWER_KEY else if p = (4 : Int32) then .ref a_CLIENT_KEY else .null
theorem pn_1 : plainName "com/example/sealtrail/sealtrail/EncryptionOfPinLaw" = true := by first | (simp [plainName, overriddenIn]; done) | decide +kernel
theorem ef_rm_exp (m : MethodId) (x0 : Int32) : entryFrame m #[(.int x0)] 1 = mkF m 0 #[.val (.int x0)] [] := by first | (simp [entryFrame, mkF, argsToLocals, Value.category]; done) | rfl
set_option maxRecDepth 65536 in
set_option maxHeartbeats 40000000 in
theorem rm_exp (l : Launch) (Z : State) (a0 : Array Value) (hw : ∀ d ∈ tables_1, d.before a0 Z = true) (ws : List Jvm.Cond) (p1 : Int32) (h0 : Heap) (n0 : Nat) (Z0 : n0 ≤ h0.size) (a_NONE : Addr) (S_NONE : Sta Z h0 "com/example/sealtrail/sealtrail/Encryption" "NONE" "Lcom/example/sealtrail/sealtrail/Encryption;" (.ref a_NONE)) (a_SYMMETRIC : Addr) (S_SYMMETRIC : Sta Z h0 "com/example/sealtrail/sealtrail/Encryption" "SYMMETRIC" "Lcom/example/sealtrail/sealtrail/Encryption;" (.ref a_SYMMETRIC)) (a_SEALTRAIL_KEY : Addr) (S_SEALTRAIL_KEY : Sta Z h0 "com/example/sealtrail/sealtrail/Encryption" "SEALTRAIL_KEY" "Lcom/example/sealtrail/sealtrail/Encryption;" (.ref a_SEALTRAIL_KEY)) (a_VIEWER_KEY : Addr) (S_VIEWER_KEY : Sta Z h0 "com/example/sealtrail/sealtrail/Encryption" "VIEWER_KEY" "Lcom/example/sealtrail/sealtrail/Encryption;" (.ref a_VIEWER_KEY)) (a_CLIENT_KEY : Addr) (S_CLIENT_KEY : Sta Z h0 "com/example/sealtrail/sealtrail/Encryption" "CLIENT_KEY" "Lcom/example/sealtrail/sealtrail/Encryption;" (.ref a_CLIENT_KEY)) (res : Value) (hres : own_exp p1 a_NONE a_SYMMETRIC a_SEALTRAIL_KEY a_VIEWER_KEY a_CLIENT_KEY = res) :
    MetFree l (⟨"com/example/sealtrail/sealtrail/EncryptionOfPinLaw", "expectedFor", "(I)Lcom/example/sealtrail/sealtrail/Encryption;"⟩ : MethodName) (head1 (Jvm.Cond.code (⟨"com/example/sealtrail/sealtrail/EncryptionOfPinLaw", "expectedFor", "(I)Lcom/example/sealtrail/sealtrail/Encryption;"⟩ : MethodName) method_3_code 1 (some (.object "com/example/sealtrail/sealtrail/Encryption")) :: ws) ({ frames := 0, cells := 0, slots := 0, locals := 0 } : Room)) (fun a U => a = #[(.int p1)] ∧ Z.Warmed39 U.vm ∧ U.heap = h0) (fun _ _ _ _ _ => True) (fun _ U o U' => ∃ v L, o = .returned v ∧ Qv Z p1 res h0 n0 v U'.heap L ∧ FrameEnd U o U' L ({ frames := 0, cells := 0, slots := 0, locals := 0 } : Room).cells ({ frames := 0, cells := 0, slots := 0, locals := 0 } : Room).slots) := by
  refine MetFree.of_bodySF (plainFor_of_name pn_1) hisR ?_
  intro p e s m args below meth c s₁ Bd hml0 hP hK
  obtain ⟨rfl, hZ, hh⟩ := hP
  have hx := Bd.exec
  have hby := Bd.bytes
  have hml : c.maxLocals = 1 := hml0
  have hown : s.vm.findClass "com/example/sealtrail/sealtrail/EncryptionOfPinLaw" = some m.cls := findClass_of_methodNamed Bd.named
  have hnm := (name_of_methodNamed Bd.named Bd.method).1
  have X0 : Stand p l e ({ frames := 0, cells := 0, slots := 0, locals := 0 } : Room) s m #[(.int p1)] below meth c s₁ [] 0 0 := Stand.of_body Bd
  have e0 : s₁.heap = h0 := by rw [← hh, Bd.state]; rfl
  have N0 := Fr.nil n0
  have pre0 : ∀ t, Steps p.tables e below (s₁.setTop (mkF m 0 #[.val (.int p1)] [])) t → Steps p.tables e below (s₁.setTop (entryFrame m #[(.int p1)] 1)) t := fun t k => castTop (ef_rm_exp m p1) k
  have pre1 : ∀ t, Steps p.tables e below (s₁.setTop (mkF m 1 #[.val (.int p1)] [(.int p1)])) t → Steps p.tables e below (s₁.setTop (entryFrame m #[(.int p1)] 1)) t := fun t k => pre0 t (by
    show Steps p.tables e below (s₁.setTop (mkF m 0 #[.val (.int p1)] [])) _
    refine XS.iloadN X0.here hx rfl (hb hby d1_0) rfl ?_
    exact k)
  by_cases hc1_2 : p1 = (0 : Int32)
  · have _ := 0
    obtain ⟨T3, X3, e3, st3⟩ := getS2 X0 hx hZ hown (host := "") (Or.inl (hw _ (List.mem_of_getElem? (i := 4) rfl))) Via.refl e0 S_NONE (g := (mkF m 4 #[.val (.int p1)] [])) rfl (hb hby d1_4)
    have pre4 : ∀ t, Steps p.tables e below (T3.setTop (mkF m 7 #[.val (.int p1)] [(.ref a_NONE)])) t → Steps p.tables e below (s₁.setTop (entryFrame m #[(.int p1)] 1)) t := fun t k => pre1 t (by
      show Steps p.tables e below (s₁.setTop (mkF m 1 #[.val (.int p1)] [(.int p1)])) _
      refine XS.ifNo X0.here hx rfl (hb hby d1_1) rfl ((if0 _ _).trans (teq hc1_2).2) ?_
      show Steps p.tables e below (s₁.setTop (mkF m 4 #[.val (.int p1)] [])) _
      refine st3 _ ?_
      exact k)
    obtain ⟨fs, hr, hrun, hended, hW, hsame⟩ := X3.leave (v := some (.ref a_NONE)) (fun h => by rw [Bd.returns] at h; cases h)
    refine ⟨_, _, pre4 _ ?_, hrun, hended, _, _, rfl, ?_, ⟨_, rfl⟩, hW, hsame.mono (by decide) (by decide)⟩
    · show Steps p.tables e below (T3.setTop (mkF m 7 #[.val (.int p1)] [(.ref a_NONE)])) _
      exact retOut X3 hx Bd.returns rfl (Or.inr (Or.inr (Or.inr (Or.inr ⟨rfl, rfl, rfl⟩)))) (hb hby d1_7) hr
    · show Qv Z p1 res h0 n0 _ T3.heap _
      rw [e3]
      exact ⟨by rw [← hres]; simp [own_exp, hc1_2], N0, rfl⟩
  · have _ := 0
    have pre5 : ∀ t, Steps p.tables e below (s₁.setTop (mkF m 10 #[.val (.int p1)] [(.int (1 : Int32)), (.int p1)])) t → Steps p.tables e below (s₁.setTop (entryFrame m #[(.int p1)] 1)) t := fun t k => pre1 t (by
      show Steps p.tables e below (s₁.setTop (mkF m 1 #[.val (.int p1)] [(.int p1)])) _
      refine XS.ifYes X0.here hx rfl (pc0 := 1) (pc' := 8) rfl (hb hby d1_1) rfl ((if0 _ _).trans (feq hc1_2).2) (by decide) (by decide) ?_
      show Steps p.tables e below (s₁.setTop (mkF m 8 #[.val (.int p1)] [])) _
      refine XS.iloadN X0.here hx rfl (hb hby d1_8) rfl ?_
      show Steps p.tables e below (s₁.setTop (mkF m 9 #[.val (.int p1)] [(.int p1)])) _
      refine XT.iconstV X0.here hx rfl (1 : Int32) (hb hby d1_9) (by decide) ?_
      exact k)
    by_cases hc10_6 : p1 = (1 : Int32)
    · have _ := 0
      obtain ⟨T7, X7, e7, st7⟩ := getS2 X0 hx hZ hown (host := "") (Or.inl (hw _ (List.mem_of_getElem? (i := 30) rfl))) Via.refl e0 S_SYMMETRIC (g := (mkF m 13 #[.val (.int p1)] [])) rfl (hb hby d1_13)
      have pre8 : ∀ t, Steps p.tables e below (T7.setTop (mkF m 16 #[.val (.int p1)] [(.ref a_SYMMETRIC)])) t → Steps p.tables e below (s₁.setTop (entryFrame m #[(.int p1)] 1)) t := fun t k => pre5 t (by
        show Steps p.tables e below (s₁.setTop (mkF m 10 #[.val (.int p1)] [(.int (1 : Int32)), (.int p1)])) _
        refine XS.icmpNo X0.here hx rfl (hb hby d1_10) rfl (teq hc10_6).2 ?_
        show Steps p.tables e below (s₁.setTop (mkF m 13 #[.val (.int p1)] [])) _
        refine st7 _ ?_
        exact k)
      obtain ⟨fs, hr, hrun, hended, hW, hsame⟩ := X7.leave (v := some (.ref a_SYMMETRIC)) (fun h => by rw [Bd.returns] at h; cases h)
      refine ⟨_, _, pre8 _ ?_, hrun, hended, _, _, rfl, ?_, ⟨_, rfl⟩, hW, hsame.mono (by decide) (by decide)⟩
      · show Steps p.tables e below (T7.setTop (mkF m 16 #[.val (.int p1)] [(.ref a_SYMMETRIC)])) _
        exact retOut X7 hx Bd.returns rfl (Or.inr (Or.inr (Or.inr (Or.inr ⟨rfl, rfl, rfl⟩)))) (hb hby d1_16) hr
      · show Qv Z p1 res h0 n0 _ T7.heap _
        rw [e7]
        exact ⟨by rw [← hres]; simp [own_exp, hc1_2, hc10_6], N0, rfl⟩
    · have _ := 0
      have pre9 : ∀ t, Steps p.tables e below (s₁.setTop (mkF m 19 #[.val (.int p1)] [(.int (2 : Int32)), (.int p1)])) t → Steps p.tables e below (s₁.setTop (entryFrame m #[(.int p1)] 1)) t := fun t k => pre5 t (by
        show Steps p.tables e below (s₁.setTop (mkF m 10 #[.val (.int p1)] [(.int (1 : Int32)), (.int p1)])) _
        refine XS.icmpYes X0.here hx rfl (pc0 := 10) (pc' := 17) rfl (hb hby d1_10) rfl (feq hc10_6).2 (by decide) (by decide) ?_
        show Steps p.tables e below (s₁.setTop (mkF m 17 #[.val (.int p1)] [])) _
        refine XS.iloadN X0.here hx rfl (hb hby d1_17) rfl ?_
        show Steps p.tables e below (s₁.setTop (mkF m 18 #[.val (.int p1)] [(.int p1)])) _
        refine XT.iconstV X0.here hx rfl (2 : Int32) (hb hby d1_18) (by decide) ?_
        exact k)
      by_cases hc19_10 : p1 = (2 : Int32)
      · have _ := 0
        obtain ⟨T11, X11, e11, st11⟩ := getS2 X0 hx hZ hown (host := "") (Or.inl (hw _ (List.mem_of_getElem? (i := 32) rfl))) Via.refl e0 S_SEALTRAIL_KEY (g := (mkF m 22 #[.val (.int p1)] [])) rfl (hb hby d1_22)
        have pre12 : ∀ t, Steps p.tables e below (T11.setTop (mkF m 25 #[.val (.int p1)] [(.ref a_SEALTRAIL_KEY)])) t → Steps p.tables e below (s₁.setTop (entryFrame m #[(.int p1)] 1)) t := fun t k => pre9 t (by
          show Steps p.tables e below (s₁.setTop (mkF m 19 #[.val (.int p1)] [(.int (2 : Int32)), (.int p1)])) _
          refine XS.icmpNo X0.here hx rfl (hb hby d1_19) rfl (teq hc19_10).2 ?_
          show Steps p.tables e below (s₁.setTop (mkF m 22 #[.val (.int p1)] [])) _
          refine st11 _ ?_
          exact k)
        obtain ⟨fs, hr, hrun, hended, hW, hsame⟩ := X11.leave (v := some (.ref a_SEALTRAIL_KEY)) (fun h => by rw [Bd.returns] at h; cases h)
        refine ⟨_, _, pre12 _ ?_, hrun, hended, _, _, rfl, ?_, ⟨_, rfl⟩, hW, hsame.mono (by decide) (by decide)⟩
        · show Steps p.tables e below (T11.setTop (mkF m 25 #[.val (.int p1)] [(.ref a_SEALTRAIL_KEY)])) _
          exact retOut X11 hx Bd.returns rfl (Or.inr (Or.inr (Or.inr (Or.inr ⟨rfl, rfl, rfl⟩)))) (hb hby d1_25) hr
        · show Qv Z p1 res h0 n0 _ T11.heap _
          rw [e11]
          exact ⟨by rw [← hres]; simp [own_exp, hc1_2, hc10_6, hc19_10], N0, rfl⟩
      · have _ := 0
        have pre13 : ∀ t, Steps p.tables e below (s₁.setTop (mkF m 28 #[.val (.int p1)] [(.int (3 : Int32)), (.int p1)])) t → Steps p.tables e below (s₁.setTop (entryFrame m #[(.int p1)] 1)) t := fun t k => pre9 t (by
          show Steps p.tables e below (s₁.setTop (mkF m 19 #[.val (.int p1)] [(.int (2 : Int32)), (.int p1)])) _
          refine XS.icmpYes X0.here hx rfl (pc0 := 19) (pc' := 26) rfl (hb hby d1_19) rfl (feq hc19_10).2 (by decide) (by decide) ?_
          show Steps p.tables e below (s₁.setTop (mkF m 26 #[.val (.int p1)] [])) _
          refine XS.iloadN X0.here hx rfl (hb hby d1_26) rfl ?_
          show Steps p.tables e below (s₁.setTop (mkF m 27 #[.val (.int p1)] [(.int p1)])) _
          refine XT.iconstV X0.here hx rfl (3 : Int32) (hb hby d1_27) (by decide) ?_
          exact k)
        by_cases hc28_14 : p1 = (3 : Int32)
        · have _ := 0
          obtain ⟨T15, X15, e15, st15⟩ := getS2 X0 hx hZ hown (host := "") (Or.inl (hw _ (List.mem_of_getElem? (i := 26) rfl))) Via.refl e0 S_VIEWER_KEY (g := (mkF m 31 #[.val (.int p1)] [])) rfl (hb hby d1_31)
          have pre16 : ∀ t, Steps p.tables e below (T15.setTop (mkF m 34 #[.val (.int p1)] [(.ref a_VIEWER_KEY)])) t → Steps p.tables e below (s₁.setTop (entryFrame m #[(.int p1)] 1)) t := fun t k => pre13 t (by
            show Steps p.tables e below (s₁.setTop (mkF m 28 #[.val (.int p1)] [(.int (3 : Int32)), (.int p1)])) _
            refine XS.icmpNo X0.here hx rfl (hb hby d1_28) rfl (teq hc28_14).2 ?_
            show Steps p.tables e below (s₁.setTop (mkF m 31 #[.val (.int p1)] [])) _
            refine st15 _ ?_
            exact k)
          obtain ⟨fs, hr, hrun, hended, hW, hsame⟩ := X15.leave (v := some (.ref a_VIEWER_KEY)) (fun h => by rw [Bd.returns] at h; cases h)
          refine ⟨_, _, pre16 _ ?_, hrun, hended, _, _, rfl, ?_, ⟨_, rfl⟩, hW, hsame.mono (by decide) (by decide)⟩
          · show Steps p.tables e below (T15.setTop (mkF m 34 #[.val (.int p1)] [(.ref a_VIEWER_KEY)])) _
            exact retOut X15 hx Bd.returns rfl (Or.inr (Or.inr (Or.inr (Or.inr ⟨rfl, rfl, rfl⟩)))) (hb hby d1_34) hr
          · show Qv Z p1 res h0 n0 _ T15.heap _
            rw [e15]
            exact ⟨by rw [← hres]; simp [own_exp, hc1_2, hc10_6, hc19_10, hc28_14], N0, rfl⟩
        · have _ := 0
          have pre17 : ∀ t, Steps p.tables e below (s₁.setTop (mkF m 37 #[.val (.int p1)] [(.int (4 : Int32)), (.int p1)])) t → Steps p.tables e below (s₁.setTop (entryFrame m #[(.int p1)] 1)) t := fun t k => pre13 t (by
            show Steps p.tables e below (s₁.setTop (mkF m 28 #[.val (.int p1)] [(.int (3 : Int32)), (.int p1)])) _
            refine XS.icmpYes X0.here hx rfl (pc0 := 28) (pc' := 35) rfl (hb hby d1_28) rfl (feq hc28_14).2 (by decide) (by decide) ?_
            show Steps p.tables e below (s₁.setTop (mkF m 35 #[.val (.int p1)] [])) _
            refine XS.iloadN X0.here hx rfl (hb hby d1_35) rfl ?_
            show Steps p.tables e below (s₁.setTop (mkF m 36 #[.val (.int p1)] [(.int p1)])) _
            refine XT.iconstV X0.here hx rfl (4 : Int32) (hb hby d1_36) (by decide) ?_
            exact k)
          by_cases hc37_18 : p1 = (4 : Int32)
          · have _ := 0
            obtain ⟨T19, X19, e19, st19⟩ := getS2 X0 hx hZ hown (host := "") (Or.inl (hw _ (List.mem_of_getElem? (i := 28) rfl))) Via.refl e0 S_CLIENT_KEY (g := (mkF m 40 #[.val (.int p1)] [])) rfl (hb hby d1_40)
            have pre20 : ∀ t, Steps p.tables e below (T19.setTop (mkF m 43 #[.val (.int p1)] [(.ref a_CLIENT_KEY)])) t → Steps p.tables e below (s₁.setTop (entryFrame m #[(.int p1)] 1)) t := fun t k => pre17 t (by
              show Steps p.tables e below (s₁.setTop (mkF m 37 #[.val (.int p1)] [(.int (4 : Int32)), (.int p1)])) _
              refine XS.icmpNo X0.here hx rfl (hb hby d1_37) rfl (teq hc37_18).2 ?_
              show Steps p.tables e below (s₁.setTop (mkF m 40 #[.val (.int p1)] [])) _
              refine st19 _ ?_
              exact k)
            obtain ⟨fs, hr, hrun, hended, hW, hsame⟩ := X19.leave (v := some (.ref a_CLIENT_KEY)) (fun h => by rw [Bd.returns] at h; cases h)
            refine ⟨_, _, pre20 _ ?_, hrun, hended, _, _, rfl, ?_, ⟨_, rfl⟩, hW, hsame.mono (by decide) (by decide)⟩
            · show Steps p.tables e below (T19.setTop (mkF m 43 #[.val (.int p1)] [(.ref a_CLIENT_KEY)])) _
              exact retOut X19 hx Bd.returns rfl (Or.inr (Or.inr (Or.inr (Or.inr ⟨rfl, rfl, rfl⟩)))) (hb hby d1_43) hr
            · show Qv Z p1 res h0 n0 _ T19.heap _
              rw [e19]
              exact ⟨by rw [← hres]; simp [own_exp, hc1_2, hc10_6, hc19_10, hc28_14, hc37_18], N0, rfl⟩
          · have _ := 0
            have pre21 : ∀ t, Steps p.tables e below (s₁.setTop (mkF m 45 #[.val (.int p1)] [.null])) t → Steps p.tables e below (s₁.setTop (entryFrame m #[(.int p1)] 1)) t := fun t k => pre17 t (by
              show Steps p.tables e below (s₁.setTop (mkF m 37 #[.val (.int p1)] [(.int (4 : Int32)), (.int p1)])) _
              refine XS.icmpYes X0.here hx rfl (pc0 := 37) (pc' := 44) rfl (hb hby d1_37) rfl (feq hc37_18).2 (by decide) (by decide) ?_
              show Steps p.tables e below (s₁.setTop (mkF m 44 #[.val (.int p1)] [])) _
              refine XS.aconstNull X0.here hx rfl (hb hby d1_44) ?_
              exact k)
            obtain ⟨fs, hr, hrun, hended, hW, hsame⟩ := X0.leave (v := some .null) (fun h => by rw [Bd.returns] at h; cases h)
            refine ⟨_, _, pre21 _ ?_, hrun, hended, _, _, rfl, ?_, ⟨_, rfl⟩, hW, hsame.mono (by decide) (by decide)⟩
            · show Steps p.tables e below (s₁.setTop (mkF m 45 #[.val (.int p1)] [.null])) _
              exact retOut X0 hx Bd.returns rfl (Or.inr (Or.inr (Or.inr (Or.inr ⟨rfl, rfl, rfl⟩)))) (hb hby d1_45) hr
            · show Qv Z p1 res h0 n0 _ s₁.heap _
              rw [e0]
              exact ⟨by rw [← hres]; simp [own_exp, hc1_2, hc10_6, hc19_10, hc28_14, hc37_18], N0, rfl⟩
theorem own_six (p : Int32) : p = (0 : Int32) ∨ p = (1 : Int32) ∨ p = (2 : Int32) ∨ p = (3 : Int32) ∨ p = (4 : Int32) ∨ (¬ p = (0 : Int32) ∧ ¬ p = (1 : Int32) ∧ ¬ p = (2 : Int32) ∧ ¬ p = (3 : Int32) ∧ ¬ p = (4 : Int32) ∧ (p < (0 : Int32) ∨ ¬ p < (5 : Int32))) := by
  by_cases h1 : p < (0 : Int32)
  · refine Or.inr (Or.inr (Or.inr (Or.inr (Or.inr (⟨?_, ?_, ?_, ?_, ?_, Or.inl h1⟩)))))
    all_goals (intro h; subst h; revert h1; decide)
  · by_cases h2 : p < (5 : Int32)
    · rcases own_below h1 h2 with h | h | h | h | h
      · exact Or.inl h
      · exact Or.inr (Or.inl h)
      · exact Or.inr (Or.inr (Or.inl h))
      · exact Or.inr (Or.inr (Or.inr (Or.inl h)))
      · exact Or.inr (Or.inr (Or.inr (Or.inr (Or.inl h))))
    · refine Or.inr (Or.inr (Or.inr (Or.inr (Or.inr (⟨?_, ?_, ?_, ?_, ?_, Or.inr h2⟩)))))
      all_goals (intro h; subst h; revert h2; decide)
def Q0 (Z : State) (p1 p2 : Int32) (h0 : Heap) (n0 : Nat) (v : Option Value) (h : Heap) (L : List Loc) : Prop := v = some (.int 1) ∧ Fr n0 L
theorem pn_0 : plainName "com/example/sealtrail/sealtrail/EncryptionOfPinLaw" = true := by first | (simp [plainName, overriddenIn]; done) | decide +kernel
theorem ef_rm0 (m : MethodId) (x0 : Int32) (x1 : Int32) : entryFrame m #[(.int x0), (.int x1)] maxLocals = mkF m 0 #[.val (.int x0), .val (.int x1), .unset, .unset, .unset] [] := by first | (simp [entryFrame, mkF, argsToLocals, Value.category, maxLocals]; done) | rfl
set_option maxRecDepth 65536 in
set_option maxHeartbeats 40000000 in
theorem rm0 (l : Launch) (Z : State) (a0 : Array Value) (hw : ∀ d ∈ tables_1, d.before a0 Z = true) (ws : List Jvm.Cond) (p1 : Int32) (p2 : Int32) (h0 : Heap) (n0 : Nat) (Z0 : n0 ≤ h0.size) (a_NONE : Addr) (S_NONE : Sta Z h0 "com/example/sealtrail/sealtrail/Encryption" "NONE" "Lcom/example/sealtrail/sealtrail/Encryption;" (.ref a_NONE)) (a_VIEWER_KEY : Addr) (S_VIEWER_KEY : Sta Z h0 "com/example/sealtrail/sealtrail/Encryption" "VIEWER_KEY" "Lcom/example/sealtrail/sealtrail/Encryption;" (.ref a_VIEWER_KEY)) (a_CLIENT_KEY : Addr) (S_CLIENT_KEY : Sta Z h0 "com/example/sealtrail/sealtrail/Encryption" "CLIENT_KEY" "Lcom/example/sealtrail/sealtrail/Encryption;" (.ref a_CLIENT_KEY)) (a_SYMMETRIC : Addr) (S_SYMMETRIC : Sta Z h0 "com/example/sealtrail/sealtrail/Encryption" "SYMMETRIC" "Lcom/example/sealtrail/sealtrail/Encryption;" (.ref a_SYMMETRIC)) (a_SEALTRAIL_KEY : Addr) (S_SEALTRAIL_KEY : Sta Z h0 "com/example/sealtrail/sealtrail/Encryption" "SEALTRAIL_KEY" "Lcom/example/sealtrail/sealtrail/Encryption;" (.ref a_SEALTRAIL_KEY)) (E_NONE : Exa Z h0 a_NONE "com/example/sealtrail/sealtrail/Encryption") (E_VIEWER_KEY : Exa Z h0 a_VIEWER_KEY "com/example/sealtrail/sealtrail/Encryption") (E_CLIENT_KEY : Exa Z h0 a_CLIENT_KEY "com/example/sealtrail/sealtrail/Encryption") (E_SYMMETRIC : Exa Z h0 a_SYMMETRIC "com/example/sealtrail/sealtrail/Encryption") (E_SEALTRAIL_KEY : Exa Z h0 a_SEALTRAIL_KEY "com/example/sealtrail/sealtrail/Encryption") (F_NONE_ordinal : Fld Z h0 a_NONE "java/lang/Enum" "ordinal" "I" (.int (0 : Int32))) (F_VIEWER_KEY_ordinal : Fld Z h0 a_VIEWER_KEY "java/lang/Enum" "ordinal" "I" (.int (3 : Int32))) (F_CLIENT_KEY_ordinal : Fld Z h0 a_CLIENT_KEY "java/lang/Enum" "ordinal" "I" (.int (4 : Int32))) (F_SYMMETRIC_ordinal : Fld Z h0 a_SYMMETRIC "java/lang/Enum" "ordinal" "I" (.int (1 : Int32))) (F_SEALTRAIL_KEY_ordinal : Fld Z h0 a_SEALTRAIL_KEY "java/lang/Enum" "ordinal" "I" (.int (2 : Int32))) (aB : Addr) (S_BY : Sta Z h0 "com/example/sealtrail/sealtrail/Encryption" "BY_CODE" "[Lcom/example/sealtrail/sealtrail/Encryption;" (.ref aB)) (clB : Cell) (ArB : Arr Z h0 aB clB (.object "com/example/sealtrail/sealtrail/Encryption")) (SzB : clB.slots.size = (5 : Int32).toNatClampNeg) (el_0 : clB.slots[((0 : Int32)).toNatClampNeg]? = some (.ref a_NONE)) (el_1 : clB.slots[((1 : Int32)).toNatClampNeg]? = some (.ref a_SYMMETRIC)) (el_2 : clB.slots[((2 : Int32)).toNatClampNeg]? = some (.ref a_SEALTRAIL_KEY)) (el_3 : clB.slots[((3 : Int32)).toNatClampNeg]? = some (.ref a_VIEWER_KEY)) (el_4 : clB.slots[((4 : Int32)).toNatClampNeg]? = some (.ref a_CLIENT_KEY)) :
    MetFree l x (head1 (Jvm.Cond.code x code maxLocals ret :: ws) room_1) (fun a U => a = #[(.int p1), (.int p2)] ∧ Z.Warmed39 U.vm ∧ U.heap = h0) (fun _ _ _ _ _ => True) (fun _ U o U' => ∃ v L, o = .returned v ∧ Q0 Z p1 p2  h0 n0 v U'.heap L ∧ FrameEnd U o U' L 0 0) := by
  refine MetFree.of_bodySF (plainFor_of_name pn_0) hisR ?_
  intro p e s m args below meth c s₁ Bd hml0 hP hK
  obtain ⟨rfl, hZ, hh⟩ := hP
  have hx := Bd.exec
  have hby := Bd.bytes
  have hml : c.maxLocals = 5 := hml0
  have hown : s.vm.findClass "com/example/sealtrail/sealtrail/EncryptionOfPinLaw" = some m.cls := findClass_of_methodNamed Bd.named
  have hnm := (name_of_methodNamed Bd.named Bd.method).1
  have X0 : Stand p l e room_1 s m #[(.int p1), (.int p2)] below meth c s₁ [] 0 0 := Stand.of_body Bd
  have e0 : s₁.heap = h0 := by rw [← hh, Bd.state]; rfl
  have N0 := Fr.nil n0
  have pre0 : ∀ t, Steps p.tables e below (s₁.setTop (mkF m 0 #[.val (.int p1), .val (.int p2), .unset, .unset, .unset] [])) t → Steps p.tables e below (s₁.setTop (entryFrame m #[(.int p1), (.int p2)] maxLocals)) t := fun t k => castTop (ef_rm0 m p1 p2) k
  have pre1 : ∀ t, Steps p.tables e below (s₁.setTop (mkF m 3 #[.val (.int p1), .val (.int p2), .unset, .unset, .unset] [(.int (p2 &&& (1 : Int32)))])) t → Steps p.tables e below (s₁.setTop (entryFrame m #[(.int p1), (.int p2)] maxLocals)) t := fun t k => pre0 t (by
    show Steps p.tables e below (s₁.setTop (mkF m 0 #[.val (.int p1), .val (.int p2), .unset, .unset, .unset] [])) _
    refine XS.iloadN X0.here hx rfl (hb hby at_0) rfl ?_
    show Steps p.tables e below (s₁.setTop (mkF m 1 #[.val (.int p1), .val (.int p2), .unset, .unset, .unset] [(.int p2)])) _
    refine XT.iconstV X0.here hx rfl (1 : Int32) (hb hby at_1) (by decide) ?_
    show Steps p.tables e below (s₁.setTop (mkF m 2 #[.val (.int p1), .val (.int p2), .unset, .unset, .unset] [(.int (1 : Int32)), (.int p2)])) _
    refine XS.iand X0.here hx rfl (hb hby at_2) rfl ?_
    exact k)
  by_cases hc3_2 : (p2 &&& (1 : Int32)) = (0 : Int32)
  · have _ := 0
    have pre3 : ∀ t, Steps p.tables e below (s₁.setTop (mkF m 16 #[.val (.int p1), .val (.int p2), .unset, .unset, .unset] [(.int ((p1 &&& (7 : Int32)) - (1 : Int32)))])) t → Steps p.tables e below (s₁.setTop (entryFrame m #[(.int p1), (.int p2)] maxLocals)) t := fun t k => pre1 t (by
      show Steps p.tables e below (s₁.setTop (mkF m 3 #[.val (.int p1), .val (.int p2), .unset, .unset, .unset] [(.int (p2 &&& (1 : Int32)))])) _
      refine XS.ifYes X0.here hx rfl (pc0 := 3) (pc' := 10) rfl (hb hby at_3) rfl ((if0 _ _).trans (teq hc3_2).1) (by decide) (by decide) ?_
      show Steps p.tables e below (s₁.setTop (mkF m 10 #[.val (.int p1), .val (.int p2), .unset, .unset, .unset] [])) _
      refine XS.iloadN X0.here hx rfl (hb hby at_10) rfl ?_
      show Steps p.tables e below (s₁.setTop (mkF m 11 #[.val (.int p1), .val (.int p2), .unset, .unset, .unset] [(.int p1)])) _
      refine XT.bipushV X0.here hx rfl (7 : Int32) (hb hby at_11) (by decide) ?_
      show Steps p.tables e below (s₁.setTop (mkF m 13 #[.val (.int p1), .val (.int p2), .unset, .unset, .unset] [(.int (7 : Int32)), (.int p1)])) _
      refine XS.iand X0.here hx rfl (hb hby at_13) rfl ?_
      show Steps p.tables e below (s₁.setTop (mkF m 14 #[.val (.int p1), .val (.int p2), .unset, .unset, .unset] [(.int (p1 &&& (7 : Int32)))])) _
      refine XT.iconstV X0.here hx rfl (1 : Int32) (hb hby at_14) (by decide) ?_
      show Steps p.tables e below (s₁.setTop (mkF m 15 #[.val (.int p1), .val (.int p2), .unset, .unset, .unset] [(.int (1 : Int32)), (.int (p1 &&& (7 : Int32)))])) _
      refine XS.isub X0.here hx rfl (hb hby at_15) rfl ?_
      exact k)
    rcases own_six ((p1 &&& (7 : Int32)) - (1 : Int32)) with hk | hk | hk | hk | hk | ⟨x0, x1, x2, x3, x4, hc⟩
    · have _ := 0
      obtain ⟨_, _, ⟨T4, L4, k4, n4⟩, -, X4, ⟨Lc4, hQ4, l4, y4, z4⟩, st4⟩ := Jvm.LawKit.callS X0 hx (y := (⟨"com/example/sealtrail/sealtrail/EncryptionOfPinLaw", "expectedFor", "(I)Lcom/example/sealtrail/sealtrail/Encryption;"⟩ : MethodName)) hown (mvT hZ (hw _ (List.mem_of_getElem? (i := 0) rfl))) (mvT hZ (hw _ (List.mem_of_getElem? (i := 1) rfl))) (mvT hZ (hw _ (List.mem_of_getElem? (i := 2) rfl))) (mvT hZ (hw _ (List.mem_of_getElem? (i := 3) rfl))) (by decide) (backOf (W := 0) (rm_exp l Z a0 hw [] (0 : Int32) h0 n0 Z0 a_NONE S_NONE a_SYMMETRIC S_SYMMETRIC a_SEALTRAIL_KEY S_SEALTRAIL_KEY a_VIEWER_KEY S_VIEWER_KEY a_CLIENT_KEY S_CLIENT_KEY (.ref a_NONE) (by first | rfl | simp [own_exp])) hZ (hw _ (List.mem_of_getElem? (i := 3) rfl)) (hw _ (List.mem_of_getElem? (i := 2) rfl)) (by decide) (by decide)) (g := (mkF m 18 #[.val (.int p1), .val (.int p2), .val (.int (0 : Int32)), .unset, .unset] [(.int (0 : Int32))])) rfl (by rw [hml]; rfl) (argsL := [(.int (0 : Int32))]) (rest := []) (lenOf pd_1 rfl) rfl (by show 2 * 0 + _ ≤ _; exact Nat.le_of_eq rfl) (hb hby at_18) (fun _ _ => ⟨rfl, e0, (by decide : 0 + 0 ≤ _), (by decide : 0 + 0 ≤ _)⟩)
      dsimp only [Pt.U, Pt.locs, Pt.cells, Pt.slots] at X4 l4 y4 z4 st4 hQ4
      subst l4 y4 z4
      obtain ⟨rfl, N4q, e4⟩ := hQ4
      have N4 := Fr.app N0 N4q
      obtain ⟨_, _, ⟨T5, L5, k5, n5⟩, -, X5, ⟨Lc5, hQ5, l5, y5, z5⟩, st5⟩ := Jvm.LawKit.callS X4 hx (y := (⟨"com/example/sealtrail/sealtrail/Encryption", "of", "(I)Lcom/example/sealtrail/sealtrail/Encryption;"⟩ : MethodName)) hown (mvT hZ (hw _ (List.mem_of_getElem? (i := 7) rfl))) (mvT hZ (hw _ (List.mem_of_getElem? (i := 8) rfl))) (mvT hZ (hw _ (List.mem_of_getElem? (i := 5) rfl))) (mvT hZ (hw _ (List.mem_of_getElem? (i := 9) rfl))) (by decide) (backOf (W := 0) (rm_of_ref l Z a0 hw [] (0 : Int32) h0 n0 Z0 aB S_BY clB ArB SzB (by decide) (by decide) a_NONE el_0) hZ (hw _ (List.mem_of_getElem? (i := 9) rfl)) (hw _ (List.mem_of_getElem? (i := 5) rfl)) (by decide) (by decide)) (g := (mkF m 23 #[.val (.int p1), .val (.int p2), .val (.int (0 : Int32)), .val (.ref a_NONE), .unset] [(.int (0 : Int32))])) rfl (by rw [hml]; rfl) (argsL := [(.int (0 : Int32))]) (rest := []) (lenOf pd_1 rfl) rfl (by show 2 * 0 + _ ≤ _; exact Nat.le_of_eq rfl) (hb hby at_23) (fun _ _ => ⟨rfl, e4, (by decide : 0 + 0 ≤ _), (by decide : 0 + 0 ≤ _)⟩)
      dsimp only [Pt.U, Pt.locs, Pt.cells, Pt.slots] at X5 l5 y5 z5 st5 hQ5
      subst l5 y5 z5
      obtain ⟨rfl, N5q, e5⟩ := hQ5
      have N5 := Fr.app N4 N5q
      obtain ⟨cq6, kq6, q6a, q6b, q6c⟩ := isOf hZ e5 E_NONE
      obtain ⟨_, _, ⟨T6, L6, k6, n6⟩, -, X6, ⟨Lc6, hQ6, l6, y6, z6⟩, st6⟩ := X5.virtualBack hx (y := (⟨"com/example/sealtrail/sealtrail/Encryption", "code", "()I"⟩ : MethodName)) (z := (⟨"com/example/sealtrail/sealtrail/Encryption", "code", "()I"⟩ : MethodName)) hown (mvT hZ (hw _ (List.mem_of_getElem? (i := 12) rfl))) (mvT hZ (hw _ (List.mem_of_getElem? (i := 13) rfl))) (notFace_of_selects (args := #[]) (mvT hZ (hw _ (List.mem_of_getElem? (i := 15) rfl)))) (mvT hZ (hw _ (List.mem_of_getElem? (i := 15) rfl))) (mvT hZ (hw _ (List.mem_of_getElem? (i := 14) rfl))) (by decide) (backOf (W := 0) (rm_code l Z a0 hw [] a_NONE h0 n0 Z0 (0 : Int32) F_NONE_ordinal E_NONE) hZ (hw _ (List.mem_of_getElem? (i := 16) rfl)) (hw _ (List.mem_of_getElem? (i := 5) rfl)) (by decide) (by decide)) q6a q6c (g := (mkF m 43 #[.val (.int p1), .val (.int p2), .val (.int (0 : Int32)), .val (.ref a_NONE), .val (.ref a_NONE)] [(.ref a_NONE)])) rfl (by rw [hml]; rfl) (Steps.refl _) (argsL := []) (rest := []) (lenOf pd_0 rfl) rfl (by show 2 * 0 + _ ≤ _; exact Nat.le_of_eq rfl) (hb hby at_43) (fun _ _ => ⟨rfl, e5, (by decide : 0 + 0 ≤ _), (by decide : 0 + 0 ≤ _)⟩)
      dsimp only [Pt.U, Pt.locs, Pt.cells, Pt.slots] at X6 l6 y6 z6 st6 hQ6
      subst l6 y6 z6
      obtain ⟨rfl, N6q, e6⟩ := hQ6
      have N6 := Fr.app N5 N6q
      have pre7 : ∀ t, Steps p.tables e below (T6.setTop (mkF m 53 #[.val (.int p1), .val (.int p2), .val (.int (0 : Int32)), .val (.ref a_NONE), .val (.ref a_NONE)] [(.int (1 : Int32))])) t → Steps p.tables e below (s₁.setTop (entryFrame m #[(.int p1), (.int p2)] maxLocals)) t := fun t k => pre3 t (by
        show Steps p.tables e below (s₁.setTop (mkF m 16 #[.val (.int p1), .val (.int p2), .unset, .unset, .unset] [(.int ((p1 &&& (7 : Int32)) - (1 : Int32)))])) _
        refine castTop (g' := (mkF m 16 #[.val (.int p1), .val (.int p2), .unset, .unset, .unset] [(.int (0 : Int32))])) (by rw [hk]) ?_
        show Steps p.tables e below (s₁.setTop (mkF m 16 #[.val (.int p1), .val (.int p2), .unset, .unset, .unset] [(.int (0 : Int32))])) _
        refine XS.istoreN X0.here hx rfl (hb hby at_16) rfl (l' := #[.val (.int p1), .val (.int p2), .val (.int (0 : Int32)), .unset, .unset]) rfl ?_
        show Steps p.tables e below (s₁.setTop (mkF m 17 #[.val (.int p1), .val (.int p2), .val (.int (0 : Int32)), .unset, .unset] [])) _
        refine XS.iloadN X0.here hx rfl (hb hby at_17) rfl ?_
        show Steps p.tables e below (s₁.setTop (mkF m 18 #[.val (.int p1), .val (.int p2), .val (.int (0 : Int32)), .unset, .unset] [(.int (0 : Int32))])) _
        refine st4 _ ?_
        show Steps p.tables e below (T4.setTop (mkF m 21 #[.val (.int p1), .val (.int p2), .val (.int (0 : Int32)), .unset, .unset] [(.ref a_NONE)])) _
        refine XS.astoreN X4.here hx rfl (hb hby at_21) rfl rfl (l' := #[.val (.int p1), .val (.int p2), .val (.int (0 : Int32)), .val (.ref a_NONE), .unset]) rfl ?_
        show Steps p.tables e below (T4.setTop (mkF m 22 #[.val (.int p1), .val (.int p2), .val (.int (0 : Int32)), .val (.ref a_NONE), .unset] [])) _
        refine XS.iloadN X4.here hx rfl (hb hby at_22) rfl ?_
        show Steps p.tables e below (T4.setTop (mkF m 23 #[.val (.int p1), .val (.int p2), .val (.int (0 : Int32)), .val (.ref a_NONE), .unset] [(.int (0 : Int32))])) _
        refine st5 _ ?_
        show Steps p.tables e below (T5.setTop (mkF m 26 #[.val (.int p1), .val (.int p2), .val (.int (0 : Int32)), .val (.ref a_NONE), .unset] [(.ref a_NONE)])) _
        refine XS.astore X5.here hx rfl (hb hby at_26) rfl rfl (l' := #[.val (.int p1), .val (.int p2), .val (.int (0 : Int32)), .val (.ref a_NONE), .val (.ref a_NONE)]) rfl ?_
        show Steps p.tables e below (T5.setTop (mkF m 28 #[.val (.int p1), .val (.int p2), .val (.int (0 : Int32)), .val (.ref a_NONE), .val (.ref a_NONE)] [])) _
        refine XS.aload X5.here hx rfl (hb hby at_28) rfl rfl ?_
        show Steps p.tables e below (T5.setTop (mkF m 30 #[.val (.int p1), .val (.int p2), .val (.int (0 : Int32)), .val (.ref a_NONE), .val (.ref a_NONE)] [(.ref a_NONE)])) _
        refine XS.aloadN X5.here hx rfl (hb hby at_30) rfl rfl ?_
        show Steps p.tables e below (T5.setTop (mkF m 31 #[.val (.int p1), .val (.int p2), .val (.int (0 : Int32)), .val (.ref a_NONE), .val (.ref a_NONE)] [(.ref a_NONE), (.ref a_NONE)])) _
        refine Jvm.RoadKit.acmp (g := (mkF m 31 #[.val (.int p1), .val (.int p2), .val (.int (0 : Int32)), .val (.ref a_NONE), .val (.ref a_NONE)] [(.ref a_NONE), (.ref a_NONE)])) X5 hx rfl rfl rfl (pc0 := 31) (pc' := 36) (same := true) rfl (hb hby at_31) rfl (decide_eq_true rfl) (by decide) (by decide) ?_
        show Steps p.tables e below (T5.setTop (mkF m 36 #[.val (.int p1), .val (.int p2), .val (.int (0 : Int32)), .val (.ref a_NONE), .val (.ref a_NONE)] [])) _
        refine XS.aload X5.here hx rfl (hb hby at_36) rfl rfl ?_
        show Steps p.tables e below (T5.setTop (mkF m 38 #[.val (.int p1), .val (.int p2), .val (.int (0 : Int32)), .val (.ref a_NONE), .val (.ref a_NONE)] [(.ref a_NONE)])) _
        refine XS.ifnullNo X5.here hx rfl (hb hby at_38) rfl ?_
        show Steps p.tables e below (T5.setTop (mkF m 41 #[.val (.int p1), .val (.int p2), .val (.int (0 : Int32)), .val (.ref a_NONE), .val (.ref a_NONE)] [])) _
        refine XS.aload X5.here hx rfl (hb hby at_41) rfl rfl ?_
        show Steps p.tables e below (T5.setTop (mkF m 43 #[.val (.int p1), .val (.int p2), .val (.int (0 : Int32)), .val (.ref a_NONE), .val (.ref a_NONE)] [(.ref a_NONE)])) _
        refine st6.trans ?_
        show Steps p.tables e below (T6.setTop (mkF m 46 #[.val (.int p1), .val (.int p2), .val (.int (0 : Int32)), .val (.ref a_NONE), .val (.ref a_NONE)] [(.int (0 : Int32))])) _
        refine XS.iloadN X6.here hx rfl (hb hby at_46) rfl ?_
        show Steps p.tables e below (T6.setTop (mkF m 47 #[.val (.int p1), .val (.int p2), .val (.int (0 : Int32)), .val (.ref a_NONE), .val (.ref a_NONE)] [(.int (0 : Int32)), (.int (0 : Int32))])) _
        refine XS.icmpYes X6.here hx rfl (pc0 := 47) (pc' := 52) rfl (hb hby at_47) rfl (teq (by decide : ((0 : Int32) = (0 : Int32)))).1 (by decide) (by decide) ?_
        show Steps p.tables e below (T6.setTop (mkF m 52 #[.val (.int p1), .val (.int p2), .val (.int (0 : Int32)), .val (.ref a_NONE), .val (.ref a_NONE)] [])) _
        refine XT.iconstV X6.here hx rfl (1 : Int32) (hb hby at_52) (by decide) ?_
        exact k)
      obtain ⟨fs, hr, hrun, hended, hW, hsame⟩ := X6.leave (v := some (.int (1 : Int32))) (fun h => by rw [Bd.returns] at h; cases h)
      refine ⟨_, _, pre7 _ ?_, hrun, hended, _, _, rfl, ?_, ⟨_, rfl⟩, hW, hsame.mono (by decide) (by decide)⟩
      · show Steps p.tables e below (T6.setTop (mkF m 53 #[.val (.int p1), .val (.int p2), .val (.int (0 : Int32)), .val (.ref a_NONE), .val (.ref a_NONE)] [(.int (1 : Int32))])) _
        exact retOut X6 hx Bd.returns rfl (Or.inl ⟨rfl, by simp, _, rfl⟩) (hb hby at_53) hr
      · show Q0 Z p1 p2  h0 n0 _ T6.heap _
        rw [e6]
        exact ⟨rfl, N6⟩
    · have _ := 0
      obtain ⟨_, _, ⟨T8, L8, k8, n8⟩, -, X8, ⟨Lc8, hQ8, l8, y8, z8⟩, st8⟩ := Jvm.LawKit.callS X0 hx (y := (⟨"com/example/sealtrail/sealtrail/EncryptionOfPinLaw", "expectedFor", "(I)Lcom/example/sealtrail/sealtrail/Encryption;"⟩ : MethodName)) hown (mvT hZ (hw _ (List.mem_of_getElem? (i := 0) rfl))) (mvT hZ (hw _ (List.mem_of_getElem? (i := 1) rfl))) (mvT hZ (hw _ (List.mem_of_getElem? (i := 2) rfl))) (mvT hZ (hw _ (List.mem_of_getElem? (i := 3) rfl))) (by decide) (backOf (W := 0) (rm_exp l Z a0 hw [] (1 : Int32) h0 n0 Z0 a_NONE S_NONE a_SYMMETRIC S_SYMMETRIC a_SEALTRAIL_KEY S_SEALTRAIL_KEY a_VIEWER_KEY S_VIEWER_KEY a_CLIENT_KEY S_CLIENT_KEY (.ref a_SYMMETRIC) (by first | rfl | simp [own_exp])) hZ (hw _ (List.mem_of_getElem? (i := 3) rfl)) (hw _ (List.mem_of_getElem? (i := 2) rfl)) (by decide) (by decide)) (g := (mkF m 18 #[.val (.int p1), .val (.int p2), .val (.int (1 : Int32)), .unset, .unset] [(.int (1 : Int32))])) rfl (by rw [hml]; rfl) (argsL := [(.int (1 : Int32))]) (rest := []) (lenOf pd_1 rfl) rfl (by show 2 * 0 + _ ≤ _; exact Nat.le_of_eq rfl) (hb hby at_18) (fun _ _ => ⟨rfl, e0, (by decide : 0 + 0 ≤ _), (by decide : 0 + 0 ≤ _)⟩)
      dsimp only [Pt.U, Pt.locs, Pt.cells, Pt.slots] at X8 l8 y8 z8 st8 hQ8
      subst l8 y8 z8
      obtain ⟨rfl, N8q, e8⟩ := hQ8
      have N8 := Fr.app N0 N8q
      obtain ⟨_, _, ⟨T9, L9, k9, n9⟩, -, X9, ⟨Lc9, hQ9, l9, y9, z9⟩, st9⟩ := Jvm.LawKit.callS X8 hx (y := (⟨"com/example/sealtrail/sealtrail/Encryption", "of", "(I)Lcom/example/sealtrail/sealtrail/Encryption;"⟩ : MethodName)) hown (mvT hZ (hw _ (List.mem_of_getElem? (i := 7) rfl))) (mvT hZ (hw _ (List.mem_of_getElem? (i := 8) rfl))) (mvT hZ (hw _ (List.mem_of_getElem? (i := 5) rfl))) (mvT hZ (hw _ (List.mem_of_getElem? (i := 9) rfl))) (by decide) (backOf (W := 0) (rm_of_ref l Z a0 hw [] (1 : Int32) h0 n0 Z0 aB S_BY clB ArB SzB (by decide) (by decide) a_SYMMETRIC el_1) hZ (hw _ (List.mem_of_getElem? (i := 9) rfl)) (hw _ (List.mem_of_getElem? (i := 5) rfl)) (by decide) (by decide)) (g := (mkF m 23 #[.val (.int p1), .val (.int p2), .val (.int (1 : Int32)), .val (.ref a_SYMMETRIC), .unset] [(.int (1 : Int32))])) rfl (by rw [hml]; rfl) (argsL := [(.int (1 : Int32))]) (rest := []) (lenOf pd_1 rfl) rfl (by show 2 * 0 + _ ≤ _; exact Nat.le_of_eq rfl) (hb hby at_23) (fun _ _ => ⟨rfl, e8, (by decide : 0 + 0 ≤ _), (by decide : 0 + 0 ≤ _)⟩)
      dsimp only [Pt.U, Pt.locs, Pt.cells, Pt.slots] at X9 l9 y9 z9 st9 hQ9
      subst l9 y9 z9
      obtain ⟨rfl, N9q, e9⟩ := hQ9
      have N9 := Fr.app N8 N9q
      obtain ⟨cq10, kq10, q10a, q10b, q10c⟩ := isOf hZ e9 E_SYMMETRIC
      obtain ⟨_, _, ⟨T10, L10, k10, n10⟩, -, X10, ⟨Lc10, hQ10, l10, y10, z10⟩, st10⟩ := X9.virtualBack hx (y := (⟨"com/example/sealtrail/sealtrail/Encryption", "code", "()I"⟩ : MethodName)) (z := (⟨"com/example/sealtrail/sealtrail/Encryption", "code", "()I"⟩ : MethodName)) hown (mvT hZ (hw _ (List.mem_of_getElem? (i := 12) rfl))) (mvT hZ (hw _ (List.mem_of_getElem? (i := 13) rfl))) (notFace_of_selects (args := #[]) (mvT hZ (hw _ (List.mem_of_getElem? (i := 15) rfl)))) (mvT hZ (hw _ (List.mem_of_getElem? (i := 15) rfl))) (mvT hZ (hw _ (List.mem_of_getElem? (i := 14) rfl))) (by decide) (backOf (W := 0) (rm_code l Z a0 hw [] a_SYMMETRIC h0 n0 Z0 (1 : Int32) F_SYMMETRIC_ordinal E_SYMMETRIC) hZ (hw _ (List.mem_of_getElem? (i := 16) rfl)) (hw _ (List.mem_of_getElem? (i := 5) rfl)) (by decide) (by decide)) q10a q10c (g := (mkF m 43 #[.val (.int p1), .val (.int p2), .val (.int (1 : Int32)), .val (.ref a_SYMMETRIC), .val (.ref a_SYMMETRIC)] [(.ref a_SYMMETRIC)])) rfl (by rw [hml]; rfl) (Steps.refl _) (argsL := []) (rest := []) (lenOf pd_0 rfl) rfl (by show 2 * 0 + _ ≤ _; exact Nat.le_of_eq rfl) (hb hby at_43) (fun _ _ => ⟨rfl, e9, (by decide : 0 + 0 ≤ _), (by decide : 0 + 0 ≤ _)⟩)
      dsimp only [Pt.U, Pt.locs, Pt.cells, Pt.slots] at X10 l10 y10 z10 st10 hQ10
      subst l10 y10 z10
      obtain ⟨rfl, N10q, e10⟩ := hQ10
      have N10 := Fr.app N9 N10q
      have pre11 : ∀ t, Steps p.tables e below (T10.setTop (mkF m 53 #[.val (.int p1), .val (.int p2), .val (.int (1 : Int32)), .val (.ref a_SYMMETRIC), .val (.ref a_SYMMETRIC)] [(.int (1 : Int32))])) t → Steps p.tables e below (s₁.setTop (entryFrame m #[(.int p1), (.int p2)] maxLocals)) t := fun t k => pre3 t (by
        show Steps p.tables e below (s₁.setTop (mkF m 16 #[.val (.int p1), .val (.int p2), .unset, .unset, .unset] [(.int ((p1 &&& (7 : Int32)) - (1 : Int32)))])) _
        refine castTop (g' := (mkF m 16 #[.val (.int p1), .val (.int p2), .unset, .unset, .unset] [(.int (1 : Int32))])) (by rw [hk]) ?_
        show Steps p.tables e below (s₁.setTop (mkF m 16 #[.val (.int p1), .val (.int p2), .unset, .unset, .unset] [(.int (1 : Int32))])) _
        refine XS.istoreN X0.here hx rfl (hb hby at_16) rfl (l' := #[.val (.int p1), .val (.int p2), .val (.int (1 : Int32)), .unset, .unset]) rfl ?_
        show Steps p.tables e below (s₁.setTop (mkF m 17 #[.val (.int p1), .val (.int p2), .val (.int (1 : Int32)), .unset, .unset] [])) _
        refine XS.iloadN X0.here hx rfl (hb hby at_17) rfl ?_
        show Steps p.tables e below (s₁.setTop (mkF m 18 #[.val (.int p1), .val (.int p2), .val (.int (1 : Int32)), .unset, .unset] [(.int (1 : Int32))])) _
        refine st8 _ ?_
        show Steps p.tables e below (T8.setTop (mkF m 21 #[.val (.int p1), .val (.int p2), .val (.int (1 : Int32)), .unset, .unset] [(.ref a_SYMMETRIC)])) _
        refine XS.astoreN X8.here hx rfl (hb hby at_21) rfl rfl (l' := #[.val (.int p1), .val (.int p2), .val (.int (1 : Int32)), .val (.ref a_SYMMETRIC), .unset]) rfl ?_
        show Steps p.tables e below (T8.setTop (mkF m 22 #[.val (.int p1), .val (.int p2), .val (.int (1 : Int32)), .val (.ref a_SYMMETRIC), .unset] [])) _
        refine XS.iloadN X8.here hx rfl (hb hby at_22) rfl ?_
        show Steps p.tables e below (T8.setTop (mkF m 23 #[.val (.int p1), .val (.int p2), .val (.int (1 : Int32)), .val (.ref a_SYMMETRIC), .unset] [(.int (1 : Int32))])) _
        refine st9 _ ?_
        show Steps p.tables e below (T9.setTop (mkF m 26 #[.val (.int p1), .val (.int p2), .val (.int (1 : Int32)), .val (.ref a_SYMMETRIC), .unset] [(.ref a_SYMMETRIC)])) _
        refine XS.astore X9.here hx rfl (hb hby at_26) rfl rfl (l' := #[.val (.int p1), .val (.int p2), .val (.int (1 : Int32)), .val (.ref a_SYMMETRIC), .val (.ref a_SYMMETRIC)]) rfl ?_
        show Steps p.tables e below (T9.setTop (mkF m 28 #[.val (.int p1), .val (.int p2), .val (.int (1 : Int32)), .val (.ref a_SYMMETRIC), .val (.ref a_SYMMETRIC)] [])) _
        refine XS.aload X9.here hx rfl (hb hby at_28) rfl rfl ?_
        show Steps p.tables e below (T9.setTop (mkF m 30 #[.val (.int p1), .val (.int p2), .val (.int (1 : Int32)), .val (.ref a_SYMMETRIC), .val (.ref a_SYMMETRIC)] [(.ref a_SYMMETRIC)])) _
        refine XS.aloadN X9.here hx rfl (hb hby at_30) rfl rfl ?_
        show Steps p.tables e below (T9.setTop (mkF m 31 #[.val (.int p1), .val (.int p2), .val (.int (1 : Int32)), .val (.ref a_SYMMETRIC), .val (.ref a_SYMMETRIC)] [(.ref a_SYMMETRIC), (.ref a_SYMMETRIC)])) _
        refine Jvm.RoadKit.acmp (g := (mkF m 31 #[.val (.int p1), .val (.int p2), .val (.int (1 : Int32)), .val (.ref a_SYMMETRIC), .val (.ref a_SYMMETRIC)] [(.ref a_SYMMETRIC), (.ref a_SYMMETRIC)])) X9 hx rfl rfl rfl (pc0 := 31) (pc' := 36) (same := true) rfl (hb hby at_31) rfl (decide_eq_true rfl) (by decide) (by decide) ?_
        show Steps p.tables e below (T9.setTop (mkF m 36 #[.val (.int p1), .val (.int p2), .val (.int (1 : Int32)), .val (.ref a_SYMMETRIC), .val (.ref a_SYMMETRIC)] [])) _
        refine XS.aload X9.here hx rfl (hb hby at_36) rfl rfl ?_
        show Steps p.tables e below (T9.setTop (mkF m 38 #[.val (.int p1), .val (.int p2), .val (.int (1 : Int32)), .val (.ref a_SYMMETRIC), .val (.ref a_SYMMETRIC)] [(.ref a_SYMMETRIC)])) _
        refine XS.ifnullNo X9.here hx rfl (hb hby at_38) rfl ?_
        show Steps p.tables e below (T9.setTop (mkF m 41 #[.val (.int p1), .val (.int p2), .val (.int (1 : Int32)), .val (.ref a_SYMMETRIC), .val (.ref a_SYMMETRIC)] [])) _
        refine XS.aload X9.here hx rfl (hb hby at_41) rfl rfl ?_
        show Steps p.tables e below (T9.setTop (mkF m 43 #[.val (.int p1), .val (.int p2), .val (.int (1 : Int32)), .val (.ref a_SYMMETRIC), .val (.ref a_SYMMETRIC)] [(.ref a_SYMMETRIC)])) _
        refine st10.trans ?_
        show Steps p.tables e below (T10.setTop (mkF m 46 #[.val (.int p1), .val (.int p2), .val (.int (1 : Int32)), .val (.ref a_SYMMETRIC), .val (.ref a_SYMMETRIC)] [(.int (1 : Int32))])) _
        refine XS.iloadN X10.here hx rfl (hb hby at_46) rfl ?_
        show Steps p.tables e below (T10.setTop (mkF m 47 #[.val (.int p1), .val (.int p2), .val (.int (1 : Int32)), .val (.ref a_SYMMETRIC), .val (.ref a_SYMMETRIC)] [(.int (1 : Int32)), (.int (1 : Int32))])) _
        refine XS.icmpYes X10.here hx rfl (pc0 := 47) (pc' := 52) rfl (hb hby at_47) rfl (teq (by decide : ((1 : Int32) = (1 : Int32)))).1 (by decide) (by decide) ?_
        show Steps p.tables e below (T10.setTop (mkF m 52 #[.val (.int p1), .val (.int p2), .val (.int (1 : Int32)), .val (.ref a_SYMMETRIC), .val (.ref a_SYMMETRIC)] [])) _
        refine XT.iconstV X10.here hx rfl (1 : Int32) (hb hby at_52) (by decide) ?_
        exact k)
      obtain ⟨fs, hr, hrun, hended, hW, hsame⟩ := X10.leave (v := some (.int (1 : Int32))) (fun h => by rw [Bd.returns] at h; cases h)
      refine ⟨_, _, pre11 _ ?_, hrun, hended, _, _, rfl, ?_, ⟨_, rfl⟩, hW, hsame.mono (by decide) (by decide)⟩
      · show Steps p.tables e below (T10.setTop (mkF m 53 #[.val (.int p1), .val (.int p2), .val (.int (1 : Int32)), .val (.ref a_SYMMETRIC), .val (.ref a_SYMMETRIC)] [(.int (1 : Int32))])) _
        exact retOut X10 hx Bd.returns rfl (Or.inl ⟨rfl, by simp, _, rfl⟩) (hb hby at_53) hr
      · show Q0 Z p1 p2  h0 n0 _ T10.heap _
        rw [e10]
        exact ⟨rfl, N10⟩
    · have _ := 0
      obtain ⟨_, _, ⟨T12, L12, k12, n12⟩, -, X12, ⟨Lc12, hQ12, l12, y12, z12⟩, st12⟩ := Jvm.LawKit.callS X0 hx (y := (⟨"com/example/sealtrail/sealtrail/EncryptionOfPinLaw", "expectedFor", "(I)Lcom/example/sealtrail/sealtrail/Encryption;"⟩ : MethodName)) hown (mvT hZ (hw _ (List.mem_of_getElem? (i := 0) rfl))) (mvT hZ (hw _ (List.mem_of_getElem? (i := 1) rfl))) (mvT hZ (hw _ (List.mem_of_getElem? (i := 2) rfl))) (mvT hZ (hw _ (List.mem_of_getElem? (i := 3) rfl))) (by decide) (backOf (W := 0) (rm_exp l Z a0 hw [] (2 : Int32) h0 n0 Z0 a_NONE S_NONE a_SYMMETRIC S_SYMMETRIC a_SEALTRAIL_KEY S_SEALTRAIL_KEY a_VIEWER_KEY S_VIEWER_KEY a_CLIENT_KEY S_CLIENT_KEY (.ref a_SEALTRAIL_KEY) (by first | rfl | simp [own_exp])) hZ (hw _ (List.mem_of_getElem? (i := 3) rfl)) (hw _ (List.mem_of_getElem? (i := 2) rfl)) (by decide) (by decide)) (g := (mkF m 18 #[.val (.int p1), .val (.int p2), .val (.int (2 : Int32)), .unset, .unset] [(.int (2 : Int32))])) rfl (by rw [hml]; rfl) (argsL := [(.int (2 : Int32))]) (rest := []) (lenOf pd_1 rfl) rfl (by show 2 * 0 + _ ≤ _; exact Nat.le_of_eq rfl) (hb hby at_18) (fun _ _ => ⟨rfl, e0, (by decide : 0 + 0 ≤ _), (by decide : 0 + 0 ≤ _)⟩)
      dsimp only [Pt.U, Pt.locs, Pt.cells, Pt.slots] at X12 l12 y12 z12 st12 hQ12
      subst l12 y12 z12
      obtain ⟨rfl, N12q, e12⟩ := hQ12
      have N12 := Fr.app N0 N12q
      obtain ⟨_, _, ⟨T13, L13, k13, n13⟩, -, X13, ⟨Lc13, hQ13, l13, y13, z13⟩, st13⟩ := Jvm.LawKit.callS X12 hx (y := (⟨"com/example/sealtrail/sealtrail/Encryption", "of", "(I)Lcom/example/sealtrail/sealtrail/Encryption;"⟩ : MethodName)) hown (mvT hZ (hw _ (List.mem_of_getElem? (i := 7) rfl))) (mvT hZ (hw _ (List.mem_of_getElem? (i := 8) rfl))) (mvT hZ (hw _ (List.mem_of_getElem? (i := 5) rfl))) (mvT hZ (hw _ (List.mem_of_getElem? (i := 9) rfl))) (by decide) (backOf (W := 0) (rm_of_ref l Z a0 hw [] (2 : Int32) h0 n0 Z0 aB S_BY clB ArB SzB (by decide) (by decide) a_SEALTRAIL_KEY el_2) hZ (hw _ (List.mem_of_getElem? (i := 9) rfl)) (hw _ (List.mem_of_getElem? (i := 5) rfl)) (by decide) (by decide)) (g := (mkF m 23 #[.val (.int p1), .val (.int p2), .val (.int (2 : Int32)), .val (.ref a_SEALTRAIL_KEY), .unset] [(.int (2 : Int32))])) rfl (by rw [hml]; rfl) (argsL := [(.int (2 : Int32))]) (rest := []) (lenOf pd_1 rfl) rfl (by show 2 * 0 + _ ≤ _; exact Nat.le_of_eq rfl) (hb hby at_23) (fun _ _ => ⟨rfl, e12, (by decide : 0 + 0 ≤ _), (by decide : 0 + 0 ≤ _)⟩)
      dsimp only [Pt.U, Pt.locs, Pt.cells, Pt.slots] at X13 l13 y13 z13 st13 hQ13
      subst l13 y13 z13
      obtain ⟨rfl, N13q, e13⟩ := hQ13
      have N13 := Fr.app N12 N13q
      obtain ⟨cq14, kq14, q14a, q14b, q14c⟩ := isOf hZ e13 E_SEALTRAIL_KEY
      obtain ⟨_, _, ⟨T14, L14, k14, n14⟩, -, X14, ⟨Lc14, hQ14, l14, y14, z14⟩, st14⟩ := X13.virtualBack hx (y := (⟨"com/example/sealtrail/sealtrail/Encryption", "code", "()I"⟩ : MethodName)) (z := (⟨"com/example/sealtrail/sealtrail/Encryption", "code", "()I"⟩ : MethodName)) hown (mvT hZ (hw _ (List.mem_of_getElem? (i := 12) rfl))) (mvT hZ (hw _ (List.mem_of_getElem? (i := 13) rfl))) (notFace_of_selects (args := #[]) (mvT hZ (hw _ (List.mem_of_getElem? (i := 15) rfl)))) (mvT hZ (hw _ (List.mem_of_getElem? (i := 15) rfl))) (mvT hZ (hw _ (List.mem_of_getElem? (i := 14) rfl))) (by decide) (backOf (W := 0) (rm_code l Z a0 hw [] a_SEALTRAIL_KEY h0 n0 Z0 (2 : Int32) F_SEALTRAIL_KEY_ordinal E_SEALTRAIL_KEY) hZ (hw _ (List.mem_of_getElem? (i := 16) rfl)) (hw _ (List.mem_of_getElem? (i := 5) rfl)) (by decide) (by decide)) q14a q14c (g := (mkF m 43 #[.val (.int p1), .val (.int p2), .val (.int (2 : Int32)), .val (.ref a_SEALTRAIL_KEY), .val (.ref a_SEALTRAIL_KEY)] [(.ref a_SEALTRAIL_KEY)])) rfl (by rw [hml]; rfl) (Steps.refl _) (argsL := []) (rest := []) (lenOf pd_0 rfl) rfl (by show 2 * 0 + _ ≤ _; exact Nat.le_of_eq rfl) (hb hby at_43) (fun _ _ => ⟨rfl, e13, (by decide : 0 + 0 ≤ _), (by decide : 0 + 0 ≤ _)⟩)
      dsimp only [Pt.U, Pt.locs, Pt.cells, Pt.slots] at X14 l14 y14 z14 st14 hQ14
      subst l14 y14 z14
      obtain ⟨rfl, N14q, e14⟩ := hQ14
      have N14 := Fr.app N13 N14q
      have pre15 : ∀ t, Steps p.tables e below (T14.setTop (mkF m 53 #[.val (.int p1), .val (.int p2), .val (.int (2 : Int32)), .val (.ref a_SEALTRAIL_KEY), .val (.ref a_SEALTRAIL_KEY)] [(.int (1 : Int32))])) t → Steps p.tables e below (s₁.setTop (entryFrame m #[(.int p1), (.int p2)] maxLocals)) t := fun t k => pre3 t (by
        show Steps p.tables e below (s₁.setTop (mkF m 16 #[.val (.int p1), .val (.int p2), .unset, .unset, .unset] [(.int ((p1 &&& (7 : Int32)) - (1 : Int32)))])) _
        refine castTop (g' := (mkF m 16 #[.val (.int p1), .val (.int p2), .unset, .unset, .unset] [(.int (2 : Int32))])) (by rw [hk]) ?_
        show Steps p.tables e below (s₁.setTop (mkF m 16 #[.val (.int p1), .val (.int p2), .unset, .unset, .unset] [(.int (2 : Int32))])) _
        refine XS.istoreN X0.here hx rfl (hb hby at_16) rfl (l' := #[.val (.int p1), .val (.int p2), .val (.int (2 : Int32)), .unset, .unset]) rfl ?_
        show Steps p.tables e below (s₁.setTop (mkF m 17 #[.val (.int p1), .val (.int p2), .val (.int (2 : Int32)), .unset, .unset] [])) _
        refine XS.iloadN X0.here hx rfl (hb hby at_17) rfl ?_
        show Steps p.tables e below (s₁.setTop (mkF m 18 #[.val (.int p1), .val (.int p2), .val (.int (2 : Int32)), .unset, .unset] [(.int (2 : Int32))])) _
        refine st12 _ ?_
        show Steps p.tables e below (T12.setTop (mkF m 21 #[.val (.int p1), .val (.int p2), .val (.int (2 : Int32)), .unset, .unset] [(.ref a_SEALTRAIL_KEY)])) _
        refine XS.astoreN X12.here hx rfl (hb hby at_21) rfl rfl (l' := #[.val (.int p1), .val (.int p2), .val (.int (2 : Int32)), .val (.ref a_SEALTRAIL_KEY), .unset]) rfl ?_
        show Steps p.tables e below (T12.setTop (mkF m 22 #[.val (.int p1), .val (.int p2), .val (.int (2 : Int32)), .val (.ref a_SEALTRAIL_KEY), .unset] [])) _
        refine XS.iloadN X12.here hx rfl (hb hby at_22) rfl ?_
        show Steps p.tables e below (T12.setTop (mkF m 23 #[.val (.int p1), .val (.int p2), .val (.int (2 : Int32)), .val (.ref a_SEALTRAIL_KEY), .unset] [(.int (2 : Int32))])) _
        refine st13 _ ?_
        show Steps p.tables e below (T13.setTop (mkF m 26 #[.val (.int p1), .val (.int p2), .val (.int (2 : Int32)), .val (.ref a_SEALTRAIL_KEY), .unset] [(.ref a_SEALTRAIL_KEY)])) _
        refine XS.astore X13.here hx rfl (hb hby at_26) rfl rfl (l' := #[.val (.int p1), .val (.int p2), .val (.int (2 : Int32)), .val (.ref a_SEALTRAIL_KEY), .val (.ref a_SEALTRAIL_KEY)]) rfl ?_
        show Steps p.tables e below (T13.setTop (mkF m 28 #[.val (.int p1), .val (.int p2), .val (.int (2 : Int32)), .val (.ref a_SEALTRAIL_KEY), .val (.ref a_SEALTRAIL_KEY)] [])) _
        refine XS.aload X13.here hx rfl (hb hby at_28) rfl rfl ?_
        show Steps p.tables e below (T13.setTop (mkF m 30 #[.val (.int p1), .val (.int p2), .val (.int (2 : Int32)), .val (.ref a_SEALTRAIL_KEY), .val (.ref a_SEALTRAIL_KEY)] [(.ref a_SEALTRAIL_KEY)])) _
        refine XS.aloadN X13.here hx rfl (hb hby at_30) rfl rfl ?_
        show Steps p.tables e below (T13.setTop (mkF m 31 #[.val (.int p1), .val (.int p2), .val (.int (2 : Int32)), .val (.ref a_SEALTRAIL_KEY), .val (.ref a_SEALTRAIL_KEY)] [(.ref a_SEALTRAIL_KEY), (.ref a_SEALTRAIL_KEY)])) _
        refine Jvm.RoadKit.acmp (g := (mkF m 31 #[.val (.int p1), .val (.int p2), .val (.int (2 : Int32)), .val (.ref a_SEALTRAIL_KEY), .val (.ref a_SEALTRAIL_KEY)] [(.ref a_SEALTRAIL_KEY), (.ref a_SEALTRAIL_KEY)])) X13 hx rfl rfl rfl (pc0 := 31) (pc' := 36) (same := true) rfl (hb hby at_31) rfl (decide_eq_true rfl) (by decide) (by decide) ?_
        show Steps p.tables e below (T13.setTop (mkF m 36 #[.val (.int p1), .val (.int p2), .val (.int (2 : Int32)), .val (.ref a_SEALTRAIL_KEY), .val (.ref a_SEALTRAIL_KEY)] [])) _
        refine XS.aload X13.here hx rfl (hb hby at_36) rfl rfl ?_
        show Steps p.tables e below (T13.setTop (mkF m 38 #[.val (.int p1), .val (.int p2), .val (.int (2 : Int32)), .val (.ref a_SEALTRAIL_KEY), .val (.ref a_SEALTRAIL_KEY)] [(.ref a_SEALTRAIL_KEY)])) _
        refine XS.ifnullNo X13.here hx rfl (hb hby at_38) rfl ?_
        show Steps p.tables e below (T13.setTop (mkF m 41 #[.val (.int p1), .val (.int p2), .val (.int (2 : Int32)), .val (.ref a_SEALTRAIL_KEY), .val (.ref a_SEALTRAIL_KEY)] [])) _
        refine XS.aload X13.here hx rfl (hb hby at_41) rfl rfl ?_
        show Steps p.tables e below (T13.setTop (mkF m 43 #[.val (.int p1), .val (.int p2), .val (.int (2 : Int32)), .val (.ref a_SEALTRAIL_KEY), .val (.ref a_SEALTRAIL_KEY)] [(.ref a_SEALTRAIL_KEY)])) _
        refine st14.trans ?_
        show Steps p.tables e below (T14.setTop (mkF m 46 #[.val (.int p1), .val (.int p2), .val (.int (2 : Int32)), .val (.ref a_SEALTRAIL_KEY), .val (.ref a_SEALTRAIL_KEY)] [(.int (2 : Int32))])) _
        refine XS.iloadN X14.here hx rfl (hb hby at_46) rfl ?_
        show Steps p.tables e below (T14.setTop (mkF m 47 #[.val (.int p1), .val (.int p2), .val (.int (2 : Int32)), .val (.ref a_SEALTRAIL_KEY), .val (.ref a_SEALTRAIL_KEY)] [(.int (2 : Int32)), (.int (2 : Int32))])) _
        refine XS.icmpYes X14.here hx rfl (pc0 := 47) (pc' := 52) rfl (hb hby at_47) rfl (teq (by decide : ((2 : Int32) = (2 : Int32)))).1 (by decide) (by decide) ?_
        show Steps p.tables e below (T14.setTop (mkF m 52 #[.val (.int p1), .val (.int p2), .val (.int (2 : Int32)), .val (.ref a_SEALTRAIL_KEY), .val (.ref a_SEALTRAIL_KEY)] [])) _
        refine XT.iconstV X14.here hx rfl (1 : Int32) (hb hby at_52) (by decide) ?_
        exact k)
      obtain ⟨fs, hr, hrun, hended, hW, hsame⟩ := X14.leave (v := some (.int (1 : Int32))) (fun h => by rw [Bd.returns] at h; cases h)
      refine ⟨_, _, pre15 _ ?_, hrun, hended, _, _, rfl, ?_, ⟨_, rfl⟩, hW, hsame.mono (by decide) (by decide)⟩
      · show Steps p.tables e below (T14.setTop (mkF m 53 #[.val (.int p1), .val (.int p2), .val (.int (2 : Int32)), .val (.ref a_SEALTRAIL_KEY), .val (.ref a_SEALTRAIL_KEY)] [(.int (1 : Int32))])) _
        exact retOut X14 hx Bd.returns rfl (Or.inl ⟨rfl, by simp, _, rfl⟩) (hb hby at_53) hr
      · show Q0 Z p1 p2  h0 n0 _ T14.heap _
        rw [e14]
        exact ⟨rfl, N14⟩
    · have _ := 0
      obtain ⟨_, _, ⟨T16, L16, k16, n16⟩, -, X16, ⟨Lc16, hQ16, l16, y16, z16⟩, st16⟩ := Jvm.LawKit.callS X0 hx (y := (⟨"com/example/sealtrail/sealtrail/EncryptionOfPinLaw", "expectedFor", "(I)Lcom/example/sealtrail/sealtrail/Encryption;"⟩ : MethodName)) hown (mvT hZ (hw _ (List.mem_of_getElem? (i := 0) rfl))) (mvT hZ (hw _ (List.mem_of_getElem? (i := 1) rfl))) (mvT hZ (hw _ (List.mem_of_getElem? (i := 2) rfl))) (mvT hZ (hw _ (List.mem_of_getElem? (i := 3) rfl))) (by decide) (backOf (W := 0) (rm_exp l Z a0 hw [] (3 : Int32) h0 n0 Z0 a_NONE S_NONE a_SYMMETRIC S_SYMMETRIC a_SEALTRAIL_KEY S_SEALTRAIL_KEY a_VIEWER_KEY S_VIEWER_KEY a_CLIENT_KEY S_CLIENT_KEY (.ref a_VIEWER_KEY) (by first | rfl | simp [own_exp])) hZ (hw _ (List.mem_of_getElem? (i := 3) rfl)) (hw _ (List.mem_of_getElem? (i := 2) rfl)) (by decide) (by decide)) (g := (mkF m 18 #[.val (.int p1), .val (.int p2), .val (.int (3 : Int32)), .unset, .unset] [(.int (3 : Int32))])) rfl (by rw [hml]; rfl) (argsL := [(.int (3 : Int32))]) (rest := []) (lenOf pd_1 rfl) rfl (by show 2 * 0 + _ ≤ _; exact Nat.le_of_eq rfl) (hb hby at_18) (fun _ _ => ⟨rfl, e0, (by decide : 0 + 0 ≤ _), (by decide : 0 + 0 ≤ _)⟩)
      dsimp only [Pt.U, Pt.locs, Pt.cells, Pt.slots] at X16 l16 y16 z16 st16 hQ16
      subst l16 y16 z16
      obtain ⟨rfl, N16q, e16⟩ := hQ16
      have N16 := Fr.app N0 N16q
      obtain ⟨_, _, ⟨T17, L17, k17, n17⟩, -, X17, ⟨Lc17, hQ17, l17, y17, z17⟩, st17⟩ := Jvm.LawKit.callS X16 hx (y := (⟨"com/example/sealtrail/sealtrail/Encryption", "of", "(I)Lcom/example/sealtrail/sealtrail/Encryption;"⟩ : MethodName)) hown (mvT hZ (hw _ (List.mem_of_getElem? (i := 7) rfl))) (mvT hZ (hw _ (List.mem_of_getElem? (i := 8) rfl))) (mvT hZ (hw _ (List.mem_of_getElem? (i := 5) rfl))) (mvT hZ (hw _ (List.mem_of_getElem? (i := 9) rfl))) (by decide) (backOf (W := 0) (rm_of_ref l Z a0 hw [] (3 : Int32) h0 n0 Z0 aB S_BY clB ArB SzB (by decide) (by decide) a_VIEWER_KEY el_3) hZ (hw _ (List.mem_of_getElem? (i := 9) rfl)) (hw _ (List.mem_of_getElem? (i := 5) rfl)) (by decide) (by decide)) (g := (mkF m 23 #[.val (.int p1), .val (.int p2), .val (.int (3 : Int32)), .val (.ref a_VIEWER_KEY), .unset] [(.int (3 : Int32))])) rfl (by rw [hml]; rfl) (argsL := [(.int (3 : Int32))]) (rest := []) (lenOf pd_1 rfl) rfl (by show 2 * 0 + _ ≤ _; exact Nat.le_of_eq rfl) (hb hby at_23) (fun _ _ => ⟨rfl, e16, (by decide : 0 + 0 ≤ _), (by decide : 0 + 0 ≤ _)⟩)
      dsimp only [Pt.U, Pt.locs, Pt.cells, Pt.slots] at X17 l17 y17 z17 st17 hQ17
      subst l17 y17 z17
      obtain ⟨rfl, N17q, e17⟩ := hQ17
      have N17 := Fr.app N16 N17q
      obtain ⟨cq18, kq18, q18a, q18b, q18c⟩ := isOf hZ e17 E_VIEWER_KEY
      obtain ⟨_, _, ⟨T18, L18, k18, n18⟩, -, X18, ⟨Lc18, hQ18, l18, y18, z18⟩, st18⟩ := X17.virtualBack hx (y := (⟨"com/example/sealtrail/sealtrail/Encryption", "code", "()I"⟩ : MethodName)) (z := (⟨"com/example/sealtrail/sealtrail/Encryption", "code", "()I"⟩ : MethodName)) hown (mvT hZ (hw _ (List.mem_of_getElem? (i := 12) rfl))) (mvT hZ (hw _ (List.mem_of_getElem? (i := 13) rfl))) (notFace_of_selects (args := #[]) (mvT hZ (hw _ (List.mem_of_getElem? (i := 15) rfl)))) (mvT hZ (hw _ (List.mem_of_getElem? (i := 15) rfl))) (mvT hZ (hw _ (List.mem_of_getElem? (i := 14) rfl))) (by decide) (backOf (W := 0) (rm_code l Z a0 hw [] a_VIEWER_KEY h0 n0 Z0 (3 : Int32) F_VIEWER_KEY_ordinal E_VIEWER_KEY) hZ (hw _ (List.mem_of_getElem? (i := 16) rfl)) (hw _ (List.mem_of_getElem? (i := 5) rfl)) (by decide) (by decide)) q18a q18c (g := (mkF m 43 #[.val (.int p1), .val (.int p2), .val (.int (3 : Int32)), .val (.ref a_VIEWER_KEY), .val (.ref a_VIEWER_KEY)] [(.ref a_VIEWER_KEY)])) rfl (by rw [hml]; rfl) (Steps.refl _) (argsL := []) (rest := []) (lenOf pd_0 rfl) rfl (by show 2 * 0 + _ ≤ _; exact Nat.le_of_eq rfl) (hb hby at_43) (fun _ _ => ⟨rfl, e17, (by decide : 0 + 0 ≤ _), (by decide : 0 + 0 ≤ _)⟩)
      dsimp only [Pt.U, Pt.locs, Pt.cells, Pt.slots] at X18 l18 y18 z18 st18 hQ18
      subst l18 y18 z18
      obtain ⟨rfl, N18q, e18⟩ := hQ18
      have N18 := Fr.app N17 N18q
      have pre19 : ∀ t, Steps p.tables e below (T18.setTop (mkF m 53 #[.val (.int p1), .val (.int p2), .val (.int (3 : Int32)), .val (.ref a_VIEWER_KEY), .val (.ref a_VIEWER_KEY)] [(.int (1 : Int32))])) t → Steps p.tables e below (s₁.setTop (entryFrame m #[(.int p1), (.int p2)] maxLocals)) t := fun t k => pre3 t (by
        show Steps p.tables e below (s₁.setTop (mkF m 16 #[.val (.int p1), .val (.int p2), .unset, .unset, .unset] [(.int ((p1 &&& (7 : Int32)) - (1 : Int32)))])) _
        refine castTop (g' := (mkF m 16 #[.val (.int p1), .val (.int p2), .unset, .unset, .unset] [(.int (3 : Int32))])) (by rw [hk]) ?_
        show Steps p.tables e below (s₁.setTop (mkF m 16 #[.val (.int p1), .val (.int p2), .unset, .unset, .unset] [(.int (3 : Int32))])) _
        refine XS.istoreN X0.here hx rfl (hb hby at_16) rfl (l' := #[.val (.int p1), .val (.int p2), .val (.int (3 : Int32)), .unset, .unset]) rfl ?_
        show Steps p.tables e below (s₁.setTop (mkF m 17 #[.val (.int p1), .val (.int p2), .val (.int (3 : Int32)), .unset, .unset] [])) _
        refine XS.iloadN X0.here hx rfl (hb hby at_17) rfl ?_
        show Steps p.tables e below (s₁.setTop (mkF m 18 #[.val (.int p1), .val (.int p2), .val (.int (3 : Int32)), .unset, .unset] [(.int (3 : Int32))])) _
        refine st16 _ ?_
        show Steps p.tables e below (T16.setTop (mkF m 21 #[.val (.int p1), .val (.int p2), .val (.int (3 : Int32)), .unset, .unset] [(.ref a_VIEWER_KEY)])) _
        refine XS.astoreN X16.here hx rfl (hb hby at_21) rfl rfl (l' := #[.val (.int p1), .val (.int p2), .val (.int (3 : Int32)), .val (.ref a_VIEWER_KEY), .unset]) rfl ?_
        show Steps p.tables e below (T16.setTop (mkF m 22 #[.val (.int p1), .val (.int p2), .val (.int (3 : Int32)), .val (.ref a_VIEWER_KEY), .unset] [])) _
        refine XS.iloadN X16.here hx rfl (hb hby at_22) rfl ?_
        show Steps p.tables e below (T16.setTop (mkF m 23 #[.val (.int p1), .val (.int p2), .val (.int (3 : Int32)), .val (.ref a_VIEWER_KEY), .unset] [(.int (3 : Int32))])) _
        refine st17 _ ?_
        show Steps p.tables e below (T17.setTop (mkF m 26 #[.val (.int p1), .val (.int p2), .val (.int (3 : Int32)), .val (.ref a_VIEWER_KEY), .unset] [(.ref a_VIEWER_KEY)])) _
        refine XS.astore X17.here hx rfl (hb hby at_26) rfl rfl (l' := #[.val (.int p1), .val (.int p2), .val (.int (3 : Int32)), .val (.ref a_VIEWER_KEY), .val (.ref a_VIEWER_KEY)]) rfl ?_
        show Steps p.tables e below (T17.setTop (mkF m 28 #[.val (.int p1), .val (.int p2), .val (.int (3 : Int32)), .val (.ref a_VIEWER_KEY), .val (.ref a_VIEWER_KEY)] [])) _
        refine XS.aload X17.here hx rfl (hb hby at_28) rfl rfl ?_
        show Steps p.tables e below (T17.setTop (mkF m 30 #[.val (.int p1), .val (.int p2), .val (.int (3 : Int32)), .val (.ref a_VIEWER_KEY), .val (.ref a_VIEWER_KEY)] [(.ref a_VIEWER_KEY)])) _
        refine XS.aloadN X17.here hx rfl (hb hby at_30) rfl rfl ?_
        show Steps p.tables e below (T17.setTop (mkF m 31 #[.val (.int p1), .val (.int p2), .val (.int (3 : Int32)), .val (.ref a_VIEWER_KEY), .val (.ref a_VIEWER_KEY)] [(.ref a_VIEWER_KEY), (.ref a_VIEWER_KEY)])) _
        refine Jvm.RoadKit.acmp (g := (mkF m 31 #[.val (.int p1), .val (.int p2), .val (.int (3 : Int32)), .val (.ref a_VIEWER_KEY), .val (.ref a_VIEWER_KEY)] [(.ref a_VIEWER_KEY), (.ref a_VIEWER_KEY)])) X17 hx rfl rfl rfl (pc0 := 31) (pc' := 36) (same := true) rfl (hb hby at_31) rfl (decide_eq_true rfl) (by decide) (by decide) ?_
        show Steps p.tables e below (T17.setTop (mkF m 36 #[.val (.int p1), .val (.int p2), .val (.int (3 : Int32)), .val (.ref a_VIEWER_KEY), .val (.ref a_VIEWER_KEY)] [])) _
        refine XS.aload X17.here hx rfl (hb hby at_36) rfl rfl ?_
        show Steps p.tables e below (T17.setTop (mkF m 38 #[.val (.int p1), .val (.int p2), .val (.int (3 : Int32)), .val (.ref a_VIEWER_KEY), .val (.ref a_VIEWER_KEY)] [(.ref a_VIEWER_KEY)])) _
        refine XS.ifnullNo X17.here hx rfl (hb hby at_38) rfl ?_
        show Steps p.tables e below (T17.setTop (mkF m 41 #[.val (.int p1), .val (.int p2), .val (.int (3 : Int32)), .val (.ref a_VIEWER_KEY), .val (.ref a_VIEWER_KEY)] [])) _
        refine XS.aload X17.here hx rfl (hb hby at_41) rfl rfl ?_
        show Steps p.tables e below (T17.setTop (mkF m 43 #[.val (.int p1), .val (.int p2), .val (.int (3 : Int32)), .val (.ref a_VIEWER_KEY), .val (.ref a_VIEWER_KEY)] [(.ref a_VIEWER_KEY)])) _
        refine st18.trans ?_
        show Steps p.tables e below (T18.setTop (mkF m 46 #[.val (.int p1), .val (.int p2), .val (.int (3 : Int32)), .val (.ref a_VIEWER_KEY), .val (.ref a_VIEWER_KEY)] [(.int (3 : Int32))])) _
        refine XS.iloadN X18.here hx rfl (hb hby at_46) rfl ?_
        show Steps p.tables e below (T18.setTop (mkF m 47 #[.val (.int p1), .val (.int p2), .val (.int (3 : Int32)), .val (.ref a_VIEWER_KEY), .val (.ref a_VIEWER_KEY)] [(.int (3 : Int32)), (.int (3 : Int32))])) _
        refine XS.icmpYes X18.here hx rfl (pc0 := 47) (pc' := 52) rfl (hb hby at_47) rfl (teq (by decide : ((3 : Int32) = (3 : Int32)))).1 (by decide) (by decide) ?_
        show Steps p.tables e below (T18.setTop (mkF m 52 #[.val (.int p1), .val (.int p2), .val (.int (3 : Int32)), .val (.ref a_VIEWER_KEY), .val (.ref a_VIEWER_KEY)] [])) _
        refine XT.iconstV X18.here hx rfl (1 : Int32) (hb hby at_52) (by decide) ?_
        exact k)
      obtain ⟨fs, hr, hrun, hended, hW, hsame⟩ := X18.leave (v := some (.int (1 : Int32))) (fun h => by rw [Bd.returns] at h; cases h)
      refine ⟨_, _, pre19 _ ?_, hrun, hended, _, _, rfl, ?_, ⟨_, rfl⟩, hW, hsame.mono (by decide) (by decide)⟩
      · show Steps p.tables e below (T18.setTop (mkF m 53 #[.val (.int p1), .val (.int p2), .val (.int (3 : Int32)), .val (.ref a_VIEWER_KEY), .val (.ref a_VIEWER_KEY)] [(.int (1 : Int32))])) _
        exact retOut X18 hx Bd.returns rfl (Or.inl ⟨rfl, by simp, _, rfl⟩) (hb hby at_53) hr
      · show Q0 Z p1 p2  h0 n0 _ T18.heap _
        rw [e18]
        exact ⟨rfl, N18⟩
    · have _ := 0
      obtain ⟨_, _, ⟨T20, L20, k20, n20⟩, -, X20, ⟨Lc20, hQ20, l20, y20, z20⟩, st20⟩ := Jvm.LawKit.callS X0 hx (y := (⟨"com/example/sealtrail/sealtrail/EncryptionOfPinLaw", "expectedFor", "(I)Lcom/example/sealtrail/sealtrail/Encryption;"⟩ : MethodName)) hown (mvT hZ (hw _ (List.mem_of_getElem? (i := 0) rfl))) (mvT hZ (hw _ (List.mem_of_getElem? (i := 1) rfl))) (mvT hZ (hw _ (List.mem_of_getElem? (i := 2) rfl))) (mvT hZ (hw _ (List.mem_of_getElem? (i := 3) rfl))) (by decide) (backOf (W := 0) (rm_exp l Z a0 hw [] (4 : Int32) h0 n0 Z0 a_NONE S_NONE a_SYMMETRIC S_SYMMETRIC a_SEALTRAIL_KEY S_SEALTRAIL_KEY a_VIEWER_KEY S_VIEWER_KEY a_CLIENT_KEY S_CLIENT_KEY (.ref a_CLIENT_KEY) (by first | rfl | simp [own_exp])) hZ (hw _ (List.mem_of_getElem? (i := 3) rfl)) (hw _ (List.mem_of_getElem? (i := 2) rfl)) (by decide) (by decide)) (g := (mkF m 18 #[.val (.int p1), .val (.int p2), .val (.int (4 : Int32)), .unset, .unset] [(.int (4 : Int32))])) rfl (by rw [hml]; rfl) (argsL := [(.int (4 : Int32))]) (rest := []) (lenOf pd_1 rfl) rfl (by show 2 * 0 + _ ≤ _; exact Nat.le_of_eq rfl) (hb hby at_18) (fun _ _ => ⟨rfl, e0, (by decide : 0 + 0 ≤ _), (by decide : 0 + 0 ≤ _)⟩)
      dsimp only [Pt.U, Pt.locs, Pt.cells, Pt.slots] at X20 l20 y20 z20 st20 hQ20
      subst l20 y20 z20
      obtain ⟨rfl, N20q, e20⟩ := hQ20
      have N20 := Fr.app N0 N20q
      obtain ⟨_, _, ⟨T21, L21, k21, n21⟩, -, X21, ⟨Lc21, hQ21, l21, y21, z21⟩, st21⟩ := Jvm.LawKit.callS X20 hx (y := (⟨"com/example/sealtrail/sealtrail/Encryption", "of", "(I)Lcom/example/sealtrail/sealtrail/Encryption;"⟩ : MethodName)) hown (mvT hZ (hw _ (List.mem_of_getElem? (i := 7) rfl))) (mvT hZ (hw _ (List.mem_of_getElem? (i := 8) rfl))) (mvT hZ (hw _ (List.mem_of_getElem? (i := 5) rfl))) (mvT hZ (hw _ (List.mem_of_getElem? (i := 9) rfl))) (by decide) (backOf (W := 0) (rm_of_ref l Z a0 hw [] (4 : Int32) h0 n0 Z0 aB S_BY clB ArB SzB (by decide) (by decide) a_CLIENT_KEY el_4) hZ (hw _ (List.mem_of_getElem? (i := 9) rfl)) (hw _ (List.mem_of_getElem? (i := 5) rfl)) (by decide) (by decide)) (g := (mkF m 23 #[.val (.int p1), .val (.int p2), .val (.int (4 : Int32)), .val (.ref a_CLIENT_KEY), .unset] [(.int (4 : Int32))])) rfl (by rw [hml]; rfl) (argsL := [(.int (4 : Int32))]) (rest := []) (lenOf pd_1 rfl) rfl (by show 2 * 0 + _ ≤ _; exact Nat.le_of_eq rfl) (hb hby at_23) (fun _ _ => ⟨rfl, e20, (by decide : 0 + 0 ≤ _), (by decide : 0 + 0 ≤ _)⟩)
      dsimp only [Pt.U, Pt.locs, Pt.cells, Pt.slots] at X21 l21 y21 z21 st21 hQ21
      subst l21 y21 z21
      obtain ⟨rfl, N21q, e21⟩ := hQ21
      have N21 := Fr.app N20 N21q
      obtain ⟨cq22, kq22, q22a, q22b, q22c⟩ := isOf hZ e21 E_CLIENT_KEY
      obtain ⟨_, _, ⟨T22, L22, k22, n22⟩, -, X22, ⟨Lc22, hQ22, l22, y22, z22⟩, st22⟩ := X21.virtualBack hx (y := (⟨"com/example/sealtrail/sealtrail/Encryption", "code", "()I"⟩ : MethodName)) (z := (⟨"com/example/sealtrail/sealtrail/Encryption", "code", "()I"⟩ : MethodName)) hown (mvT hZ (hw _ (List.mem_of_getElem? (i := 12) rfl))) (mvT hZ (hw _ (List.mem_of_getElem? (i := 13) rfl))) (notFace_of_selects (args := #[]) (mvT hZ (hw _ (List.mem_of_getElem? (i := 15) rfl)))) (mvT hZ (hw _ (List.mem_of_getElem? (i := 15) rfl))) (mvT hZ (hw _ (List.mem_of_getElem? (i := 14) rfl))) (by decide) (backOf (W := 0) (rm_code l Z a0 hw [] a_CLIENT_KEY h0 n0 Z0 (4 : Int32) F_CLIENT_KEY_ordinal E_CLIENT_KEY) hZ (hw _ (List.mem_of_getElem? (i := 16) rfl)) (hw _ (List.mem_of_getElem? (i := 5) rfl)) (by decide) (by decide)) q22a q22c (g := (mkF m 43 #[.val (.int p1), .val (.int p2), .val (.int (4 : Int32)), .val (.ref a_CLIENT_KEY), .val (.ref a_CLIENT_KEY)] [(.ref a_CLIENT_KEY)])) rfl (by rw [hml]; rfl) (Steps.refl _) (argsL := []) (rest := []) (lenOf pd_0 rfl) rfl (by show 2 * 0 + _ ≤ _; exact Nat.le_of_eq rfl) (hb hby at_43) (fun _ _ => ⟨rfl, e21, (by decide : 0 + 0 ≤ _), (by decide : 0 + 0 ≤ _)⟩)
      dsimp only [Pt.U, Pt.locs, Pt.cells, Pt.slots] at X22 l22 y22 z22 st22 hQ22
      subst l22 y22 z22
      obtain ⟨rfl, N22q, e22⟩ := hQ22
      have N22 := Fr.app N21 N22q
      have pre23 : ∀ t, Steps p.tables e below (T22.setTop (mkF m 53 #[.val (.int p1), .val (.int p2), .val (.int (4 : Int32)), .val (.ref a_CLIENT_KEY), .val (.ref a_CLIENT_KEY)] [(.int (1 : Int32))])) t → Steps p.tables e below (s₁.setTop (entryFrame m #[(.int p1), (.int p2)] maxLocals)) t := fun t k => pre3 t (by
        show Steps p.tables e below (s₁.setTop (mkF m 16 #[.val (.int p1), .val (.int p2), .unset, .unset, .unset] [(.int ((p1 &&& (7 : Int32)) - (1 : Int32)))])) _
        refine castTop (g' := (mkF m 16 #[.val (.int p1), .val (.int p2), .unset, .unset, .unset] [(.int (4 : Int32))])) (by rw [hk]) ?_
        show Steps p.tables e below (s₁.setTop (mkF m 16 #[.val (.int p1), .val (.int p2), .unset, .unset, .unset] [(.int (4 : Int32))])) _
        refine XS.istoreN X0.here hx rfl (hb hby at_16) rfl (l' := #[.val (.int p1), .val (.int p2), .val (.int (4 : Int32)), .unset, .unset]) rfl ?_
        show Steps p.tables e below (s₁.setTop (mkF m 17 #[.val (.int p1), .val (.int p2), .val (.int (4 : Int32)), .unset, .unset] [])) _
        refine XS.iloadN X0.here hx rfl (hb hby at_17) rfl ?_
        show Steps p.tables e below (s₁.setTop (mkF m 18 #[.val (.int p1), .val (.int p2), .val (.int (4 : Int32)), .unset, .unset] [(.int (4 : Int32))])) _
        refine st20 _ ?_
        show Steps p.tables e below (T20.setTop (mkF m 21 #[.val (.int p1), .val (.int p2), .val (.int (4 : Int32)), .unset, .unset] [(.ref a_CLIENT_KEY)])) _
        refine XS.astoreN X20.here hx rfl (hb hby at_21) rfl rfl (l' := #[.val (.int p1), .val (.int p2), .val (.int (4 : Int32)), .val (.ref a_CLIENT_KEY), .unset]) rfl ?_
        show Steps p.tables e below (T20.setTop (mkF m 22 #[.val (.int p1), .val (.int p2), .val (.int (4 : Int32)), .val (.ref a_CLIENT_KEY), .unset] [])) _
        refine XS.iloadN X20.here hx rfl (hb hby at_22) rfl ?_
        show Steps p.tables e below (T20.setTop (mkF m 23 #[.val (.int p1), .val (.int p2), .val (.int (4 : Int32)), .val (.ref a_CLIENT_KEY), .unset] [(.int (4 : Int32))])) _
        refine st21 _ ?_
        show Steps p.tables e below (T21.setTop (mkF m 26 #[.val (.int p1), .val (.int p2), .val (.int (4 : Int32)), .val (.ref a_CLIENT_KEY), .unset] [(.ref a_CLIENT_KEY)])) _
        refine XS.astore X21.here hx rfl (hb hby at_26) rfl rfl (l' := #[.val (.int p1), .val (.int p2), .val (.int (4 : Int32)), .val (.ref a_CLIENT_KEY), .val (.ref a_CLIENT_KEY)]) rfl ?_
        show Steps p.tables e below (T21.setTop (mkF m 28 #[.val (.int p1), .val (.int p2), .val (.int (4 : Int32)), .val (.ref a_CLIENT_KEY), .val (.ref a_CLIENT_KEY)] [])) _
        refine XS.aload X21.here hx rfl (hb hby at_28) rfl rfl ?_
        show Steps p.tables e below (T21.setTop (mkF m 30 #[.val (.int p1), .val (.int p2), .val (.int (4 : Int32)), .val (.ref a_CLIENT_KEY), .val (.ref a_CLIENT_KEY)] [(.ref a_CLIENT_KEY)])) _
        refine XS.aloadN X21.here hx rfl (hb hby at_30) rfl rfl ?_
        show Steps p.tables e below (T21.setTop (mkF m 31 #[.val (.int p1), .val (.int p2), .val (.int (4 : Int32)), .val (.ref a_CLIENT_KEY), .val (.ref a_CLIENT_KEY)] [(.ref a_CLIENT_KEY), (.ref a_CLIENT_KEY)])) _
        refine Jvm.RoadKit.acmp (g := (mkF m 31 #[.val (.int p1), .val (.int p2), .val (.int (4 : Int32)), .val (.ref a_CLIENT_KEY), .val (.ref a_CLIENT_KEY)] [(.ref a_CLIENT_KEY), (.ref a_CLIENT_KEY)])) X21 hx rfl rfl rfl (pc0 := 31) (pc' := 36) (same := true) rfl (hb hby at_31) rfl (decide_eq_true rfl) (by decide) (by decide) ?_
        show Steps p.tables e below (T21.setTop (mkF m 36 #[.val (.int p1), .val (.int p2), .val (.int (4 : Int32)), .val (.ref a_CLIENT_KEY), .val (.ref a_CLIENT_KEY)] [])) _
        refine XS.aload X21.here hx rfl (hb hby at_36) rfl rfl ?_
        show Steps p.tables e below (T21.setTop (mkF m 38 #[.val (.int p1), .val (.int p2), .val (.int (4 : Int32)), .val (.ref a_CLIENT_KEY), .val (.ref a_CLIENT_KEY)] [(.ref a_CLIENT_KEY)])) _
        refine XS.ifnullNo X21.here hx rfl (hb hby at_38) rfl ?_
        show Steps p.tables e below (T21.setTop (mkF m 41 #[.val (.int p1), .val (.int p2), .val (.int (4 : Int32)), .val (.ref a_CLIENT_KEY), .val (.ref a_CLIENT_KEY)] [])) _
        refine XS.aload X21.here hx rfl (hb hby at_41) rfl rfl ?_
        show Steps p.tables e below (T21.setTop (mkF m 43 #[.val (.int p1), .val (.int p2), .val (.int (4 : Int32)), .val (.ref a_CLIENT_KEY), .val (.ref a_CLIENT_KEY)] [(.ref a_CLIENT_KEY)])) _
        refine st22.trans ?_
        show Steps p.tables e below (T22.setTop (mkF m 46 #[.val (.int p1), .val (.int p2), .val (.int (4 : Int32)), .val (.ref a_CLIENT_KEY), .val (.ref a_CLIENT_KEY)] [(.int (4 : Int32))])) _
        refine XS.iloadN X22.here hx rfl (hb hby at_46) rfl ?_
        show Steps p.tables e below (T22.setTop (mkF m 47 #[.val (.int p1), .val (.int p2), .val (.int (4 : Int32)), .val (.ref a_CLIENT_KEY), .val (.ref a_CLIENT_KEY)] [(.int (4 : Int32)), (.int (4 : Int32))])) _
        refine XS.icmpYes X22.here hx rfl (pc0 := 47) (pc' := 52) rfl (hb hby at_47) rfl (teq (by decide : ((4 : Int32) = (4 : Int32)))).1 (by decide) (by decide) ?_
        show Steps p.tables e below (T22.setTop (mkF m 52 #[.val (.int p1), .val (.int p2), .val (.int (4 : Int32)), .val (.ref a_CLIENT_KEY), .val (.ref a_CLIENT_KEY)] [])) _
        refine XT.iconstV X22.here hx rfl (1 : Int32) (hb hby at_52) (by decide) ?_
        exact k)
      obtain ⟨fs, hr, hrun, hended, hW, hsame⟩ := X22.leave (v := some (.int (1 : Int32))) (fun h => by rw [Bd.returns] at h; cases h)
      refine ⟨_, _, pre23 _ ?_, hrun, hended, _, _, rfl, ?_, ⟨_, rfl⟩, hW, hsame.mono (by decide) (by decide)⟩
      · show Steps p.tables e below (T22.setTop (mkF m 53 #[.val (.int p1), .val (.int p2), .val (.int (4 : Int32)), .val (.ref a_CLIENT_KEY), .val (.ref a_CLIENT_KEY)] [(.int (1 : Int32))])) _
        exact retOut X22 hx Bd.returns rfl (Or.inl ⟨rfl, by simp, _, rfl⟩) (hb hby at_53) hr
      · show Q0 Z p1 p2  h0 n0 _ T22.heap _
        rw [e22]
        exact ⟨rfl, N22⟩
    · have _ := 0
      obtain ⟨_, _, ⟨T24, L24, k24, n24⟩, -, X24, ⟨Lc24, hQ24, l24, y24, z24⟩, st24⟩ := Jvm.LawKit.callS X0 hx (y := (⟨"com/example/sealtrail/sealtrail/EncryptionOfPinLaw", "expectedFor", "(I)Lcom/example/sealtrail/sealtrail/Encryption;"⟩ : MethodName)) hown (mvT hZ (hw _ (List.mem_of_getElem? (i := 0) rfl))) (mvT hZ (hw _ (List.mem_of_getElem? (i := 1) rfl))) (mvT hZ (hw _ (List.mem_of_getElem? (i := 2) rfl))) (mvT hZ (hw _ (List.mem_of_getElem? (i := 3) rfl))) (by decide) (backOf (W := 0) (rm_exp l Z a0 hw [] ((p1 &&& (7 : Int32)) - (1 : Int32)) h0 n0 Z0 a_NONE S_NONE a_SYMMETRIC S_SYMMETRIC a_SEALTRAIL_KEY S_SEALTRAIL_KEY a_VIEWER_KEY S_VIEWER_KEY a_CLIENT_KEY S_CLIENT_KEY .null (by simp [own_exp, x0, x1, x2, x3, x4])) hZ (hw _ (List.mem_of_getElem? (i := 3) rfl)) (hw _ (List.mem_of_getElem? (i := 2) rfl)) (by decide) (by decide)) (g := (mkF m 18 #[.val (.int p1), .val (.int p2), .val (.int ((p1 &&& (7 : Int32)) - (1 : Int32))), .unset, .unset] [(.int ((p1 &&& (7 : Int32)) - (1 : Int32)))])) rfl (by rw [hml]; rfl) (argsL := [(.int ((p1 &&& (7 : Int32)) - (1 : Int32)))]) (rest := []) (lenOf pd_1 rfl) rfl (by show 2 * 0 + _ ≤ _; exact Nat.le_of_eq rfl) (hb hby at_18) (fun _ _ => ⟨rfl, e0, (by decide : 0 + 0 ≤ _), (by decide : 0 + 0 ≤ _)⟩)
      dsimp only [Pt.U, Pt.locs, Pt.cells, Pt.slots] at X24 l24 y24 z24 st24 hQ24
      subst l24 y24 z24
      obtain ⟨rfl, N24q, e24⟩ := hQ24
      have N24 := Fr.app N0 N24q
      obtain ⟨_, _, ⟨T25, L25, k25, n25⟩, -, X25, ⟨Lc25, hQ25, l25, y25, z25⟩, st25⟩ := Jvm.LawKit.callS X24 hx (y := (⟨"com/example/sealtrail/sealtrail/Encryption", "of", "(I)Lcom/example/sealtrail/sealtrail/Encryption;"⟩ : MethodName)) hown (mvT hZ (hw _ (List.mem_of_getElem? (i := 7) rfl))) (mvT hZ (hw _ (List.mem_of_getElem? (i := 8) rfl))) (mvT hZ (hw _ (List.mem_of_getElem? (i := 5) rfl))) (mvT hZ (hw _ (List.mem_of_getElem? (i := 9) rfl))) (by decide) (backOf (W := 0) (rm_of_null l Z a0 hw [] ((p1 &&& (7 : Int32)) - (1 : Int32)) h0 n0 Z0 aB S_BY clB ArB SzB hc) hZ (hw _ (List.mem_of_getElem? (i := 9) rfl)) (hw _ (List.mem_of_getElem? (i := 5) rfl)) (by decide) (by decide)) (g := (mkF m 23 #[.val (.int p1), .val (.int p2), .val (.int ((p1 &&& (7 : Int32)) - (1 : Int32))), .val .null, .unset] [(.int ((p1 &&& (7 : Int32)) - (1 : Int32)))])) rfl (by rw [hml]; rfl) (argsL := [(.int ((p1 &&& (7 : Int32)) - (1 : Int32)))]) (rest := []) (lenOf pd_1 rfl) rfl (by show 2 * 0 + _ ≤ _; exact Nat.le_of_eq rfl) (hb hby at_23) (fun _ _ => ⟨rfl, e24, (by decide : 0 + 0 ≤ _), (by decide : 0 + 0 ≤ _)⟩)
      dsimp only [Pt.U, Pt.locs, Pt.cells, Pt.slots] at X25 l25 y25 z25 st25 hQ25
      subst l25 y25 z25
      obtain ⟨rfl, N25q, e25⟩ := hQ25
      have N25 := Fr.app N24 N25q
      have pre26 : ∀ t, Steps p.tables e below (T25.setTop (mkF m 53 #[.val (.int p1), .val (.int p2), .val (.int ((p1 &&& (7 : Int32)) - (1 : Int32))), .val .null, .val .null] [(.int (1 : Int32))])) t → Steps p.tables e below (s₁.setTop (entryFrame m #[(.int p1), (.int p2)] maxLocals)) t := fun t k => pre3 t (by
        show Steps p.tables e below (s₁.setTop (mkF m 16 #[.val (.int p1), .val (.int p2), .unset, .unset, .unset] [(.int ((p1 &&& (7 : Int32)) - (1 : Int32)))])) _
        refine XS.istoreN X0.here hx rfl (hb hby at_16) rfl (l' := #[.val (.int p1), .val (.int p2), .val (.int ((p1 &&& (7 : Int32)) - (1 : Int32))), .unset, .unset]) rfl ?_
        show Steps p.tables e below (s₁.setTop (mkF m 17 #[.val (.int p1), .val (.int p2), .val (.int ((p1 &&& (7 : Int32)) - (1 : Int32))), .unset, .unset] [])) _
        refine XS.iloadN X0.here hx rfl (hb hby at_17) rfl ?_
        show Steps p.tables e below (s₁.setTop (mkF m 18 #[.val (.int p1), .val (.int p2), .val (.int ((p1 &&& (7 : Int32)) - (1 : Int32))), .unset, .unset] [(.int ((p1 &&& (7 : Int32)) - (1 : Int32)))])) _
        refine st24 _ ?_
        show Steps p.tables e below (T24.setTop (mkF m 21 #[.val (.int p1), .val (.int p2), .val (.int ((p1 &&& (7 : Int32)) - (1 : Int32))), .unset, .unset] [.null])) _
        refine XS.astoreN X24.here hx rfl (hb hby at_21) rfl rfl (l' := #[.val (.int p1), .val (.int p2), .val (.int ((p1 &&& (7 : Int32)) - (1 : Int32))), .val .null, .unset]) rfl ?_
        show Steps p.tables e below (T24.setTop (mkF m 22 #[.val (.int p1), .val (.int p2), .val (.int ((p1 &&& (7 : Int32)) - (1 : Int32))), .val .null, .unset] [])) _
        refine XS.iloadN X24.here hx rfl (hb hby at_22) rfl ?_
        show Steps p.tables e below (T24.setTop (mkF m 23 #[.val (.int p1), .val (.int p2), .val (.int ((p1 &&& (7 : Int32)) - (1 : Int32))), .val .null, .unset] [(.int ((p1 &&& (7 : Int32)) - (1 : Int32)))])) _
        refine st25 _ ?_
        show Steps p.tables e below (T25.setTop (mkF m 26 #[.val (.int p1), .val (.int p2), .val (.int ((p1 &&& (7 : Int32)) - (1 : Int32))), .val .null, .unset] [.null])) _
        refine XS.astore X25.here hx rfl (hb hby at_26) rfl rfl (l' := #[.val (.int p1), .val (.int p2), .val (.int ((p1 &&& (7 : Int32)) - (1 : Int32))), .val .null, .val .null]) rfl ?_
        show Steps p.tables e below (T25.setTop (mkF m 28 #[.val (.int p1), .val (.int p2), .val (.int ((p1 &&& (7 : Int32)) - (1 : Int32))), .val .null, .val .null] [])) _
        refine XS.aload X25.here hx rfl (hb hby at_28) rfl rfl ?_
        show Steps p.tables e below (T25.setTop (mkF m 30 #[.val (.int p1), .val (.int p2), .val (.int ((p1 &&& (7 : Int32)) - (1 : Int32))), .val .null, .val .null] [.null])) _
        refine XS.aloadN X25.here hx rfl (hb hby at_30) rfl rfl ?_
        show Steps p.tables e below (T25.setTop (mkF m 31 #[.val (.int p1), .val (.int p2), .val (.int ((p1 &&& (7 : Int32)) - (1 : Int32))), .val .null, .val .null] [.null, .null])) _
        refine Jvm.RoadKit.acmp (g := (mkF m 31 #[.val (.int p1), .val (.int p2), .val (.int ((p1 &&& (7 : Int32)) - (1 : Int32))), .val .null, .val .null] [.null, .null])) X25 hx rfl rfl rfl (pc0 := 31) (pc' := 36) (same := true) rfl (hb hby at_31) rfl (decide_eq_true rfl) (by decide) (by decide) ?_
        show Steps p.tables e below (T25.setTop (mkF m 36 #[.val (.int p1), .val (.int p2), .val (.int ((p1 &&& (7 : Int32)) - (1 : Int32))), .val .null, .val .null] [])) _
        refine XS.aload X25.here hx rfl (hb hby at_36) rfl rfl ?_
        show Steps p.tables e below (T25.setTop (mkF m 38 #[.val (.int p1), .val (.int p2), .val (.int ((p1 &&& (7 : Int32)) - (1 : Int32))), .val .null, .val .null] [.null])) _
        refine XS.ifnullYes X25.here hx rfl (pc0 := 38) (pc' := 52) rfl (hb hby at_38) rfl (by decide) (by decide) ?_
        show Steps p.tables e below (T25.setTop (mkF m 52 #[.val (.int p1), .val (.int p2), .val (.int ((p1 &&& (7 : Int32)) - (1 : Int32))), .val .null, .val .null] [])) _
        refine XT.iconstV X25.here hx rfl (1 : Int32) (hb hby at_52) (by decide) ?_
        exact k)
      obtain ⟨fs, hr, hrun, hended, hW, hsame⟩ := X25.leave (v := some (.int (1 : Int32))) (fun h => by rw [Bd.returns] at h; cases h)
      refine ⟨_, _, pre26 _ ?_, hrun, hended, _, _, rfl, ?_, ⟨_, rfl⟩, hW, hsame.mono (by decide) (by decide)⟩
      · show Steps p.tables e below (T25.setTop (mkF m 53 #[.val (.int p1), .val (.int p2), .val (.int ((p1 &&& (7 : Int32)) - (1 : Int32))), .val .null, .val .null] [(.int (1 : Int32))])) _
        exact retOut X25 hx Bd.returns rfl (Or.inl ⟨rfl, by simp, _, rfl⟩) (hb hby at_53) hr
      · show Q0 Z p1 p2  h0 n0 _ T25.heap _
        rw [e25]
        exact ⟨rfl, N25⟩
  · have _ := 0
    have pre27 : ∀ t, Steps p.tables e below (s₁.setTop (mkF m 16 #[.val (.int p1), .val (.int p2), .unset, .unset, .unset] [(.int p1)])) t → Steps p.tables e below (s₁.setTop (entryFrame m #[(.int p1), (.int p2)] maxLocals)) t := fun t k => pre1 t (by
      show Steps p.tables e below (s₁.setTop (mkF m 3 #[.val (.int p1), .val (.int p2), .unset, .unset, .unset] [(.int (p2 &&& (1 : Int32)))])) _
      refine XS.ifNo X0.here hx rfl (hb hby at_3) rfl ((if0 _ _).trans (feq hc3_2).1) ?_
      show Steps p.tables e below (s₁.setTop (mkF m 6 #[.val (.int p1), .val (.int p2), .unset, .unset, .unset] [])) _
      refine XS.iloadN X0.here hx rfl (hb hby at_6) rfl ?_
      show Steps p.tables e below (s₁.setTop (mkF m 7 #[.val (.int p1), .val (.int p2), .unset, .unset, .unset] [(.int p1)])) _
      refine XS.goto X0.here hx rfl (pc0 := 7) (pc' := 16) rfl (hb hby at_7) (by decide) (by decide) ?_
      exact k)
    rcases own_six p1 with hk | hk | hk | hk | hk | ⟨x0, x1, x2, x3, x4, hc⟩
    · have _ := 0
      obtain ⟨_, _, ⟨T28, L28, k28, n28⟩, -, X28, ⟨Lc28, hQ28, l28, y28, z28⟩, st28⟩ := Jvm.LawKit.callS X0 hx (y := (⟨"com/example/sealtrail/sealtrail/EncryptionOfPinLaw", "expectedFor", "(I)Lcom/example/sealtrail/sealtrail/Encryption;"⟩ : MethodName)) hown (mvT hZ (hw _ (List.mem_of_getElem? (i := 0) rfl))) (mvT hZ (hw _ (List.mem_of_getElem? (i := 1) rfl))) (mvT hZ (hw _ (List.mem_of_getElem? (i := 2) rfl))) (mvT hZ (hw _ (List.mem_of_getElem? (i := 3) rfl))) (by decide) (backOf (W := 0) (rm_exp l Z a0 hw [] (0 : Int32) h0 n0 Z0 a_NONE S_NONE a_SYMMETRIC S_SYMMETRIC a_SEALTRAIL_KEY S_SEALTRAIL_KEY a_VIEWER_KEY S_VIEWER_KEY a_CLIENT_KEY S_CLIENT_KEY (.ref a_NONE) (by first | rfl | simp [own_exp])) hZ (hw _ (List.mem_of_getElem? (i := 3) rfl)) (hw _ (List.mem_of_getElem? (i := 2) rfl)) (by decide) (by decide)) (g := (mkF m 18 #[.val (.int p1), .val (.int p2), .val (.int (0 : Int32)), .unset, .unset] [(.int (0 : Int32))])) rfl (by rw [hml]; rfl) (argsL := [(.int (0 : Int32))]) (rest := []) (lenOf pd_1 rfl) rfl (by show 2 * 0 + _ ≤ _; exact Nat.le_of_eq rfl) (hb hby at_18) (fun _ _ => ⟨rfl, e0, (by decide : 0 + 0 ≤ _), (by decide : 0 + 0 ≤ _)⟩)
      dsimp only [Pt.U, Pt.locs, Pt.cells, Pt.slots] at X28 l28 y28 z28 st28 hQ28
      subst l28 y28 z28
      obtain ⟨rfl, N28q, e28⟩ := hQ28
      have N28 := Fr.app N0 N28q
      obtain ⟨_, _, ⟨T29, L29, k29, n29⟩, -, X29, ⟨Lc29, hQ29, l29, y29, z29⟩, st29⟩ := Jvm.LawKit.callS X28 hx (y := (⟨"com/example/sealtrail/sealtrail/Encryption", "of", "(I)Lcom/example/sealtrail/sealtrail/Encryption;"⟩ : MethodName)) hown (mvT hZ (hw _ (List.mem_of_getElem? (i := 7) rfl))) (mvT hZ (hw _ (List.mem_of_getElem? (i := 8) rfl))) (mvT hZ (hw _ (List.mem_of_getElem? (i := 5) rfl))) (mvT hZ (hw _ (List.mem_of_getElem? (i := 9) rfl))) (by decide) (backOf (W := 0) (rm_of_ref l Z a0 hw [] (0 : Int32) h0 n0 Z0 aB S_BY clB ArB SzB (by decide) (by decide) a_NONE el_0) hZ (hw _ (List.mem_of_getElem? (i := 9) rfl)) (hw _ (List.mem_of_getElem? (i := 5) rfl)) (by decide) (by decide)) (g := (mkF m 23 #[.val (.int p1), .val (.int p2), .val (.int (0 : Int32)), .val (.ref a_NONE), .unset] [(.int (0 : Int32))])) rfl (by rw [hml]; rfl) (argsL := [(.int (0 : Int32))]) (rest := []) (lenOf pd_1 rfl) rfl (by show 2 * 0 + _ ≤ _; exact Nat.le_of_eq rfl) (hb hby at_23) (fun _ _ => ⟨rfl, e28, (by decide : 0 + 0 ≤ _), (by decide : 0 + 0 ≤ _)⟩)
      dsimp only [Pt.U, Pt.locs, Pt.cells, Pt.slots] at X29 l29 y29 z29 st29 hQ29
      subst l29 y29 z29
      obtain ⟨rfl, N29q, e29⟩ := hQ29
      have N29 := Fr.app N28 N29q
      obtain ⟨cq30, kq30, q30a, q30b, q30c⟩ := isOf hZ e29 E_NONE
      obtain ⟨_, _, ⟨T30, L30, k30, n30⟩, -, X30, ⟨Lc30, hQ30, l30, y30, z30⟩, st30⟩ := X29.virtualBack hx (y := (⟨"com/example/sealtrail/sealtrail/Encryption", "code", "()I"⟩ : MethodName)) (z := (⟨"com/example/sealtrail/sealtrail/Encryption", "code", "()I"⟩ : MethodName)) hown (mvT hZ (hw _ (List.mem_of_getElem? (i := 12) rfl))) (mvT hZ (hw _ (List.mem_of_getElem? (i := 13) rfl))) (notFace_of_selects (args := #[]) (mvT hZ (hw _ (List.mem_of_getElem? (i := 15) rfl)))) (mvT hZ (hw _ (List.mem_of_getElem? (i := 15) rfl))) (mvT hZ (hw _ (List.mem_of_getElem? (i := 14) rfl))) (by decide) (backOf (W := 0) (rm_code l Z a0 hw [] a_NONE h0 n0 Z0 (0 : Int32) F_NONE_ordinal E_NONE) hZ (hw _ (List.mem_of_getElem? (i := 16) rfl)) (hw _ (List.mem_of_getElem? (i := 5) rfl)) (by decide) (by decide)) q30a q30c (g := (mkF m 43 #[.val (.int p1), .val (.int p2), .val (.int (0 : Int32)), .val (.ref a_NONE), .val (.ref a_NONE)] [(.ref a_NONE)])) rfl (by rw [hml]; rfl) (Steps.refl _) (argsL := []) (rest := []) (lenOf pd_0 rfl) rfl (by show 2 * 0 + _ ≤ _; exact Nat.le_of_eq rfl) (hb hby at_43) (fun _ _ => ⟨rfl, e29, (by decide : 0 + 0 ≤ _), (by decide : 0 + 0 ≤ _)⟩)
      dsimp only [Pt.U, Pt.locs, Pt.cells, Pt.slots] at X30 l30 y30 z30 st30 hQ30
      subst l30 y30 z30
      obtain ⟨rfl, N30q, e30⟩ := hQ30
      have N30 := Fr.app N29 N30q
      have pre31 : ∀ t, Steps p.tables e below (T30.setTop (mkF m 53 #[.val (.int p1), .val (.int p2), .val (.int (0 : Int32)), .val (.ref a_NONE), .val (.ref a_NONE)] [(.int (1 : Int32))])) t → Steps p.tables e below (s₁.setTop (entryFrame m #[(.int p1), (.int p2)] maxLocals)) t := fun t k => pre27 t (by
        show Steps p.tables e below (s₁.setTop (mkF m 16 #[.val (.int p1), .val (.int p2), .unset, .unset, .unset] [(.int p1)])) _
        refine castTop (g' := (mkF m 16 #[.val (.int p1), .val (.int p2), .unset, .unset, .unset] [(.int (0 : Int32))])) (by rw [hk]) ?_
        show Steps p.tables e below (s₁.setTop (mkF m 16 #[.val (.int p1), .val (.int p2), .unset, .unset, .unset] [(.int (0 : Int32))])) _
        refine XS.istoreN X0.here hx rfl (hb hby at_16) rfl (l' := #[.val (.int p1), .val (.int p2), .val (.int (0 : Int32)), .unset, .unset]) rfl ?_
        show Steps p.tables e below (s₁.setTop (mkF m 17 #[.val (.int p1), .val (.int p2), .val (.int (0 : Int32)), .unset, .unset] [])) _
        refine XS.iloadN X0.here hx rfl (hb hby at_17) rfl ?_
        show Steps p.tables e below (s₁.setTop (mkF m 18 #[.val (.int p1), .val (.int p2), .val (.int (0 : Int32)), .unset, .unset] [(.int (0 : Int32))])) _
        refine st28 _ ?_
        show Steps p.tables e below (T28.setTop (mkF m 21 #[.val (.int p1), .val (.int p2), .val (.int (0 : Int32)), .unset, .unset] [(.ref a_NONE)])) _
        refine XS.astoreN X28.here hx rfl (hb hby at_21) rfl rfl (l' := #[.val (.int p1), .val (.int p2), .val (.int (0 : Int32)), .val (.ref a_NONE), .unset]) rfl ?_
        show Steps p.tables e below (T28.setTop (mkF m 22 #[.val (.int p1), .val (.int p2), .val (.int (0 : Int32)), .val (.ref a_NONE), .unset] [])) _
        refine XS.iloadN X28.here hx rfl (hb hby at_22) rfl ?_
        show Steps p.tables e below (T28.setTop (mkF m 23 #[.val (.int p1), .val (.int p2), .val (.int (0 : Int32)), .val (.ref a_NONE), .unset] [(.int (0 : Int32))])) _
        refine st29 _ ?_
        show Steps p.tables e below (T29.setTop (mkF m 26 #[.val (.int p1), .val (.int p2), .val (.int (0 : Int32)), .val (.ref a_NONE), .unset] [(.ref a_NONE)])) _
        refine XS.astore X29.here hx rfl (hb hby at_26) rfl rfl (l' := #[.val (.int p1), .val (.int p2), .val (.int (0 : Int32)), .val (.ref a_NONE), .val (.ref a_NONE)]) rfl ?_
        show Steps p.tables e below (T29.setTop (mkF m 28 #[.val (.int p1), .val (.int p2), .val (.int (0 : Int32)), .val (.ref a_NONE), .val (.ref a_NONE)] [])) _
        refine XS.aload X29.here hx rfl (hb hby at_28) rfl rfl ?_
        show Steps p.tables e below (T29.setTop (mkF m 30 #[.val (.int p1), .val (.int p2), .val (.int (0 : Int32)), .val (.ref a_NONE), .val (.ref a_NONE)] [(.ref a_NONE)])) _
        refine XS.aloadN X29.here hx rfl (hb hby at_30) rfl rfl ?_
        show Steps p.tables e below (T29.setTop (mkF m 31 #[.val (.int p1), .val (.int p2), .val (.int (0 : Int32)), .val (.ref a_NONE), .val (.ref a_NONE)] [(.ref a_NONE), (.ref a_NONE)])) _
        refine Jvm.RoadKit.acmp (g := (mkF m 31 #[.val (.int p1), .val (.int p2), .val (.int (0 : Int32)), .val (.ref a_NONE), .val (.ref a_NONE)] [(.ref a_NONE), (.ref a_NONE)])) X29 hx rfl rfl rfl (pc0 := 31) (pc' := 36) (same := true) rfl (hb hby at_31) rfl (decide_eq_true rfl) (by decide) (by decide) ?_
        show Steps p.tables e below (T29.setTop (mkF m 36 #[.val (.int p1), .val (.int p2), .val (.int (0 : Int32)), .val (.ref a_NONE), .val (.ref a_NONE)] [])) _
        refine XS.aload X29.here hx rfl (hb hby at_36) rfl rfl ?_
        show Steps p.tables e below (T29.setTop (mkF m 38 #[.val (.int p1), .val (.int p2), .val (.int (0 : Int32)), .val (.ref a_NONE), .val (.ref a_NONE)] [(.ref a_NONE)])) _
        refine XS.ifnullNo X29.here hx rfl (hb hby at_38) rfl ?_
        show Steps p.tables e below (T29.setTop (mkF m 41 #[.val (.int p1), .val (.int p2), .val (.int (0 : Int32)), .val (.ref a_NONE), .val (.ref a_NONE)] [])) _
        refine XS.aload X29.here hx rfl (hb hby at_41) rfl rfl ?_
        show Steps p.tables e below (T29.setTop (mkF m 43 #[.val (.int p1), .val (.int p2), .val (.int (0 : Int32)), .val (.ref a_NONE), .val (.ref a_NONE)] [(.ref a_NONE)])) _
        refine st30.trans ?_
        show Steps p.tables e below (T30.setTop (mkF m 46 #[.val (.int p1), .val (.int p2), .val (.int (0 : Int32)), .val (.ref a_NONE), .val (.ref a_NONE)] [(.int (0 : Int32))])) _
        refine XS.iloadN X30.here hx rfl (hb hby at_46) rfl ?_
        show Steps p.tables e below (T30.setTop (mkF m 47 #[.val (.int p1), .val (.int p2), .val (.int (0 : Int32)), .val (.ref a_NONE), .val (.ref a_NONE)] [(.int (0 : Int32)), (.int (0 : Int32))])) _
        refine XS.icmpYes X30.here hx rfl (pc0 := 47) (pc' := 52) rfl (hb hby at_47) rfl (teq (by decide : ((0 : Int32) = (0 : Int32)))).1 (by decide) (by decide) ?_
        show Steps p.tables e below (T30.setTop (mkF m 52 #[.val (.int p1), .val (.int p2), .val (.int (0 : Int32)), .val (.ref a_NONE), .val (.ref a_NONE)] [])) _
        refine XT.iconstV X30.here hx rfl (1 : Int32) (hb hby at_52) (by decide) ?_
        exact k)
      obtain ⟨fs, hr, hrun, hended, hW, hsame⟩ := X30.leave (v := some (.int (1 : Int32))) (fun h => by rw [Bd.returns] at h; cases h)
      refine ⟨_, _, pre31 _ ?_, hrun, hended, _, _, rfl, ?_, ⟨_, rfl⟩, hW, hsame.mono (by decide) (by decide)⟩
      · show Steps p.tables e below (T30.setTop (mkF m 53 #[.val (.int p1), .val (.int p2), .val (.int (0 : Int32)), .val (.ref a_NONE), .val (.ref a_NONE)] [(.int (1 : Int32))])) _
        exact retOut X30 hx Bd.returns rfl (Or.inl ⟨rfl, by simp, _, rfl⟩) (hb hby at_53) hr
      · show Q0 Z p1 p2  h0 n0 _ T30.heap _
        rw [e30]
        exact ⟨rfl, N30⟩
    · have _ := 0
      obtain ⟨_, _, ⟨T32, L32, k32, n32⟩, -, X32, ⟨Lc32, hQ32, l32, y32, z32⟩, st32⟩ := Jvm.LawKit.callS X0 hx (y := (⟨"com/example/sealtrail/sealtrail/EncryptionOfPinLaw", "expectedFor", "(I)Lcom/example/sealtrail/sealtrail/Encryption;"⟩ : MethodName)) hown (mvT hZ (hw _ (List.mem_of_getElem? (i := 0) rfl))) (mvT hZ (hw _ (List.mem_of_getElem? (i := 1) rfl))) (mvT hZ (hw _ (List.mem_of_getElem? (i := 2) rfl))) (mvT hZ (hw _ (List.mem_of_getElem? (i := 3) rfl))) (by decide) (backOf (W := 0) (rm_exp l Z a0 hw [] (1 : Int32) h0 n0 Z0 a_NONE S_NONE a_SYMMETRIC S_SYMMETRIC a_SEALTRAIL_KEY S_SEALTRAIL_KEY a_VIEWER_KEY S_VIEWER_KEY a_CLIENT_KEY S_CLIENT_KEY (.ref a_SYMMETRIC) (by first | rfl | simp [own_exp])) hZ (hw _ (List.mem_of_getElem? (i := 3) rfl)) (hw _ (List.mem_of_getElem? (i := 2) rfl)) (by decide) (by decide)) (g := (mkF m 18 #[.val (.int p1), .val (.int p2), .val (.int (1 : Int32)), .unset, .unset] [(.int (1 : Int32))])) rfl (by rw [hml]; rfl) (argsL := [(.int (1 : Int32))]) (rest := []) (lenOf pd_1 rfl) rfl (by show 2 * 0 + _ ≤ _; exact Nat.le_of_eq rfl) (hb hby at_18) (fun _ _ => ⟨rfl, e0, (by decide : 0 + 0 ≤ _), (by decide : 0 + 0 ≤ _)⟩)
      dsimp only [Pt.U, Pt.locs, Pt.cells, Pt.slots] at X32 l32 y32 z32 st32 hQ32
      subst l32 y32 z32
      obtain ⟨rfl, N32q, e32⟩ := hQ32
      have N32 := Fr.app N0 N32q
      obtain ⟨_, _, ⟨T33, L33, k33, n33⟩, -, X33, ⟨Lc33, hQ33, l33, y33, z33⟩, st33⟩ := Jvm.LawKit.callS X32 hx (y := (⟨"com/example/sealtrail/sealtrail/Encryption", "of", "(I)Lcom/example/sealtrail/sealtrail/Encryption;"⟩ : MethodName)) hown (mvT hZ (hw _ (List.mem_of_getElem? (i := 7) rfl))) (mvT hZ (hw _ (List.mem_of_getElem? (i := 8) rfl))) (mvT hZ (hw _ (List.mem_of_getElem? (i := 5) rfl))) (mvT hZ (hw _ (List.mem_of_getElem? (i := 9) rfl))) (by decide) (backOf (W := 0) (rm_of_ref l Z a0 hw [] (1 : Int32) h0 n0 Z0 aB S_BY clB ArB SzB (by decide) (by decide) a_SYMMETRIC el_1) hZ (hw _ (List.mem_of_getElem? (i := 9) rfl)) (hw _ (List.mem_of_getElem? (i := 5) rfl)) (by decide) (by decide)) (g := (mkF m 23 #[.val (.int p1), .val (.int p2), .val (.int (1 : Int32)), .val (.ref a_SYMMETRIC), .unset] [(.int (1 : Int32))])) rfl (by rw [hml]; rfl) (argsL := [(.int (1 : Int32))]) (rest := []) (lenOf pd_1 rfl) rfl (by show 2 * 0 + _ ≤ _; exact Nat.le_of_eq rfl) (hb hby at_23) (fun _ _ => ⟨rfl, e32, (by decide : 0 + 0 ≤ _), (by decide : 0 + 0 ≤ _)⟩)
      dsimp only [Pt.U, Pt.locs, Pt.cells, Pt.slots] at X33 l33 y33 z33 st33 hQ33
      subst l33 y33 z33
      obtain ⟨rfl, N33q, e33⟩ := hQ33
      have N33 := Fr.app N32 N33q
      obtain ⟨cq34, kq34, q34a, q34b, q34c⟩ := isOf hZ e33 E_SYMMETRIC
      obtain ⟨_, _, ⟨T34, L34, k34, n34⟩, -, X34, ⟨Lc34, hQ34, l34, y34, z34⟩, st34⟩ := X33.virtualBack hx (y := (⟨"com/example/sealtrail/sealtrail/Encryption", "code", "()I"⟩ : MethodName)) (z := (⟨"com/example/sealtrail/sealtrail/Encryption", "code", "()I"⟩ : MethodName)) hown (mvT hZ (hw _ (List.mem_of_getElem? (i := 12) rfl))) (mvT hZ (hw _ (List.mem_of_getElem? (i := 13) rfl))) (notFace_of_selects (args := #[]) (mvT hZ (hw _ (List.mem_of_getElem? (i := 15) rfl)))) (mvT hZ (hw _ (List.mem_of_getElem? (i := 15) rfl))) (mvT hZ (hw _ (List.mem_of_getElem? (i := 14) rfl))) (by decide) (backOf (W := 0) (rm_code l Z a0 hw [] a_SYMMETRIC h0 n0 Z0 (1 : Int32) F_SYMMETRIC_ordinal E_SYMMETRIC) hZ (hw _ (List.mem_of_getElem? (i := 16) rfl)) (hw _ (List.mem_of_getElem? (i := 5) rfl)) (by decide) (by decide)) q34a q34c (g := (mkF m 43 #[.val (.int p1), .val (.int p2), .val (.int (1 : Int32)), .val (.ref a_SYMMETRIC), .val (.ref a_SYMMETRIC)] [(.ref a_SYMMETRIC)])) rfl (by rw [hml]; rfl) (Steps.refl _) (argsL := []) (rest := []) (lenOf pd_0 rfl) rfl (by show 2 * 0 + _ ≤ _; exact Nat.le_of_eq rfl) (hb hby at_43) (fun _ _ => ⟨rfl, e33, (by decide : 0 + 0 ≤ _), (by decide : 0 + 0 ≤ _)⟩)
      dsimp only [Pt.U, Pt.locs, Pt.cells, Pt.slots] at X34 l34 y34 z34 st34 hQ34
      subst l34 y34 z34
      obtain ⟨rfl, N34q, e34⟩ := hQ34
      have N34 := Fr.app N33 N34q
      have pre35 : ∀ t, Steps p.tables e below (T34.setTop (mkF m 53 #[.val (.int p1), .val (.int p2), .val (.int (1 : Int32)), .val (.ref a_SYMMETRIC), .val (.ref a_SYMMETRIC)] [(.int (1 : Int32))])) t → Steps p.tables e below (s₁.setTop (entryFrame m #[(.int p1), (.int p2)] maxLocals)) t := fun t k => pre27 t (by
        show Steps p.tables e below (s₁.setTop (mkF m 16 #[.val (.int p1), .val (.int p2), .unset, .unset, .unset] [(.int p1)])) _
        refine castTop (g' := (mkF m 16 #[.val (.int p1), .val (.int p2), .unset, .unset, .unset] [(.int (1 : Int32))])) (by rw [hk]) ?_
        show Steps p.tables e below (s₁.setTop (mkF m 16 #[.val (.int p1), .val (.int p2), .unset, .unset, .unset] [(.int (1 : Int32))])) _
        refine XS.istoreN X0.here hx rfl (hb hby at_16) rfl (l' := #[.val (.int p1), .val (.int p2), .val (.int (1 : Int32)), .unset, .unset]) rfl ?_
        show Steps p.tables e below (s₁.setTop (mkF m 17 #[.val (.int p1), .val (.int p2), .val (.int (1 : Int32)), .unset, .unset] [])) _
        refine XS.iloadN X0.here hx rfl (hb hby at_17) rfl ?_
        show Steps p.tables e below (s₁.setTop (mkF m 18 #[.val (.int p1), .val (.int p2), .val (.int (1 : Int32)), .unset, .unset] [(.int (1 : Int32))])) _
        refine st32 _ ?_
        show Steps p.tables e below (T32.setTop (mkF m 21 #[.val (.int p1), .val (.int p2), .val (.int (1 : Int32)), .unset, .unset] [(.ref a_SYMMETRIC)])) _
        refine XS.astoreN X32.here hx rfl (hb hby at_21) rfl rfl (l' := #[.val (.int p1), .val (.int p2), .val (.int (1 : Int32)), .val (.ref a_SYMMETRIC), .unset]) rfl ?_
        show Steps p.tables e below (T32.setTop (mkF m 22 #[.val (.int p1), .val (.int p2), .val (.int (1 : Int32)), .val (.ref a_SYMMETRIC), .unset] [])) _
        refine XS.iloadN X32.here hx rfl (hb hby at_22) rfl ?_
        show Steps p.tables e below (T32.setTop (mkF m 23 #[.val (.int p1), .val (.int p2), .val (.int (1 : Int32)), .val (.ref a_SYMMETRIC), .unset] [(.int (1 : Int32))])) _
        refine st33 _ ?_
        show Steps p.tables e below (T33.setTop (mkF m 26 #[.val (.int p1), .val (.int p2), .val (.int (1 : Int32)), .val (.ref a_SYMMETRIC), .unset] [(.ref a_SYMMETRIC)])) _
        refine XS.astore X33.here hx rfl (hb hby at_26) rfl rfl (l' := #[.val (.int p1), .val (.int p2), .val (.int (1 : Int32)), .val (.ref a_SYMMETRIC), .val (.ref a_SYMMETRIC)]) rfl ?_
        show Steps p.tables e below (T33.setTop (mkF m 28 #[.val (.int p1), .val (.int p2), .val (.int (1 : Int32)), .val (.ref a_SYMMETRIC), .val (.ref a_SYMMETRIC)] [])) _
        refine XS.aload X33.here hx rfl (hb hby at_28) rfl rfl ?_
        show Steps p.tables e below (T33.setTop (mkF m 30 #[.val (.int p1), .val (.int p2), .val (.int (1 : Int32)), .val (.ref a_SYMMETRIC), .val (.ref a_SYMMETRIC)] [(.ref a_SYMMETRIC)])) _
        refine XS.aloadN X33.here hx rfl (hb hby at_30) rfl rfl ?_
        show Steps p.tables e below (T33.setTop (mkF m 31 #[.val (.int p1), .val (.int p2), .val (.int (1 : Int32)), .val (.ref a_SYMMETRIC), .val (.ref a_SYMMETRIC)] [(.ref a_SYMMETRIC), (.ref a_SYMMETRIC)])) _
        refine Jvm.RoadKit.acmp (g := (mkF m 31 #[.val (.int p1), .val (.int p2), .val (.int (1 : Int32)), .val (.ref a_SYMMETRIC), .val (.ref a_SYMMETRIC)] [(.ref a_SYMMETRIC), (.ref a_SYMMETRIC)])) X33 hx rfl rfl rfl (pc0 := 31) (pc' := 36) (same := true) rfl (hb hby at_31) rfl (decide_eq_true rfl) (by decide) (by decide) ?_
        show Steps p.tables e below (T33.setTop (mkF m 36 #[.val (.int p1), .val (.int p2), .val (.int (1 : Int32)), .val (.ref a_SYMMETRIC), .val (.ref a_SYMMETRIC)] [])) _
        refine XS.aload X33.here hx rfl (hb hby at_36) rfl rfl ?_
        show Steps p.tables e below (T33.setTop (mkF m 38 #[.val (.int p1), .val (.int p2), .val (.int (1 : Int32)), .val (.ref a_SYMMETRIC), .val (.ref a_SYMMETRIC)] [(.ref a_SYMMETRIC)])) _
        refine XS.ifnullNo X33.here hx rfl (hb hby at_38) rfl ?_
        show Steps p.tables e below (T33.setTop (mkF m 41 #[.val (.int p1), .val (.int p2), .val (.int (1 : Int32)), .val (.ref a_SYMMETRIC), .val (.ref a_SYMMETRIC)] [])) _
        refine XS.aload X33.here hx rfl (hb hby at_41) rfl rfl ?_
        show Steps p.tables e below (T33.setTop (mkF m 43 #[.val (.int p1), .val (.int p2), .val (.int (1 : Int32)), .val (.ref a_SYMMETRIC), .val (.ref a_SYMMETRIC)] [(.ref a_SYMMETRIC)])) _
        refine st34.trans ?_
        show Steps p.tables e below (T34.setTop (mkF m 46 #[.val (.int p1), .val (.int p2), .val (.int (1 : Int32)), .val (.ref a_SYMMETRIC), .val (.ref a_SYMMETRIC)] [(.int (1 : Int32))])) _
        refine XS.iloadN X34.here hx rfl (hb hby at_46) rfl ?_
        show Steps p.tables e below (T34.setTop (mkF m 47 #[.val (.int p1), .val (.int p2), .val (.int (1 : Int32)), .val (.ref a_SYMMETRIC), .val (.ref a_SYMMETRIC)] [(.int (1 : Int32)), (.int (1 : Int32))])) _
        refine XS.icmpYes X34.here hx rfl (pc0 := 47) (pc' := 52) rfl (hb hby at_47) rfl (teq (by decide : ((1 : Int32) = (1 : Int32)))).1 (by decide) (by decide) ?_
        show Steps p.tables e below (T34.setTop (mkF m 52 #[.val (.int p1), .val (.int p2), .val (.int (1 : Int32)), .val (.ref a_SYMMETRIC), .val (.ref a_SYMMETRIC)] [])) _
        refine XT.iconstV X34.here hx rfl (1 : Int32) (hb hby at_52) (by decide) ?_
        exact k)
      obtain ⟨fs, hr, hrun, hended, hW, hsame⟩ := X34.leave (v := some (.int (1 : Int32))) (fun h => by rw [Bd.returns] at h; cases h)
      refine ⟨_, _, pre35 _ ?_, hrun, hended, _, _, rfl, ?_, ⟨_, rfl⟩, hW, hsame.mono (by decide) (by decide)⟩
      · show Steps p.tables e below (T34.setTop (mkF m 53 #[.val (.int p1), .val (.int p2), .val (.int (1 : Int32)), .val (.ref a_SYMMETRIC), .val (.ref a_SYMMETRIC)] [(.int (1 : Int32))])) _
        exact retOut X34 hx Bd.returns rfl (Or.inl ⟨rfl, by simp, _, rfl⟩) (hb hby at_53) hr
      · show Q0 Z p1 p2  h0 n0 _ T34.heap _
        rw [e34]
        exact ⟨rfl, N34⟩
    · have _ := 0
      obtain ⟨_, _, ⟨T36, L36, k36, n36⟩, -, X36, ⟨Lc36, hQ36, l36, y36, z36⟩, st36⟩ := Jvm.LawKit.callS X0 hx (y := (⟨"com/example/sealtrail/sealtrail/EncryptionOfPinLaw", "expectedFor", "(I)Lcom/example/sealtrail/sealtrail/Encryption;"⟩ : MethodName)) hown (mvT hZ (hw _ (List.mem_of_getElem? (i := 0) rfl))) (mvT hZ (hw _ (List.mem_of_getElem? (i := 1) rfl))) (mvT hZ (hw _ (List.mem_of_getElem? (i := 2) rfl))) (mvT hZ (hw _ (List.mem_of_getElem? (i := 3) rfl))) (by decide) (backOf (W := 0) (rm_exp l Z a0 hw [] (2 : Int32) h0 n0 Z0 a_NONE S_NONE a_SYMMETRIC S_SYMMETRIC a_SEALTRAIL_KEY S_SEALTRAIL_KEY a_VIEWER_KEY S_VIEWER_KEY a_CLIENT_KEY S_CLIENT_KEY (.ref a_SEALTRAIL_KEY) (by first | rfl | simp [own_exp])) hZ (hw _ (List.mem_of_getElem? (i := 3) rfl)) (hw _ (List.mem_of_getElem? (i := 2) rfl)) (by decide) (by decide)) (g := (mkF m 18 #[.val (.int p1), .val (.int p2), .val (.int (2 : Int32)), .unset, .unset] [(.int (2 : Int32))])) rfl (by rw [hml]; rfl) (argsL := [(.int (2 : Int32))]) (rest := []) (lenOf pd_1 rfl) rfl (by show 2 * 0 + _ ≤ _; exact Nat.le_of_eq rfl) (hb hby at_18) (fun _ _ => ⟨rfl, e0, (by decide : 0 + 0 ≤ _), (by decide : 0 + 0 ≤ _)⟩)
      dsimp only [Pt.U, Pt.locs, Pt.cells, Pt.slots] at X36 l36 y36 z36 st36 hQ36
      subst l36 y36 z36
      obtain ⟨rfl, N36q, e36⟩ := hQ36
      have N36 := Fr.app N0 N36q
      obtain ⟨_, _, ⟨T37, L37, k37, n37⟩, -, X37, ⟨Lc37, hQ37, l37, y37, z37⟩, st37⟩ := Jvm.LawKit.callS X36 hx (y := (⟨"com/example/sealtrail/sealtrail/Encryption", "of", "(I)Lcom/example/sealtrail/sealtrail/Encryption;"⟩ : MethodName)) hown (mvT hZ (hw _ (List.mem_of_getElem? (i := 7) rfl))) (mvT hZ (hw _ (List.mem_of_getElem? (i := 8) rfl))) (mvT hZ (hw _ (List.mem_of_getElem? (i := 5) rfl))) (mvT hZ (hw _ (List.mem_of_getElem? (i := 9) rfl))) (by decide) (backOf (W := 0) (rm_of_ref l Z a0 hw [] (2 : Int32) h0 n0 Z0 aB S_BY clB ArB SzB (by decide) (by decide) a_SEALTRAIL_KEY el_2) hZ (hw _ (List.mem_of_getElem? (i := 9) rfl)) (hw _ (List.mem_of_getElem? (i := 5) rfl)) (by decide) (by decide)) (g := (mkF m 23 #[.val (.int p1), .val (.int p2), .val (.int (2 : Int32)), .val (.ref a_SEALTRAIL_KEY), .unset] [(.int (2 : Int32))])) rfl (by rw [hml]; rfl) (argsL := [(.int (2 : Int32))]) (rest := []) (lenOf pd_1 rfl) rfl (by show 2 * 0 + _ ≤ _; exact Nat.le_of_eq rfl) (hb hby at_23) (fun _ _ => ⟨rfl, e36, (by decide : 0 + 0 ≤ _), (by decide : 0 + 0 ≤ _)⟩)
      dsimp only [Pt.U, Pt.locs, Pt.cells, Pt.slots] at X37 l37 y37 z37 st37 hQ37
      subst l37 y37 z37
      obtain ⟨rfl, N37q, e37⟩ := hQ37
      have N37 := Fr.app N36 N37q
      obtain ⟨cq38, kq38, q38a, q38b, q38c⟩ := isOf hZ e37 E_SEALTRAIL_KEY
      obtain ⟨_, _, ⟨T38, L38, k38, n38⟩, -, X38, ⟨Lc38, hQ38, l38, y38, z38⟩, st38⟩ := X37.virtualBack hx (y := (⟨"com/example/sealtrail/sealtrail/Encryption", "code", "()I"⟩ : MethodName)) (z := (⟨"com/example/sealtrail/sealtrail/Encryption", "code", "()I"⟩ : MethodName)) hown (mvT hZ (hw _ (List.mem_of_getElem? (i := 12) rfl))) (mvT hZ (hw _ (List.mem_of_getElem? (i := 13) rfl))) (notFace_of_selects (args := #[]) (mvT hZ (hw _ (List.mem_of_getElem? (i := 15) rfl)))) (mvT hZ (hw _ (List.mem_of_getElem? (i := 15) rfl))) (mvT hZ (hw _ (List.mem_of_getElem? (i := 14) rfl))) (by decide) (backOf (W := 0) (rm_code l Z a0 hw [] a_SEALTRAIL_KEY h0 n0 Z0 (2 : Int32) F_SEALTRAIL_KEY_ordinal E_SEALTRAIL_KEY) hZ (hw _ (List.mem_of_getElem? (i := 16) rfl)) (hw _ (List.mem_of_getElem? (i := 5) rfl)) (by decide) (by decide)) q38a q38c (g := (mkF m 43 #[.val (.int p1), .val (.int p2), .val (.int (2 : Int32)), .val (.ref a_SEALTRAIL_KEY), .val (.ref a_SEALTRAIL_KEY)] [(.ref a_SEALTRAIL_KEY)])) rfl (by rw [hml]; rfl) (Steps.refl _) (argsL := []) (rest := []) (lenOf pd_0 rfl) rfl (by show 2 * 0 + _ ≤ _; exact Nat.le_of_eq rfl) (hb hby at_43) (fun _ _ => ⟨rfl, e37, (by decide : 0 + 0 ≤ _), (by decide : 0 + 0 ≤ _)⟩)
      dsimp only [Pt.U, Pt.locs, Pt.cells, Pt.slots] at X38 l38 y38 z38 st38 hQ38
      subst l38 y38 z38
      obtain ⟨rfl, N38q, e38⟩ := hQ38
      have N38 := Fr.app N37 N38q
      have pre39 : ∀ t, Steps p.tables e below (T38.setTop (mkF m 53 #[.val (.int p1), .val (.int p2), .val (.int (2 : Int32)), .val (.ref a_SEALTRAIL_KEY), .val (.ref a_SEALTRAIL_KEY)] [(.int (1 : Int32))])) t → Steps p.tables e below (s₁.setTop (entryFrame m #[(.int p1), (.int p2)] maxLocals)) t := fun t k => pre27 t (by
        show Steps p.tables e below (s₁.setTop (mkF m 16 #[.val (.int p1), .val (.int p2), .unset, .unset, .unset] [(.int p1)])) _
        refine castTop (g' := (mkF m 16 #[.val (.int p1), .val (.int p2), .unset, .unset, .unset] [(.int (2 : Int32))])) (by rw [hk]) ?_
        show Steps p.tables e below (s₁.setTop (mkF m 16 #[.val (.int p1), .val (.int p2), .unset, .unset, .unset] [(.int (2 : Int32))])) _
        refine XS.istoreN X0.here hx rfl (hb hby at_16) rfl (l' := #[.val (.int p1), .val (.int p2), .val (.int (2 : Int32)), .unset, .unset]) rfl ?_
        show Steps p.tables e below (s₁.setTop (mkF m 17 #[.val (.int p1), .val (.int p2), .val (.int (2 : Int32)), .unset, .unset] [])) _
        refine XS.iloadN X0.here hx rfl (hb hby at_17) rfl ?_
        show Steps p.tables e below (s₁.setTop (mkF m 18 #[.val (.int p1), .val (.int p2), .val (.int (2 : Int32)), .unset, .unset] [(.int (2 : Int32))])) _
        refine st36 _ ?_
        show Steps p.tables e below (T36.setTop (mkF m 21 #[.val (.int p1), .val (.int p2), .val (.int (2 : Int32)), .unset, .unset] [(.ref a_SEALTRAIL_KEY)])) _
        refine XS.astoreN X36.here hx rfl (hb hby at_21) rfl rfl (l' := #[.val (.int p1), .val (.int p2), .val (.int (2 : Int32)), .val (.ref a_SEALTRAIL_KEY), .unset]) rfl ?_
        show Steps p.tables e below (T36.setTop (mkF m 22 #[.val (.int p1), .val (.int p2), .val (.int (2 : Int32)), .val (.ref a_SEALTRAIL_KEY), .unset] [])) _
        refine XS.iloadN X36.here hx rfl (hb hby at_22) rfl ?_
        show Steps p.tables e below (T36.setTop (mkF m 23 #[.val (.int p1), .val (.int p2), .val (.int (2 : Int32)), .val (.ref a_SEALTRAIL_KEY), .unset] [(.int (2 : Int32))])) _
        refine st37 _ ?_
        show Steps p.tables e below (T37.setTop (mkF m 26 #[.val (.int p1), .val (.int p2), .val (.int (2 : Int32)), .val (.ref a_SEALTRAIL_KEY), .unset] [(.ref a_SEALTRAIL_KEY)])) _
        refine XS.astore X37.here hx rfl (hb hby at_26) rfl rfl (l' := #[.val (.int p1), .val (.int p2), .val (.int (2 : Int32)), .val (.ref a_SEALTRAIL_KEY), .val (.ref a_SEALTRAIL_KEY)]) rfl ?_
        show Steps p.tables e below (T37.setTop (mkF m 28 #[.val (.int p1), .val (.int p2), .val (.int (2 : Int32)), .val (.ref a_SEALTRAIL_KEY), .val (.ref a_SEALTRAIL_KEY)] [])) _
        refine XS.aload X37.here hx rfl (hb hby at_28) rfl rfl ?_
        show Steps p.tables e below (T37.setTop (mkF m 30 #[.val (.int p1), .val (.int p2), .val (.int (2 : Int32)), .val (.ref a_SEALTRAIL_KEY), .val (.ref a_SEALTRAIL_KEY)] [(.ref a_SEALTRAIL_KEY)])) _
        refine XS.aloadN X37.here hx rfl (hb hby at_30) rfl rfl ?_
        show Steps p.tables e below (T37.setTop (mkF m 31 #[.val (.int p1), .val (.int p2), .val (.int (2 : Int32)), .val (.ref a_SEALTRAIL_KEY), .val (.ref a_SEALTRAIL_KEY)] [(.ref a_SEALTRAIL_KEY), (.ref a_SEALTRAIL_KEY)])) _
        refine Jvm.RoadKit.acmp (g := (mkF m 31 #[.val (.int p1), .val (.int p2), .val (.int (2 : Int32)), .val (.ref a_SEALTRAIL_KEY), .val (.ref a_SEALTRAIL_KEY)] [(.ref a_SEALTRAIL_KEY), (.ref a_SEALTRAIL_KEY)])) X37 hx rfl rfl rfl (pc0 := 31) (pc' := 36) (same := true) rfl (hb hby at_31) rfl (decide_eq_true rfl) (by decide) (by decide) ?_
        show Steps p.tables e below (T37.setTop (mkF m 36 #[.val (.int p1), .val (.int p2), .val (.int (2 : Int32)), .val (.ref a_SEALTRAIL_KEY), .val (.ref a_SEALTRAIL_KEY)] [])) _
        refine XS.aload X37.here hx rfl (hb hby at_36) rfl rfl ?_
        show Steps p.tables e below (T37.setTop (mkF m 38 #[.val (.int p1), .val (.int p2), .val (.int (2 : Int32)), .val (.ref a_SEALTRAIL_KEY), .val (.ref a_SEALTRAIL_KEY)] [(.ref a_SEALTRAIL_KEY)])) _
        refine XS.ifnullNo X37.here hx rfl (hb hby at_38) rfl ?_
        show Steps p.tables e below (T37.setTop (mkF m 41 #[.val (.int p1), .val (.int p2), .val (.int (2 : Int32)), .val (.ref a_SEALTRAIL_KEY), .val (.ref a_SEALTRAIL_KEY)] [])) _
        refine XS.aload X37.here hx rfl (hb hby at_41) rfl rfl ?_
        show Steps p.tables e below (T37.setTop (mkF m 43 #[.val (.int p1), .val (.int p2), .val (.int (2 : Int32)), .val (.ref a_SEALTRAIL_KEY), .val (.ref a_SEALTRAIL_KEY)] [(.ref a_SEALTRAIL_KEY)])) _
        refine st38.trans ?_
        show Steps p.tables e below (T38.setTop (mkF m 46 #[.val (.int p1), .val (.int p2), .val (.int (2 : Int32)), .val (.ref a_SEALTRAIL_KEY), .val (.ref a_SEALTRAIL_KEY)] [(.int (2 : Int32))])) _
        refine XS.iloadN X38.here hx rfl (hb hby at_46) rfl ?_
        show Steps p.tables e below (T38.setTop (mkF m 47 #[.val (.int p1), .val (.int p2), .val (.int (2 : Int32)), .val (.ref a_SEALTRAIL_KEY), .val (.ref a_SEALTRAIL_KEY)] [(.int (2 : Int32)), (.int (2 : Int32))])) _
        refine XS.icmpYes X38.here hx rfl (pc0 := 47) (pc' := 52) rfl (hb hby at_47) rfl (teq (by decide : ((2 : Int32) = (2 : Int32)))).1 (by decide) (by decide) ?_
        show Steps p.tables e below (T38.setTop (mkF m 52 #[.val (.int p1), .val (.int p2), .val (.int (2 : Int32)), .val (.ref a_SEALTRAIL_KEY), .val (.ref a_SEALTRAIL_KEY)] [])) _
        refine XT.iconstV X38.here hx rfl (1 : Int32) (hb hby at_52) (by decide) ?_
        exact k)
      obtain ⟨fs, hr, hrun, hended, hW, hsame⟩ := X38.leave (v := some (.int (1 : Int32))) (fun h => by rw [Bd.returns] at h; cases h)
      refine ⟨_, _, pre39 _ ?_, hrun, hended, _, _, rfl, ?_, ⟨_, rfl⟩, hW, hsame.mono (by decide) (by decide)⟩
      · show Steps p.tables e below (T38.setTop (mkF m 53 #[.val (.int p1), .val (.int p2), .val (.int (2 : Int32)), .val (.ref a_SEALTRAIL_KEY), .val (.ref a_SEALTRAIL_KEY)] [(.int (1 : Int32))])) _
        exact retOut X38 hx Bd.returns rfl (Or.inl ⟨rfl, by simp, _, rfl⟩) (hb hby at_53) hr
      · show Q0 Z p1 p2  h0 n0 _ T38.heap _
        rw [e38]
        exact ⟨rfl, N38⟩
    · have _ := 0
      obtain ⟨_, _, ⟨T40, L40, k40, n40⟩, -, X40, ⟨Lc40, hQ40, l40, y40, z40⟩, st40⟩ := Jvm.LawKit.callS X0 hx (y := (⟨"com/example/sealtrail/sealtrail/EncryptionOfPinLaw", "expectedFor", "(I)Lcom/example/sealtrail/sealtrail/Encryption;"⟩ : MethodName)) hown (mvT hZ (hw _ (List.mem_of_getElem? (i := 0) rfl))) (mvT hZ (hw _ (List.mem_of_getElem? (i := 1) rfl))) (mvT hZ (hw _ (List.mem_of_getElem? (i := 2) rfl))) (mvT hZ (hw _ (List.mem_of_getElem? (i := 3) rfl))) (by decide) (backOf (W := 0) (rm_exp l Z a0 hw [] (3 : Int32) h0 n0 Z0 a_NONE S_NONE a_SYMMETRIC S_SYMMETRIC a_SEALTRAIL_KEY S_SEALTRAIL_KEY a_VIEWER_KEY S_VIEWER_KEY a_CLIENT_KEY S_CLIENT_KEY (.ref a_VIEWER_KEY) (by first | rfl | simp [own_exp])) hZ (hw _ (List.mem_of_getElem? (i := 3) rfl)) (hw _ (List.mem_of_getElem? (i := 2) rfl)) (by decide) (by decide)) (g := (mkF m 18 #[.val (.int p1), .val (.int p2), .val (.int (3 : Int32)), .unset, .unset] [(.int (3 : Int32))])) rfl (by rw [hml]; rfl) (argsL := [(.int (3 : Int32))]) (rest := []) (lenOf pd_1 rfl) rfl (by show 2 * 0 + _ ≤ _; exact Nat.le_of_eq rfl) (hb hby at_18) (fun _ _ => ⟨rfl, e0, (by decide : 0 + 0 ≤ _), (by decide : 0 + 0 ≤ _)⟩)
      dsimp only [Pt.U, Pt.locs, Pt.cells, Pt.slots] at X40 l40 y40 z40 st40 hQ40
      subst l40 y40 z40
      obtain ⟨rfl, N40q, e40⟩ := hQ40
      have N40 := Fr.app N0 N40q
      obtain ⟨_, _, ⟨T41, L41, k41, n41⟩, -, X41, ⟨Lc41, hQ41, l41, y41, z41⟩, st41⟩ := Jvm.LawKit.callS X40 hx (y := (⟨"com/example/sealtrail/sealtrail/Encryption", "of", "(I)Lcom/example/sealtrail/sealtrail/Encryption;"⟩ : MethodName)) hown (mvT hZ (hw _ (List.mem_of_getElem? (i := 7) rfl))) (mvT hZ (hw _ (List.mem_of_getElem? (i := 8) rfl))) (mvT hZ (hw _ (List.mem_of_getElem? (i := 5) rfl))) (mvT hZ (hw _ (List.mem_of_getElem? (i := 9) rfl))) (by decide) (backOf (W := 0) (rm_of_ref l Z a0 hw [] (3 : Int32) h0 n0 Z0 aB S_BY clB ArB SzB (by decide) (by decide) a_VIEWER_KEY el_3) hZ (hw _ (List.mem_of_getElem? (i := 9) rfl)) (hw _ (List.mem_of_getElem? (i := 5) rfl)) (by decide) (by decide)) (g := (mkF m 23 #[.val (.int p1), .val (.int p2), .val (.int (3 : Int32)), .val (.ref a_VIEWER_KEY), .unset] [(.int (3 : Int32))])) rfl (by rw [hml]; rfl) (argsL := [(.int (3 : Int32))]) (rest := []) (lenOf pd_1 rfl) rfl (by show 2 * 0 + _ ≤ _; exact Nat.le_of_eq rfl) (hb hby at_23) (fun _ _ => ⟨rfl, e40, (by decide : 0 + 0 ≤ _), (by decide : 0 + 0 ≤ _)⟩)
      dsimp only [Pt.U, Pt.locs, Pt.cells, Pt.slots] at X41 l41 y41 z41 st41 hQ41
      subst l41 y41 z41
      obtain ⟨rfl, N41q, e41⟩ := hQ41
      have N41 := Fr.app N40 N41q
      obtain ⟨cq42, kq42, q42a, q42b, q42c⟩ := isOf hZ e41 E_VIEWER_KEY
      obtain ⟨_, _, ⟨T42, L42, k42, n42⟩, -, X42, ⟨Lc42, hQ42, l42, y42, z42⟩, st42⟩ := X41.virtualBack hx (y := (⟨"com/example/sealtrail/sealtrail/Encryption", "code", "()I"⟩ : MethodName)) (z := (⟨"com/example/sealtrail/sealtrail/Encryption", "code", "()I"⟩ : MethodName)) hown (mvT hZ (hw _ (List.mem_of_getElem? (i := 12) rfl))) (mvT hZ (hw _ (List.mem_of_getElem? (i := 13) rfl))) (notFace_of_selects (args := #[]) (mvT hZ (hw _ (List.mem_of_getElem? (i := 15) rfl)))) (mvT hZ (hw _ (List.mem_of_getElem? (i := 15) rfl))) (mvT hZ (hw _ (List.mem_of_getElem? (i := 14) rfl))) (by decide) (backOf (W := 0) (rm_code l Z a0 hw [] a_VIEWER_KEY h0 n0 Z0 (3 : Int32) F_VIEWER_KEY_ordinal E_VIEWER_KEY) hZ (hw _ (List.mem_of_getElem? (i := 16) rfl)) (hw _ (List.mem_of_getElem? (i := 5) rfl)) (by decide) (by decide)) q42a q42c (g := (mkF m 43 #[.val (.int p1), .val (.int p2), .val (.int (3 : Int32)), .val (.ref a_VIEWER_KEY), .val (.ref a_VIEWER_KEY)] [(.ref a_VIEWER_KEY)])) rfl (by rw [hml]; rfl) (Steps.refl _) (argsL := []) (rest := []) (lenOf pd_0 rfl) rfl (by show 2 * 0 + _ ≤ _; exact Nat.le_of_eq rfl) (hb hby at_43) (fun _ _ => ⟨rfl, e41, (by decide : 0 + 0 ≤ _), (by decide : 0 + 0 ≤ _)⟩)
      dsimp only [Pt.U, Pt.locs, Pt.cells, Pt.slots] at X42 l42 y42 z42 st42 hQ42
      subst l42 y42 z42
      obtain ⟨rfl, N42q, e42⟩ := hQ42
      have N42 := Fr.app N41 N42q
      have pre43 : ∀ t, Steps p.tables e below (T42.setTop (mkF m 53 #[.val (.int p1), .val (.int p2), .val (.int (3 : Int32)), .val (.ref a_VIEWER_KEY), .val (.ref a_VIEWER_KEY)] [(.int (1 : Int32))])) t → Steps p.tables e below (s₁.setTop (entryFrame m #[(.int p1), (.int p2)] maxLocals)) t := fun t k => pre27 t (by
        show Steps p.tables e below (s₁.setTop (mkF m 16 #[.val (.int p1), .val (.int p2), .unset, .unset, .unset] [(.int p1)])) _
        refine castTop (g' := (mkF m 16 #[.val (.int p1), .val (.int p2), .unset, .unset, .unset] [(.int (3 : Int32))])) (by rw [hk]) ?_
        show Steps p.tables e below (s₁.setTop (mkF m 16 #[.val (.int p1), .val (.int p2), .unset, .unset, .unset] [(.int (3 : Int32))])) _
        refine XS.istoreN X0.here hx rfl (hb hby at_16) rfl (l' := #[.val (.int p1), .val (.int p2), .val (.int (3 : Int32)), .unset, .unset]) rfl ?_
        show Steps p.tables e below (s₁.setTop (mkF m 17 #[.val (.int p1), .val (.int p2), .val (.int (3 : Int32)), .unset, .unset] [])) _
        refine XS.iloadN X0.here hx rfl (hb hby at_17) rfl ?_
        show Steps p.tables e below (s₁.setTop (mkF m 18 #[.val (.int p1), .val (.int p2), .val (.int (3 : Int32)), .unset, .unset] [(.int (3 : Int32))])) _
        refine st40 _ ?_
        show Steps p.tables e below (T40.setTop (mkF m 21 #[.val (.int p1), .val (.int p2), .val (.int (3 : Int32)), .unset, .unset] [(.ref a_VIEWER_KEY)])) _
        refine XS.astoreN X40.here hx rfl (hb hby at_21) rfl rfl (l' := #[.val (.int p1), .val (.int p2), .val (.int (3 : Int32)), .val (.ref a_VIEWER_KEY), .unset]) rfl ?_
        show Steps p.tables e below (T40.setTop (mkF m 22 #[.val (.int p1), .val (.int p2), .val (.int (3 : Int32)), .val (.ref a_VIEWER_KEY), .unset] [])) _
        refine XS.iloadN X40.here hx rfl (hb hby at_22) rfl ?_
        show Steps p.tables e below (T40.setTop (mkF m 23 #[.val (.int p1), .val (.int p2), .val (.int (3 : Int32)), .val (.ref a_VIEWER_KEY), .unset] [(.int (3 : Int32))])) _
        refine st41 _ ?_
        show Steps p.tables e below (T41.setTop (mkF m 26 #[.val (.int p1), .val (.int p2), .val (.int (3 : Int32)), .val (.ref a_VIEWER_KEY), .unset] [(.ref a_VIEWER_KEY)])) _
        refine XS.astore X41.here hx rfl (hb hby at_26) rfl rfl (l' := #[.val (.int p1), .val (.int p2), .val (.int (3 : Int32)), .val (.ref a_VIEWER_KEY), .val (.ref a_VIEWER_KEY)]) rfl ?_
        show Steps p.tables e below (T41.setTop (mkF m 28 #[.val (.int p1), .val (.int p2), .val (.int (3 : Int32)), .val (.ref a_VIEWER_KEY), .val (.ref a_VIEWER_KEY)] [])) _
        refine XS.aload X41.here hx rfl (hb hby at_28) rfl rfl ?_
        show Steps p.tables e below (T41.setTop (mkF m 30 #[.val (.int p1), .val (.int p2), .val (.int (3 : Int32)), .val (.ref a_VIEWER_KEY), .val (.ref a_VIEWER_KEY)] [(.ref a_VIEWER_KEY)])) _
        refine XS.aloadN X41.here hx rfl (hb hby at_30) rfl rfl ?_
        show Steps p.tables e below (T41.setTop (mkF m 31 #[.val (.int p1), .val (.int p2), .val (.int (3 : Int32)), .val (.ref a_VIEWER_KEY), .val (.ref a_VIEWER_KEY)] [(.ref a_VIEWER_KEY), (.ref a_VIEWER_KEY)])) _
        refine Jvm.RoadKit.acmp (g := (mkF m 31 #[.val (.int p1), .val (.int p2), .val (.int (3 : Int32)), .val (.ref a_VIEWER_KEY), .val (.ref a_VIEWER_KEY)] [(.ref a_VIEWER_KEY), (.ref a_VIEWER_KEY)])) X41 hx rfl rfl rfl (pc0 := 31) (pc' := 36) (same := true) rfl (hb hby at_31) rfl (decide_eq_true rfl) (by decide) (by decide) ?_
        show Steps p.tables e below (T41.setTop (mkF m 36 #[.val (.int p1), .val (.int p2), .val (.int (3 : Int32)), .val (.ref a_VIEWER_KEY), .val (.ref a_VIEWER_KEY)] [])) _
        refine XS.aload X41.here hx rfl (hb hby at_36) rfl rfl ?_
        show Steps p.tables e below (T41.setTop (mkF m 38 #[.val (.int p1), .val (.int p2), .val (.int (3 : Int32)), .val (.ref a_VIEWER_KEY), .val (.ref a_VIEWER_KEY)] [(.ref a_VIEWER_KEY)])) _
        refine XS.ifnullNo X41.here hx rfl (hb hby at_38) rfl ?_
        show Steps p.tables e below (T41.setTop (mkF m 41 #[.val (.int p1), .val (.int p2), .val (.int (3 : Int32)), .val (.ref a_VIEWER_KEY), .val (.ref a_VIEWER_KEY)] [])) _
        refine XS.aload X41.here hx rfl (hb hby at_41) rfl rfl ?_
        show Steps p.tables e below (T41.setTop (mkF m 43 #[.val (.int p1), .val (.int p2), .val (.int (3 : Int32)), .val (.ref a_VIEWER_KEY), .val (.ref a_VIEWER_KEY)] [(.ref a_VIEWER_KEY)])) _
        refine st42.trans ?_
        show Steps p.tables e below (T42.setTop (mkF m 46 #[.val (.int p1), .val (.int p2), .val (.int (3 : Int32)), .val (.ref a_VIEWER_KEY), .val (.ref a_VIEWER_KEY)] [(.int (3 : Int32))])) _
        refine XS.iloadN X42.here hx rfl (hb hby at_46) rfl ?_
        show Steps p.tables e below (T42.setTop (mkF m 47 #[.val (.int p1), .val (.int p2), .val (.int (3 : Int32)), .val (.ref a_VIEWER_KEY), .val (.ref a_VIEWER_KEY)] [(.int (3 : Int32)), (.int (3 : Int32))])) _
        refine XS.icmpYes X42.here hx rfl (pc0 := 47) (pc' := 52) rfl (hb hby at_47) rfl (teq (by decide : ((3 : Int32) = (3 : Int32)))).1 (by decide) (by decide) ?_
        show Steps p.tables e below (T42.setTop (mkF m 52 #[.val (.int p1), .val (.int p2), .val (.int (3 : Int32)), .val (.ref a_VIEWER_KEY), .val (.ref a_VIEWER_KEY)] [])) _
        refine XT.iconstV X42.here hx rfl (1 : Int32) (hb hby at_52) (by decide) ?_
        exact k)
      obtain ⟨fs, hr, hrun, hended, hW, hsame⟩ := X42.leave (v := some (.int (1 : Int32))) (fun h => by rw [Bd.returns] at h; cases h)
      refine ⟨_, _, pre43 _ ?_, hrun, hended, _, _, rfl, ?_, ⟨_, rfl⟩, hW, hsame.mono (by decide) (by decide)⟩
      · show Steps p.tables e below (T42.setTop (mkF m 53 #[.val (.int p1), .val (.int p2), .val (.int (3 : Int32)), .val (.ref a_VIEWER_KEY), .val (.ref a_VIEWER_KEY)] [(.int (1 : Int32))])) _
        exact retOut X42 hx Bd.returns rfl (Or.inl ⟨rfl, by simp, _, rfl⟩) (hb hby at_53) hr
      · show Q0 Z p1 p2  h0 n0 _ T42.heap _
        rw [e42]
        exact ⟨rfl, N42⟩
    · have _ := 0
      obtain ⟨_, _, ⟨T44, L44, k44, n44⟩, -, X44, ⟨Lc44, hQ44, l44, y44, z44⟩, st44⟩ := Jvm.LawKit.callS X0 hx (y := (⟨"com/example/sealtrail/sealtrail/EncryptionOfPinLaw", "expectedFor", "(I)Lcom/example/sealtrail/sealtrail/Encryption;"⟩ : MethodName)) hown (mvT hZ (hw _ (List.mem_of_getElem? (i := 0) rfl))) (mvT hZ (hw _ (List.mem_of_getElem? (i := 1) rfl))) (mvT hZ (hw _ (List.mem_of_getElem? (i := 2) rfl))) (mvT hZ (hw _ (List.mem_of_getElem? (i := 3) rfl))) (by decide) (backOf (W := 0) (rm_exp l Z a0 hw [] (4 : Int32) h0 n0 Z0 a_NONE S_NONE a_SYMMETRIC S_SYMMETRIC a_SEALTRAIL_KEY S_SEALTRAIL_KEY a_VIEWER_KEY S_VIEWER_KEY a_CLIENT_KEY S_CLIENT_KEY (.ref a_CLIENT_KEY) (by first | rfl | simp [own_exp])) hZ (hw _ (List.mem_of_getElem? (i := 3) rfl)) (hw _ (List.mem_of_getElem? (i := 2) rfl)) (by decide) (by decide)) (g := (mkF m 18 #[.val (.int p1), .val (.int p2), .val (.int (4 : Int32)), .unset, .unset] [(.int (4 : Int32))])) rfl (by rw [hml]; rfl) (argsL := [(.int (4 : Int32))]) (rest := []) (lenOf pd_1 rfl) rfl (by show 2 * 0 + _ ≤ _; exact Nat.le_of_eq rfl) (hb hby at_18) (fun _ _ => ⟨rfl, e0, (by decide : 0 + 0 ≤ _), (by decide : 0 + 0 ≤ _)⟩)
      dsimp only [Pt.U, Pt.locs, Pt.cells, Pt.slots] at X44 l44 y44 z44 st44 hQ44
      subst l44 y44 z44
      obtain ⟨rfl, N44q, e44⟩ := hQ44
      have N44 := Fr.app N0 N44q
      obtain ⟨_, _, ⟨T45, L45, k45, n45⟩, -, X45, ⟨Lc45, hQ45, l45, y45, z45⟩, st45⟩ := Jvm.LawKit.callS X44 hx (y := (⟨"com/example/sealtrail/sealtrail/Encryption", "of", "(I)Lcom/example/sealtrail/sealtrail/Encryption;"⟩ : MethodName)) hown (mvT hZ (hw _ (List.mem_of_getElem? (i := 7) rfl))) (mvT hZ (hw _ (List.mem_of_getElem? (i := 8) rfl))) (mvT hZ (hw _ (List.mem_of_getElem? (i := 5) rfl))) (mvT hZ (hw _ (List.mem_of_getElem? (i := 9) rfl))) (by decide) (backOf (W := 0) (rm_of_ref l Z a0 hw [] (4 : Int32) h0 n0 Z0 aB S_BY clB ArB SzB (by decide) (by decide) a_CLIENT_KEY el_4) hZ (hw _ (List.mem_of_getElem? (i := 9) rfl)) (hw _ (List.mem_of_getElem? (i := 5) rfl)) (by decide) (by decide)) (g := (mkF m 23 #[.val (.int p1), .val (.int p2), .val (.int (4 : Int32)), .val (.ref a_CLIENT_KEY), .unset] [(.int (4 : Int32))])) rfl (by rw [hml]; rfl) (argsL := [(.int (4 : Int32))]) (rest := []) (lenOf pd_1 rfl) rfl (by show 2 * 0 + _ ≤ _; exact Nat.le_of_eq rfl) (hb hby at_23) (fun _ _ => ⟨rfl, e44, (by decide : 0 + 0 ≤ _), (by decide : 0 + 0 ≤ _)⟩)
      dsimp only [Pt.U, Pt.locs, Pt.cells, Pt.slots] at X45 l45 y45 z45 st45 hQ45
      subst l45 y45 z45
      obtain ⟨rfl, N45q, e45⟩ := hQ45
      have N45 := Fr.app N44 N45q
      obtain ⟨cq46, kq46, q46a, q46b, q46c⟩ := isOf hZ e45 E_CLIENT_KEY
      obtain ⟨_, _, ⟨T46, L46, k46, n46⟩, -, X46, ⟨Lc46, hQ46, l46, y46, z46⟩, st46⟩ := X45.virtualBack hx (y := (⟨"com/example/sealtrail/sealtrail/Encryption", "code", "()I"⟩ : MethodName)) (z := (⟨"com/example/sealtrail/sealtrail/Encryption", "code", "()I"⟩ : MethodName)) hown (mvT hZ (hw _ (List.mem_of_getElem? (i := 12) rfl))) (mvT hZ (hw _ (List.mem_of_getElem? (i := 13) rfl))) (notFace_of_selects (args := #[]) (mvT hZ (hw _ (List.mem_of_getElem? (i := 15) rfl)))) (mvT hZ (hw _ (List.mem_of_getElem? (i := 15) rfl))) (mvT hZ (hw _ (List.mem_of_getElem? (i := 14) rfl))) (by decide) (backOf (W := 0) (rm_code l Z a0 hw [] a_CLIENT_KEY h0 n0 Z0 (4 : Int32) F_CLIENT_KEY_ordinal E_CLIENT_KEY) hZ (hw _ (List.mem_of_getElem? (i := 16) rfl)) (hw _ (List.mem_of_getElem? (i := 5) rfl)) (by decide) (by decide)) q46a q46c (g := (mkF m 43 #[.val (.int p1), .val (.int p2), .val (.int (4 : Int32)), .val (.ref a_CLIENT_KEY), .val (.ref a_CLIENT_KEY)] [(.ref a_CLIENT_KEY)])) rfl (by rw [hml]; rfl) (Steps.refl _) (argsL := []) (rest := []) (lenOf pd_0 rfl) rfl (by show 2 * 0 + _ ≤ _; exact Nat.le_of_eq rfl) (hb hby at_43) (fun _ _ => ⟨rfl, e45, (by decide : 0 + 0 ≤ _), (by decide : 0 + 0 ≤ _)⟩)
      dsimp only [Pt.U, Pt.locs, Pt.cells, Pt.slots] at X46 l46 y46 z46 st46 hQ46
      subst l46 y46 z46
      obtain ⟨rfl, N46q, e46⟩ := hQ46
      have N46 := Fr.app N45 N46q
      have pre47 : ∀ t, Steps p.tables e below (T46.setTop (mkF m 53 #[.val (.int p1), .val (.int p2), .val (.int (4 : Int32)), .val (.ref a_CLIENT_KEY), .val (.ref a_CLIENT_KEY)] [(.int (1 : Int32))])) t → Steps p.tables e below (s₁.setTop (entryFrame m #[(.int p1), (.int p2)] maxLocals)) t := fun t k => pre27 t (by
        show Steps p.tables e below (s₁.setTop (mkF m 16 #[.val (.int p1), .val (.int p2), .unset, .unset, .unset] [(.int p1)])) _
        refine castTop (g' := (mkF m 16 #[.val (.int p1), .val (.int p2), .unset, .unset, .unset] [(.int (4 : Int32))])) (by rw [hk]) ?_
        show Steps p.tables e below (s₁.setTop (mkF m 16 #[.val (.int p1), .val (.int p2), .unset, .unset, .unset] [(.int (4 : Int32))])) _
        refine XS.istoreN X0.here hx rfl (hb hby at_16) rfl (l' := #[.val (.int p1), .val (.int p2), .val (.int (4 : Int32)), .unset, .unset]) rfl ?_
        show Steps p.tables e below (s₁.setTop (mkF m 17 #[.val (.int p1), .val (.int p2), .val (.int (4 : Int32)), .unset, .unset] [])) _
        refine XS.iloadN X0.here hx rfl (hb hby at_17) rfl ?_
        show Steps p.tables e below (s₁.setTop (mkF m 18 #[.val (.int p1), .val (.int p2), .val (.int (4 : Int32)), .unset, .unset] [(.int (4 : Int32))])) _
        refine st44 _ ?_
        show Steps p.tables e below (T44.setTop (mkF m 21 #[.val (.int p1), .val (.int p2), .val (.int (4 : Int32)), .unset, .unset] [(.ref a_CLIENT_KEY)])) _
        refine XS.astoreN X44.here hx rfl (hb hby at_21) rfl rfl (l' := #[.val (.int p1), .val (.int p2), .val (.int (4 : Int32)), .val (.ref a_CLIENT_KEY), .unset]) rfl ?_
        show Steps p.tables e below (T44.setTop (mkF m 22 #[.val (.int p1), .val (.int p2), .val (.int (4 : Int32)), .val (.ref a_CLIENT_KEY), .unset] [])) _
        refine XS.iloadN X44.here hx rfl (hb hby at_22) rfl ?_
        show Steps p.tables e below (T44.setTop (mkF m 23 #[.val (.int p1), .val (.int p2), .val (.int (4 : Int32)), .val (.ref a_CLIENT_KEY), .unset] [(.int (4 : Int32))])) _
        refine st45 _ ?_
        show Steps p.tables e below (T45.setTop (mkF m 26 #[.val (.int p1), .val (.int p2), .val (.int (4 : Int32)), .val (.ref a_CLIENT_KEY), .unset] [(.ref a_CLIENT_KEY)])) _
        refine XS.astore X45.here hx rfl (hb hby at_26) rfl rfl (l' := #[.val (.int p1), .val (.int p2), .val (.int (4 : Int32)), .val (.ref a_CLIENT_KEY), .val (.ref a_CLIENT_KEY)]) rfl ?_
        show Steps p.tables e below (T45.setTop (mkF m 28 #[.val (.int p1), .val (.int p2), .val (.int (4 : Int32)), .val (.ref a_CLIENT_KEY), .val (.ref a_CLIENT_KEY)] [])) _
        refine XS.aload X45.here hx rfl (hb hby at_28) rfl rfl ?_
        show Steps p.tables e below (T45.setTop (mkF m 30 #[.val (.int p1), .val (.int p2), .val (.int (4 : Int32)), .val (.ref a_CLIENT_KEY), .val (.ref a_CLIENT_KEY)] [(.ref a_CLIENT_KEY)])) _
        refine XS.aloadN X45.here hx rfl (hb hby at_30) rfl rfl ?_
        show Steps p.tables e below (T45.setTop (mkF m 31 #[.val (.int p1), .val (.int p2), .val (.int (4 : Int32)), .val (.ref a_CLIENT_KEY), .val (.ref a_CLIENT_KEY)] [(.ref a_CLIENT_KEY), (.ref a_CLIENT_KEY)])) _
        refine Jvm.RoadKit.acmp (g := (mkF m 31 #[.val (.int p1), .val (.int p2), .val (.int (4 : Int32)), .val (.ref a_CLIENT_KEY), .val (.ref a_CLIENT_KEY)] [(.ref a_CLIENT_KEY), (.ref a_CLIENT_KEY)])) X45 hx rfl rfl rfl (pc0 := 31) (pc' := 36) (same := true) rfl (hb hby at_31) rfl (decide_eq_true rfl) (by decide) (by decide) ?_
        show Steps p.tables e below (T45.setTop (mkF m 36 #[.val (.int p1), .val (.int p2), .val (.int (4 : Int32)), .val (.ref a_CLIENT_KEY), .val (.ref a_CLIENT_KEY)] [])) _
        refine XS.aload X45.here hx rfl (hb hby at_36) rfl rfl ?_
        show Steps p.tables e below (T45.setTop (mkF m 38 #[.val (.int p1), .val (.int p2), .val (.int (4 : Int32)), .val (.ref a_CLIENT_KEY), .val (.ref a_CLIENT_KEY)] [(.ref a_CLIENT_KEY)])) _
        refine XS.ifnullNo X45.here hx rfl (hb hby at_38) rfl ?_
        show Steps p.tables e below (T45.setTop (mkF m 41 #[.val (.int p1), .val (.int p2), .val (.int (4 : Int32)), .val (.ref a_CLIENT_KEY), .val (.ref a_CLIENT_KEY)] [])) _
        refine XS.aload X45.here hx rfl (hb hby at_41) rfl rfl ?_
        show Steps p.tables e below (T45.setTop (mkF m 43 #[.val (.int p1), .val (.int p2), .val (.int (4 : Int32)), .val (.ref a_CLIENT_KEY), .val (.ref a_CLIENT_KEY)] [(.ref a_CLIENT_KEY)])) _
        refine st46.trans ?_
        show Steps p.tables e below (T46.setTop (mkF m 46 #[.val (.int p1), .val (.int p2), .val (.int (4 : Int32)), .val (.ref a_CLIENT_KEY), .val (.ref a_CLIENT_KEY)] [(.int (4 : Int32))])) _
        refine XS.iloadN X46.here hx rfl (hb hby at_46) rfl ?_
        show Steps p.tables e below (T46.setTop (mkF m 47 #[.val (.int p1), .val (.int p2), .val (.int (4 : Int32)), .val (.ref a_CLIENT_KEY), .val (.ref a_CLIENT_KEY)] [(.int (4 : Int32)), (.int (4 : Int32))])) _
        refine XS.icmpYes X46.here hx rfl (pc0 := 47) (pc' := 52) rfl (hb hby at_47) rfl (teq (by decide : ((4 : Int32) = (4 : Int32)))).1 (by decide) (by decide) ?_
        show Steps p.tables e below (T46.setTop (mkF m 52 #[.val (.int p1), .val (.int p2), .val (.int (4 : Int32)), .val (.ref a_CLIENT_KEY), .val (.ref a_CLIENT_KEY)] [])) _
        refine XT.iconstV X46.here hx rfl (1 : Int32) (hb hby at_52) (by decide) ?_
        exact k)
      obtain ⟨fs, hr, hrun, hended, hW, hsame⟩ := X46.leave (v := some (.int (1 : Int32))) (fun h => by rw [Bd.returns] at h; cases h)
      refine ⟨_, _, pre47 _ ?_, hrun, hended, _, _, rfl, ?_, ⟨_, rfl⟩, hW, hsame.mono (by decide) (by decide)⟩
      · show Steps p.tables e below (T46.setTop (mkF m 53 #[.val (.int p1), .val (.int p2), .val (.int (4 : Int32)), .val (.ref a_CLIENT_KEY), .val (.ref a_CLIENT_KEY)] [(.int (1 : Int32))])) _
        exact retOut X46 hx Bd.returns rfl (Or.inl ⟨rfl, by simp, _, rfl⟩) (hb hby at_53) hr
      · show Q0 Z p1 p2  h0 n0 _ T46.heap _
        rw [e46]
        exact ⟨rfl, N46⟩
    · have _ := 0
      obtain ⟨_, _, ⟨T48, L48, k48, n48⟩, -, X48, ⟨Lc48, hQ48, l48, y48, z48⟩, st48⟩ := Jvm.LawKit.callS X0 hx (y := (⟨"com/example/sealtrail/sealtrail/EncryptionOfPinLaw", "expectedFor", "(I)Lcom/example/sealtrail/sealtrail/Encryption;"⟩ : MethodName)) hown (mvT hZ (hw _ (List.mem_of_getElem? (i := 0) rfl))) (mvT hZ (hw _ (List.mem_of_getElem? (i := 1) rfl))) (mvT hZ (hw _ (List.mem_of_getElem? (i := 2) rfl))) (mvT hZ (hw _ (List.mem_of_getElem? (i := 3) rfl))) (by decide) (backOf (W := 0) (rm_exp l Z a0 hw [] p1 h0 n0 Z0 a_NONE S_NONE a_SYMMETRIC S_SYMMETRIC a_SEALTRAIL_KEY S_SEALTRAIL_KEY a_VIEWER_KEY S_VIEWER_KEY a_CLIENT_KEY S_CLIENT_KEY .null (by simp [own_exp, x0, x1, x2, x3, x4])) hZ (hw _ (List.mem_of_getElem? (i := 3) rfl)) (hw _ (List.mem_of_getElem? (i := 2) rfl)) (by decide) (by decide)) (g := (mkF m 18 #[.val (.int p1), .val (.int p2), .val (.int p1), .unset, .unset] [(.int p1)])) rfl (by rw [hml]; rfl) (argsL := [(.int p1)]) (rest := []) (lenOf pd_1 rfl) rfl (by show 2 * 0 + _ ≤ _; exact Nat.le_of_eq rfl) (hb hby at_18) (fun _ _ => ⟨rfl, e0, (by decide : 0 + 0 ≤ _), (by decide : 0 + 0 ≤ _)⟩)
      dsimp only [Pt.U, Pt.locs, Pt.cells, Pt.slots] at X48 l48 y48 z48 st48 hQ48
      subst l48 y48 z48
      obtain ⟨rfl, N48q, e48⟩ := hQ48
      have N48 := Fr.app N0 N48q
      obtain ⟨_, _, ⟨T49, L49, k49, n49⟩, -, X49, ⟨Lc49, hQ49, l49, y49, z49⟩, st49⟩ := Jvm.LawKit.callS X48 hx (y := (⟨"com/example/sealtrail/sealtrail/Encryption", "of", "(I)Lcom/example/sealtrail/sealtrail/Encryption;"⟩ : MethodName)) hown (mvT hZ (hw _ (List.mem_of_getElem? (i := 7) rfl))) (mvT hZ (hw _ (List.mem_of_getElem? (i := 8) rfl))) (mvT hZ (hw _ (List.mem_of_getElem? (i := 5) rfl))) (mvT hZ (hw _ (List.mem_of_getElem? (i := 9) rfl))) (by decide) (backOf (W := 0) (rm_of_null l Z a0 hw [] p1 h0 n0 Z0 aB S_BY clB ArB SzB hc) hZ (hw _ (List.mem_of_getElem? (i := 9) rfl)) (hw _ (List.mem_of_getElem? (i := 5) rfl)) (by decide) (by decide)) (g := (mkF m 23 #[.val (.int p1), .val (.int p2), .val (.int p1), .val .null, .unset] [(.int p1)])) rfl (by rw [hml]; rfl) (argsL := [(.int p1)]) (rest := []) (lenOf pd_1 rfl) rfl (by show 2 * 0 + _ ≤ _; exact Nat.le_of_eq rfl) (hb hby at_23) (fun _ _ => ⟨rfl, e48, (by decide : 0 + 0 ≤ _), (by decide : 0 + 0 ≤ _)⟩)
      dsimp only [Pt.U, Pt.locs, Pt.cells, Pt.slots] at X49 l49 y49 z49 st49 hQ49
      subst l49 y49 z49
      obtain ⟨rfl, N49q, e49⟩ := hQ49
      have N49 := Fr.app N48 N49q
      have pre50 : ∀ t, Steps p.tables e below (T49.setTop (mkF m 53 #[.val (.int p1), .val (.int p2), .val (.int p1), .val .null, .val .null] [(.int (1 : Int32))])) t → Steps p.tables e below (s₁.setTop (entryFrame m #[(.int p1), (.int p2)] maxLocals)) t := fun t k => pre27 t (by
        show Steps p.tables e below (s₁.setTop (mkF m 16 #[.val (.int p1), .val (.int p2), .unset, .unset, .unset] [(.int p1)])) _
        refine XS.istoreN X0.here hx rfl (hb hby at_16) rfl (l' := #[.val (.int p1), .val (.int p2), .val (.int p1), .unset, .unset]) rfl ?_
        show Steps p.tables e below (s₁.setTop (mkF m 17 #[.val (.int p1), .val (.int p2), .val (.int p1), .unset, .unset] [])) _
        refine XS.iloadN X0.here hx rfl (hb hby at_17) rfl ?_
        show Steps p.tables e below (s₁.setTop (mkF m 18 #[.val (.int p1), .val (.int p2), .val (.int p1), .unset, .unset] [(.int p1)])) _
        refine st48 _ ?_
        show Steps p.tables e below (T48.setTop (mkF m 21 #[.val (.int p1), .val (.int p2), .val (.int p1), .unset, .unset] [.null])) _
        refine XS.astoreN X48.here hx rfl (hb hby at_21) rfl rfl (l' := #[.val (.int p1), .val (.int p2), .val (.int p1), .val .null, .unset]) rfl ?_
        show Steps p.tables e below (T48.setTop (mkF m 22 #[.val (.int p1), .val (.int p2), .val (.int p1), .val .null, .unset] [])) _
        refine XS.iloadN X48.here hx rfl (hb hby at_22) rfl ?_
        show Steps p.tables e below (T48.setTop (mkF m 23 #[.val (.int p1), .val (.int p2), .val (.int p1), .val .null, .unset] [(.int p1)])) _
        refine st49 _ ?_
        show Steps p.tables e below (T49.setTop (mkF m 26 #[.val (.int p1), .val (.int p2), .val (.int p1), .val .null, .unset] [.null])) _
        refine XS.astore X49.here hx rfl (hb hby at_26) rfl rfl (l' := #[.val (.int p1), .val (.int p2), .val (.int p1), .val .null, .val .null]) rfl ?_
        show Steps p.tables e below (T49.setTop (mkF m 28 #[.val (.int p1), .val (.int p2), .val (.int p1), .val .null, .val .null] [])) _
        refine XS.aload X49.here hx rfl (hb hby at_28) rfl rfl ?_
        show Steps p.tables e below (T49.setTop (mkF m 30 #[.val (.int p1), .val (.int p2), .val (.int p1), .val .null, .val .null] [.null])) _
        refine XS.aloadN X49.here hx rfl (hb hby at_30) rfl rfl ?_
        show Steps p.tables e below (T49.setTop (mkF m 31 #[.val (.int p1), .val (.int p2), .val (.int p1), .val .null, .val .null] [.null, .null])) _
        refine Jvm.RoadKit.acmp (g := (mkF m 31 #[.val (.int p1), .val (.int p2), .val (.int p1), .val .null, .val .null] [.null, .null])) X49 hx rfl rfl rfl (pc0 := 31) (pc' := 36) (same := true) rfl (hb hby at_31) rfl (decide_eq_true rfl) (by decide) (by decide) ?_
        show Steps p.tables e below (T49.setTop (mkF m 36 #[.val (.int p1), .val (.int p2), .val (.int p1), .val .null, .val .null] [])) _
        refine XS.aload X49.here hx rfl (hb hby at_36) rfl rfl ?_
        show Steps p.tables e below (T49.setTop (mkF m 38 #[.val (.int p1), .val (.int p2), .val (.int p1), .val .null, .val .null] [.null])) _
        refine XS.ifnullYes X49.here hx rfl (pc0 := 38) (pc' := 52) rfl (hb hby at_38) rfl (by decide) (by decide) ?_
        show Steps p.tables e below (T49.setTop (mkF m 52 #[.val (.int p1), .val (.int p2), .val (.int p1), .val .null, .val .null] [])) _
        refine XT.iconstV X49.here hx rfl (1 : Int32) (hb hby at_52) (by decide) ?_
        exact k)
      obtain ⟨fs, hr, hrun, hended, hW, hsame⟩ := X49.leave (v := some (.int (1 : Int32))) (fun h => by rw [Bd.returns] at h; cases h)
      refine ⟨_, _, pre50 _ ?_, hrun, hended, _, _, rfl, ?_, ⟨_, rfl⟩, hW, hsame.mono (by decide) (by decide)⟩
      · show Steps p.tables e below (T49.setTop (mkF m 53 #[.val (.int p1), .val (.int p2), .val (.int p1), .val .null, .val .null] [(.int (1 : Int32))])) _
        exact retOut X49 hx Bd.returns rfl (Or.inl ⟨rfl, by simp, _, rfl⟩) (hb hby at_53) hr
      · show Q0 Z p1 p2  h0 n0 _ T49.heap _
        rw [e49]
        exact ⟨rfl, N49⟩
set_option maxRecDepth 65536 in
set_option maxHeartbeats 40000000 in
theorem comes_1 {Post : Tables → Env → Array Value → State → Outcome → State → Prop} (hpost : ∀ tb e args s v u, (limb_1_1.after args s (.returned v) u = true ∧ limb_1_2.after args s (.returned v) u = true ∧ True) → FrameEnd s (.returned v) u (Jvm.fieldLocs frame_1_writes args s ++ Jvm.arrayLocs frame_1_arrays args s ++ Jvm.staticLocs frame_1_statics s) 0 0 → Post tb e args s (.returned v) u) :
    ArmFor flags0 classFile x code maxLocals ret World_1 tables_1 room_1 Calls_1 rest_1 Pre_1 Post := by
  intro l hfl _ _ p e ha hc hk s m args below hf hA hF happ hP
  obtain ⟨hcalls, hrest, hpre⟩ := hP
  obtain ⟨-, -, -, hnamed, -, -, -, hat⟩ := (Spec.applies_iff hf).mp happ
  obtain ⟨hg, hn⟩ := and_e (Cond.before_iff.mp (show (Jvm.Cond.and given_1 narrow_1).before args s = true from hpre))
  obtain ⟨gc, gr0⟩ := and_e hg
  obtain ⟨ga0, gr1⟩ := and_e gr0
  obtain ⟨w0, w1, rfl⟩ : ∃ w0 w1 : Value, args = #[w0, w1] := by
    have hs : args.size = 2 := by simpa [Cond.value, given_1] using gc
    obtain ⟨L⟩ := args
    match L, hs with
    | [w0, w1], _ => exact ⟨w0, w1, rfl⟩
  have hw := fun d (hd : d ∈ tables_1) => atoms_spec (ws := Jvm.Cond.code x code maxLocals ret :: tables_1) hat d (List.mem_cons_of_mem _ hd)
  have hfit : Fit s := fun {y c} hc i hi => by
    obtain ⟨ha, rfl⟩ := Array.getElem?_eq_some_iff.mp hc
    have q := List.all_eq_true.mp ((Array.all_eq_true_iff_forall_mem.mp hF) _ (Array.getElem_mem ha)) i (List.mem_range.mpr hi)
    simpa [Array.getElem?_eq_getElem hi] using q
  obtain ⟨i0, ei0⟩ := is_v ga0
  obtain rfl : w0 = (.int i0) := Option.some.inj ei0
  obtain ⟨i1, ei1⟩ := is_v gr1
  obtain rfl : w1 = (.int i1) := Option.some.inj ei1
  obtain ⟨m0a, m0b⟩ := and_e hn
  obtain ⟨m2a, m2b⟩ := and_e m0b
  obtain ⟨m4a, m4b⟩ := and_e m2b
  obtain ⟨m6a, m6b⟩ := and_e m4b
  obtain ⟨m8a, m8b⟩ := and_e m6b
  obtain ⟨m10a, m10b⟩ := and_e m8b
  obtain ⟨m12a, m12b⟩ := and_e m10b
  obtain ⟨m14a, m14b⟩ := and_e m12b
  obtain ⟨m16a, m16b⟩ := and_e m14b
  obtain ⟨m18a, m18b⟩ := and_e m16b
  obtain ⟨m20a, m20b⟩ := and_e m18b
  obtain ⟨m22a, m22b⟩ := and_e m20b
  obtain ⟨m24a, m24b⟩ := and_e m22b
  obtain ⟨m26a, m26b⟩ := and_e m24b
  obtain ⟨m28a, m28b⟩ := and_e m26b
  obtain ⟨m30a, m30b⟩ := and_e m28b
  obtain ⟨a_NONE, v_NONE⟩ := exa_v m0a
  have E_NONE := Exa.start v_NONE m0a
  have S_NONE := Sta.start v_NONE (Or.inr ⟨(hw _ (List.mem_of_getElem? (i := 5) rfl)), (hw _ (List.mem_of_getElem? (i := 6) rfl))⟩)
  obtain ⟨a_VIEWER_KEY, v_VIEWER_KEY⟩ := exa_v m10a
  have E_VIEWER_KEY := Exa.start v_VIEWER_KEY m10a
  have S_VIEWER_KEY := Sta.start v_VIEWER_KEY (Or.inr ⟨(hw _ (List.mem_of_getElem? (i := 5) rfl)), (hw _ (List.mem_of_getElem? (i := 27) rfl))⟩)
  obtain ⟨a_CLIENT_KEY, v_CLIENT_KEY⟩ := exa_v m16a
  have E_CLIENT_KEY := Exa.start v_CLIENT_KEY m16a
  have S_CLIENT_KEY := Sta.start v_CLIENT_KEY (Or.inr ⟨(hw _ (List.mem_of_getElem? (i := 5) rfl)), (hw _ (List.mem_of_getElem? (i := 29) rfl))⟩)
  obtain ⟨a_SYMMETRIC, v_SYMMETRIC⟩ := exa_v m22a
  have E_SYMMETRIC := Exa.start v_SYMMETRIC m22a
  have S_SYMMETRIC := Sta.start v_SYMMETRIC (Or.inr ⟨(hw _ (List.mem_of_getElem? (i := 5) rfl)), (hw _ (List.mem_of_getElem? (i := 31) rfl))⟩)
  obtain ⟨a_SEALTRAIL_KEY, v_SEALTRAIL_KEY⟩ := exa_v m28a
  have E_SEALTRAIL_KEY := Exa.start v_SEALTRAIL_KEY m28a
  have S_SEALTRAIL_KEY := Sta.start v_SEALTRAIL_KEY (Or.inr ⟨(hw _ (List.mem_of_getElem? (i := 5) rfl)), (hw _ (List.mem_of_getElem? (i := 33) rfl))⟩)
  have F_NONE_ordinal := own_fldpin v_NONE m8a
  have F_VIEWER_KEY_ordinal := own_fldpin v_VIEWER_KEY m14a
  have F_CLIENT_KEY_ordinal := own_fldpin v_CLIENT_KEY m20a
  have F_SYMMETRIC_ordinal := own_fldpin v_SYMMETRIC m26a
  have F_SEALTRAIL_KEY_ordinal := own_fldpin v_SEALTRAIL_KEY m30b
  obtain ⟨aB, vB⟩ := arr_v m2a
  obtain ⟨clB, ArB⟩ := Arr.start vB m2a
  have S_BY := Sta.start vB (Or.inr ⟨(hw _ (List.mem_of_getElem? (i := 5) rfl)), (hw _ (List.mem_of_getElem? (i := 11) rfl))⟩)
  have SzB := own_sz (own_len vB ArB m4a)
  have el_0 := own_elem vB ArB (j := (0 : Int32)) (by decide) v_NONE m6a
  have el_3 := own_elem vB ArB (j := (3 : Int32)) (by decide) v_VIEWER_KEY m12a
  have el_4 := own_elem vB ArB (j := (4 : Int32)) (by decide) v_CLIENT_KEY m18a
  have el_1 := own_elem vB ArB (j := (1 : Int32)) (by decide) v_SYMMETRIC m24a
  have el_2 := own_elem vB ArB (j := (2 : Int32)) (by decide) v_SEALTRAIL_KEY m30a
  obtain ⟨n, o, h1, h2, h3, _, L, rfl, ⟨rfl, N⟩, hq⟩ := rm0 l s _ hw tables_1 i0 i1 s.heap s.heap.size (Nat.le_refl _) a_NONE S_NONE a_VIEWER_KEY S_VIEWER_KEY a_CLIENT_KEY S_CLIENT_KEY a_SYMMETRIC S_SYMMETRIC a_SEALTRAIL_KEY S_SEALTRAIL_KEY E_NONE E_VIEWER_KEY E_CLIENT_KEY E_SYMMETRIC E_SEALTRAIL_KEY F_NONE_ordinal F_VIEWER_KEY_ordinal F_CLIENT_KEY_ordinal F_SYMMETRIC_ordinal F_SEALTRAIL_KEY_ordinal aB S_BY clB ArB SzB el_0 el_1 el_2 el_3 el_4 p e ha hc hk s m _ below hf ((Spec.applies_iff_loose hf).mp happ).1 ⟨rfl, State.Warmed39.refl s, rfl⟩ trivial
  exact ⟨n, _, h1, h2, h3, hpost _ _ _ _ _ _ ⟨Cond.after_iff.mpr rfl, Cond.after_iff.mpr (eq_i res_at (Term.int_eval (1)) rfl), trivial⟩ ⟨hq.1, hq.2.1, (hq.2.2.sift fun y hy => Or.inr (N y hy)).mono (by decide) (by decide)⟩⟩
theorem main_1_1 : Claimed_1_1 := comes_1 fun _ _ _ _ _ _ h hF => ⟨h.1, hF⟩
theorem main_1_2 : Claimed_1_2 := comes_1 fun _ _ _ _ _ _ h hF => ⟨h.2.1, hF⟩
end Jvm.Pilot.@@N@@
namespace Jvm.Pilot.@@N@@
open Jvm Jvm.ClassFile Sem Op Lib Jvm.Free Jvm.Stand Jvm.Pilot.@@N@@.Jvm.D
/-! MADE BY PROGRAM (witnessworld.py) out of the Statement's table words and the real class files: 13 classes; the members and pool entries that the words name. The judged class is class 1, her method 1. -/
namespace start1
open Jvm.ClassFile
def u (s : String) : CpInfo := .utf8 (stringToUtf16 s)
/-- a pool by its gaps: so many unusable entries, then the entry; so many at the end -/
def gap : Nat → List CpInfo → List CpInfo
  | 0, r => r
  | n + 1, r => .unusable :: gap n r
def poolList (es : List (Nat × CpInfo)) (last : Nat) : List CpInfo := es.foldr (fun e r => gap e.1 (e.2 :: r)) (gap last [])
def pool (es : List (Nat × CpInfo)) (last : Nat) : Array CpInfo := ⟨poolList es last⟩
def fileOf (pool : Array CpInfo) (this : Nat) (attrs : Array Attribute := #[]) (ms : Array MethodInfo := #[]) (fl : Nat := 33) (sup : Nat := 0) (ifs : Array Nat := #[]) (fds : Array FieldInfo := #[]) : ClassFile where
  minorVersion := 0
  majorVersion := 65
  constantPool := pool
  accessFlags := fl
  thisClass := this
  superClass := sup
  interfaces := ifs
  fields := fds
  methods := ms
  attributes := attrs
def plain (name : String) (sup : Option ClassId) : Class where
  name := name
  kind := .ordinary
  loader := none
  accessFlags := 33
  super := sup
  interfaces := #[]
  cf := none
  fields := #[]
  methods := #[]
  instanceTypes := #[]
  staticTypes := #[]
  resolved := #[]
  callSites := []
  init := .initialized
  statics := none
  mirror := none

def pool0 : Array CpInfo := pool [(5, u "<init>"), (0, u "()V"), (1, .class_ 10), (1, u "java/lang/Object")] 113

def k0m0 : Method := { name := "<init>", desc := "()V", sig := { parameters := [], returnType := none }, accessFlags := 1, code := none }
/-- java/lang/Object -/
def k0 : Class := { plain "java/lang/Object" none with
  accessFlags := 33
  interfaces := #[]
  cf := some (fileOf pool0 8 #[] #[{ accessFlags := 1, nameIndex := 5, descriptorIndex := 6, attributes := #[] }] 33 0 #[] #[])
  fields := #[]
  methods := #[k0m0]
  instanceTypes := #[]
  staticTypes := #[]
  resolved := Array.replicate 124 none
  statics := none }

def pool1 : Array CpInfo := pool [(2, .class_ 4), (1, u "java/lang/Object"), (0, u "<init>"), (0, u "()V"), (0, .methodref 8 9), (0, .class_ 10), (0, .nameAndType 11 12), (0, u "com/example/sealtrail/sealtrail/EncryptionOfPinLaw"), (0, u "expectedFor"), (0, u "(I)Lcom/example/sealtrail/sealtrail/Encryption;"), (0, .methodref 14 15), (0, .class_ 16), (0, .nameAndType 17 12), (0, u "com/example/sealtrail/sealtrail/Encryption"), (0, u "of"), (0, .methodref 14 19), (0, .nameAndType 20 21), (0, u "code"), (0, u "()I"), (0, .fieldref 14 23), (0, .nameAndType 24 25), (0, u "NONE"), (0, u "Lcom/example/sealtrail/sealtrail/Encryption;"), (0, .fieldref 14 27), (0, .nameAndType 28 25), (0, u "SYMMETRIC"), (0, .fieldref 14 30), (0, .nameAndType 31 25), (0, u "SEALTRAIL_KEY"), (0, .fieldref 14 33), (0, .nameAndType 34 25), (0, u "VIEWER_KEY"), (0, .fieldref 14 36), (0, .nameAndType 37 25), (0, u "CLIENT_KEY"), (2, u "law"), (0, u "(II)Z")] 3

def k1m0 : Method := { name := "<init>", desc := "()V", sig := { parameters := [], returnType := none }, accessFlags := 1, code := none }
def k1c1 : Code := { maxStack := 2, maxLocals := 5, code := code, exceptionTable := #[], attributes := #[] }
def k1m1 : Method := { name := "law", desc := "(II)Z", sig := { parameters := [.int, .int], returnType := some .boolean }, accessFlags := 9, code := some k1c1 }
def k1c2 : Code := { maxStack := 2, maxLocals := 1, code := method_3_code, exceptionTable := #[], attributes := #[] }
def k1m2 : Method := { name := "expectedFor", desc := "(I)Lcom/example/sealtrail/sealtrail/Encryption;", sig := { parameters := [.int], returnType := some (.object "com/example/sealtrail/sealtrail/Encryption") }, accessFlags := 10, code := some k1c2 }
/-- com/example/sealtrail/sealtrail/EncryptionOfPinLaw -/
def k1 : Class := { plain "com/example/sealtrail/sealtrail/EncryptionOfPinLaw" (some 0) with
  accessFlags := 49
  interfaces := #[]
  cf := some (fileOf pool1 8 #[] #[{ accessFlags := 1, nameIndex := 5, descriptorIndex := 6, attributes := #[] }, { accessFlags := 9, nameIndex := 40, descriptorIndex := 41, attributes := #[] }, { accessFlags := 10, nameIndex := 11, descriptorIndex := 12, attributes := #[] }] 49 2 #[] #[])
  fields := #[]
  methods := #[k1m0, k1m1, k1m2]
  instanceTypes := #[]
  staticTypes := #[]
  resolved := Array.replicate 45 none
  statics := none }

def pool2 : Array CpInfo := pool [(1, .class_ 2), (0, u "java/lang/constant/Constable"), (0, .class_ 4), (0, u "java/lang/Object")] 6

/-- java/lang/constant/Constable -/
def k2 : Class := { plain "java/lang/constant/Constable" (some 0) with
  accessFlags := 1537
  interfaces := #[]
  cf := some (fileOf pool2 1 #[] #[] 1537 3 #[] #[])
  fields := #[]
  methods := #[]
  instanceTypes := #[]
  staticTypes := #[]
  resolved := Array.replicate 11 none
  statics := none }

def pool3 : Array CpInfo := pool [(1, .class_ 2), (0, u "java/lang/Comparable"), (0, .class_ 4), (0, u "java/lang/Object")] 7

/-- java/lang/Comparable -/
def k3 : Class := { plain "java/lang/Comparable" (some 0) with
  accessFlags := 1537
  interfaces := #[]
  cf := some (fileOf pool3 1 #[] #[] 1537 3 #[] #[])
  fields := #[]
  methods := #[]
  instanceTypes := #[]
  staticTypes := #[]
  resolved := Array.replicate 12 none
  statics := none }

def pool4 : Array CpInfo := pool [(1, .class_ 2), (0, u "java/io/Serializable"), (0, .class_ 4), (0, u "java/lang/Object")] 2

/-- java/io/Serializable -/
def k4 : Class := { plain "java/io/Serializable" (some 0) with
  accessFlags := 1537
  interfaces := #[]
  cf := some (fileOf pool4 1 #[] #[] 1537 3 #[] #[])
  fields := #[]
  methods := #[]
  instanceTypes := #[]
  staticTypes := #[]
  resolved := Array.replicate 7 none
  statics := none }

def pool5 : Array CpInfo := pool [(2, .class_ 4), (1, u "java/lang/Enum"), (0, u "name"), (0, u "Ljava/lang/String;"), (0, .fieldref 2 8), (0, .nameAndType 9 10), (0, u "ordinal"), (0, u "I"), (1, .class_ 14), (1, u "java/lang/Object"), (4, u "hash"), (86, .class_ 108), (1, u "java/lang/Enum$EnumDesc"), (2, .class_ 112), (0, u "java/lang/constant/Constable"), (0, .class_ 114), (0, u "java/lang/Comparable"), (0, .class_ 116), (0, u "java/io/Serializable"), (9, u "()I")] 77

def k5c0 : Code := { maxStack := 1, maxLocals := 1, code := jdk_37_method_2_code, exceptionTable := #[], attributes := #[] }
def k5m0 : Method := { name := "ordinal", desc := "()I", sig := { parameters := [], returnType := some .int }, accessFlags := 17, code := some k5c0 }
/-- java/lang/Enum -/
def k5 : Class := { plain "java/lang/Enum" (some 0) with
  accessFlags := 1057
  interfaces := #[2, 3, 4]
  cf := some (fileOf pool5 2 #[.nestMembers #[106]] #[{ accessFlags := 17, nameIndex := 9, descriptorIndex := 126, attributes := #[] }] 1057 12 #[111, 113, 115] #[{ accessFlags := 18, nameIndex := 5, descriptorIndex := 6, attributes := #[] }, { accessFlags := 18, nameIndex := 9, descriptorIndex := 10, attributes := #[] }, { accessFlags := 2, nameIndex := 19, descriptorIndex := 10, attributes := #[] }])
  fields := #[{ name := "name", type := (.object "java/lang/String"), accessFlags := 18, slot := 0, constantValue := 0 }, { name := "ordinal", type := .int, accessFlags := 18, slot := 1, constantValue := 0 }, { name := "hash", type := .int, accessFlags := 2, slot := 2, constantValue := 0 }]
  methods := #[k5m0]
  instanceTypes := #[(.object "java/lang/String"), .int, .int]
  staticTypes := #[]
  resolved := Array.replicate 204 none
  statics := none }

def pool6 : Array CpInfo := pool [(1, .class_ 2), (0, u "com/example/sealtrail/sealtrail/Encryption"), (2, u "NONE"), (0, u "Lcom/example/sealtrail/sealtrail/Encryption;"), (2, u "SYMMETRIC"), (2, u "SEALTRAIL_KEY"), (2, u "VIEWER_KEY"), (2, u "CLIENT_KEY"), (2, u "$VALUES"), (0, u "[Lcom/example/sealtrail/sealtrail/Encryption;"), (6, .class_ 31), (1, u "java/lang/Enum"), (6, .fieldref 1 39), (0, .nameAndType 40 22), (0, u "BY_CODE"), (0, .methodref 1 42), (0, .nameAndType 43 44), (0, u "ordinal"), (0, u "()I"), (19, u "of"), (0, u "(I)Lcom/example/sealtrail/sealtrail/Encryption;"), (1, u "code")] 4

def k6c0 : Code := { maxStack := 2, maxLocals := 1, code := prog_18_method_4_code, exceptionTable := #[], attributes := #[] }
def k6m0 : Method := { name := "of", desc := "(I)Lcom/example/sealtrail/sealtrail/Encryption;", sig := { parameters := [.int], returnType := some (.object "com/example/sealtrail/sealtrail/Encryption") }, accessFlags := 8, code := some k6c0 }
def k6c1 : Code := { maxStack := 1, maxLocals := 1, code := prog_18_method_5_code, exceptionTable := #[], attributes := #[] }
def k6m1 : Method := { name := "code", desc := "()I", sig := { parameters := [], returnType := some .int }, accessFlags := 0, code := some k6c1 }
/-- com/example/sealtrail/sealtrail/Encryption -/
def k6 : Class := { plain "com/example/sealtrail/sealtrail/Encryption" (some 5) with
  accessFlags := 16432
  interfaces := #[]
  cf := some (fileOf pool6 1 #[] #[{ accessFlags := 8, nameIndex := 64, descriptorIndex := 65, attributes := #[] }, { accessFlags := 0, nameIndex := 67, descriptorIndex := 44, attributes := #[] }] 16432 29 #[] #[{ accessFlags := 16409, nameIndex := 5, descriptorIndex := 6, attributes := #[] }, { accessFlags := 16409, nameIndex := 9, descriptorIndex := 6, attributes := #[] }, { accessFlags := 16409, nameIndex := 12, descriptorIndex := 6, attributes := #[] }, { accessFlags := 16409, nameIndex := 15, descriptorIndex := 6, attributes := #[] }, { accessFlags := 16409, nameIndex := 18, descriptorIndex := 6, attributes := #[] }, { accessFlags := 26, nameIndex := 40, descriptorIndex := 22, attributes := #[] }, { accessFlags := 4122, nameIndex := 21, descriptorIndex := 22, attributes := #[] }])
  fields := #[{ name := "NONE", type := (.object "com/example/sealtrail/sealtrail/Encryption"), accessFlags := 16409, slot := 0, constantValue := 0 }, { name := "SYMMETRIC", type := (.object "com/example/sealtrail/sealtrail/Encryption"), accessFlags := 16409, slot := 1, constantValue := 0 }, { name := "SEALTRAIL_KEY", type := (.object "com/example/sealtrail/sealtrail/Encryption"), accessFlags := 16409, slot := 2, constantValue := 0 }, { name := "VIEWER_KEY", type := (.object "com/example/sealtrail/sealtrail/Encryption"), accessFlags := 16409, slot := 3, constantValue := 0 }, { name := "CLIENT_KEY", type := (.object "com/example/sealtrail/sealtrail/Encryption"), accessFlags := 16409, slot := 4, constantValue := 0 }, { name := "BY_CODE", type := (.array (.object "com/example/sealtrail/sealtrail/Encryption")), accessFlags := 26, slot := 5, constantValue := 0 }, { name := "$VALUES", type := (.array (.object "com/example/sealtrail/sealtrail/Encryption")), accessFlags := 4122, slot := 6, constantValue := 0 }]
  methods := #[k6m0, k6m1]
  instanceTypes := #[(.object "java/lang/String"), .int, .int]
  staticTypes := #[(.object "com/example/sealtrail/sealtrail/Encryption"), (.object "com/example/sealtrail/sealtrail/Encryption"), (.object "com/example/sealtrail/sealtrail/Encryption"), (.object "com/example/sealtrail/sealtrail/Encryption"), (.object "com/example/sealtrail/sealtrail/Encryption"), (.array (.object "com/example/sealtrail/sealtrail/Encryption")), (.array (.object "com/example/sealtrail/sealtrail/Encryption"))]
  resolved := Array.replicate 72 none
  statics := some 0 }

def pool7 : Array CpInfo := pool [(1, u "java/lang/Cloneable"), (0, .class_ 1), (0, u "java/lang/Object"), (0, .class_ 3)] 3

/-- java/lang/Cloneable -/
def k7 : Class := { plain "java/lang/Cloneable" (some 0) with
  accessFlags := 1537
  interfaces := #[]
  cf := some (fileOf pool7 2 #[] #[] 1537 4 #[] #[])
  fields := #[]
  methods := #[]
  instanceTypes := #[]
  staticTypes := #[]
  resolved := Array.replicate 8 none
  statics := none }

/-- the primitive byte -/
def k8 : Class := { plain "byte" none with kind := .primitive 'B', accessFlags := 0x411 }
/-- [B -/
def k9 : Class := { plain "[B" (some 0) with kind := .array 8 .byte, interfaces := #[7, 4], accessFlags := 1041 }

/-- the primitive int -/
def k10 : Class := { plain "int" none with kind := .primitive 'I', accessFlags := 0x411 }
/-- [I -/
def k11 : Class := { plain "[I" (some 0) with kind := .array 10 .int, interfaces := #[7, 4], accessFlags := 1041 }

/-- [Lcom/example/sealtrail/sealtrail/Encryption; -/
def k12 : Class := { plain "[Lcom/example/sealtrail/sealtrail/Encryption;" (some 0) with kind := .array 6 (.object "com/example/sealtrail/sealtrail/Encryption"), interfaces := #[7, 4], accessFlags := 1041 }

def heap : Heap := #[{ cls := 6, slots := #[.ref 2, .ref 3, .ref 4, .ref 5, .ref 6, .ref 1, .null], vm := .statics 6 },
  { cls := 12, slots := #[.ref 2, .ref 3, .ref 4, .ref 5, .ref 6], vm := .none },
  { cls := 6, slots := #[.null, .int 0, .int 0], vm := .none },
  { cls := 6, slots := #[.null, .int 1, .int 0], vm := .none },
  { cls := 6, slots := #[.null, .int 2, .int 0], vm := .none },
  { cls := 6, slots := #[.null, .int 3, .int 0], vm := .none },
  { cls := 6, slots := #[.null, .int 4, .int 0], vm := .none }]
def classes : Array Class := #[k0, k1, k2, k3, k4, k5, k6, k7, k8, k9, k10, k11, k12]
def interned : List (Array UInt16 × Addr) := []
def slotsUsed : Nat := 27
def theMethod : MethodId := ⟨1, 1⟩
def args0 : Array Value := #[.int 5, .int 7]
def aboutOver (below : List Frame) : State where
  vm := { classes := classes, interned := interned.toArray }
  heap := heap
  slotsUsed := slotsUsed
  threads := #[{ frames := .invoking theMethod args0 :: below }]
def below0 : List Frame := [.native { method := ⟨0, 0⟩, args := #[] }]
def about1 : State := aboutOver below0
def p0 : Program := .bare "" "" ""
def e0 : Env := launch0.env 0 0 0
theorem w_frames : about1.frames = Frame.invoking theMethod args0 :: below0 := rfl
set_option maxRecDepth 65536 in
theorem w_args : argsFit about1.vm theMethod args0 = true := by decide +kernel
set_option maxRecDepth 65536 in
theorem w_heap : heapFits about1 = true := by decide +kernel
set_option maxRecDepth 65536 in
theorem w_runnable : about1.curStatus? = some .runnable := by decide +kernel
set_option maxRecDepth 65536 in
theorem w_alone : about1.alone = true := by decide +kernel
set_option maxRecDepth 65536 in
theorem w_named : about1.methodNamed? x = some theMethod := by decide +kernel
set_option maxRecDepth 65536 in
theorem w_hears : about1.hears theMethod below0 = true := by decide +kernel
set_option maxRecDepth 65536 in
theorem w_ripe : about1.ripe theMethod args0 below0 = true := by decide +kernel
theorem w_running : about1.status = .running := rfl
set_option maxRecDepth 65536 in
theorem w_room : about1.hasRoom e0.platform room_1 = true :=
  launch0.hasRoom_least _ room_1 (by decide +kernel) (by decide +kernel) (by decide +kernel) (by decide +kernel) (by decide +kernel) (by decide +kernel)
theorem allAtoms_all (ts : List Jvm.Cond) (a : Array Jvm.Value) (st : Jvm.State) : (allAtoms ts).before a st = ts.all (fun c => c.before a st) := by
  induction ts with
  | nil => rfl
  | cons c t ih =>
    show (Jvm.Cond.and c (allAtoms t)).before a st = _
    rw [Jvm.Cond.before_and, ih, List.all_cons]
def words1 : List Jvm.Cond := Jvm.Cond.code x code maxLocals ret :: tables_1
/-- a 'code' word, met by the world's own term for the bytes: nothing is compared byte by byte -/
theorem code_word {y : MethodName} {bytes : ByteArray} {mx : Nat} {rt : Option FieldType} {a : Array Value} {s : State} {m : MethodId} {meth : Method} {c : Code} (h1 : s.methodNamed? y = some m) (h2 : s.vm.method? m = some meth) (h3 : meth.code = some c) (h4 : c.code = bytes)
    (h5 : (c.maxLocals == mx && c.exceptionTable.isEmpty && decide (c.maxStack ≤ mostOperands) && decide (meth.sig.returnType = rt) && !meth.locks && decide (parseMethodDescriptor y.desc = some meth.sig)) = true) : (Jvm.Cond.code y bytes mx rt).before a s = true := by
  simp only [Bool.and_eq_true, beq_iff_eq, Bool.not_eq_true', decide_eq_true_eq] at h5
  obtain ⟨⟨⟨⟨⟨g1, g2⟩, g3⟩, g4⟩, g5⟩, g6⟩ := h5
  simp [Cond.before, Cond.holds, Cond.value, h1, h2, h3, h4, g1, g2, g3, g4, g5, g6]
def isCode : Jvm.Cond → Bool
  | .code _ _ _ _ => true
  | _ => false
theorem all_split {L : List Jvm.Cond} {P : Jvm.Cond → Bool} (h1 : L.all (fun c => isCode c || P c) = true) (h2 : ∀ c ∈ L.filter isCode, P c = true) : L.all P = true := by
  refine List.all_eq_true.mpr fun c hc => ?_
  have h := List.all_eq_true.mp h1 c hc
  rcases Bool.eq_false_or_eq_true (isCode c) with hi | hi
  · exact h2 c (List.mem_filter.mpr ⟨hc, hi⟩)
  · simpa [hi] using h
set_option maxRecDepth 65536 in
theorem w_c0 : (Jvm.Cond.code x code maxLocals ret).before args0 about1 = true := code_word (m := ⟨1, 1⟩) (meth := k1m1) (c := k1c1) (by decide +kernel) rfl rfl rfl (by decide +kernel)
set_option maxRecDepth 65536 in
theorem w_c1 : (Jvm.Cond.code ({ cls := "com/example/sealtrail/sealtrail/EncryptionOfPinLaw", name := "expectedFor", desc := "(I)Lcom/example/sealtrail/sealtrail/Encryption;" } : Jvm.MethodName) method_3_code (1 : Nat) (Option.some (Jvm.ClassFile.FieldType.object "com/example/sealtrail/sealtrail/Encryption"))).before args0 about1 = true := code_word (m := ⟨1, 2⟩) (meth := k1m2) (c := k1c2) (by decide +kernel) rfl rfl rfl (by decide +kernel)
set_option maxRecDepth 65536 in
theorem w_c2 : (Jvm.Cond.code ({ cls := "com/example/sealtrail/sealtrail/Encryption", name := "of", desc := "(I)Lcom/example/sealtrail/sealtrail/Encryption;" } : Jvm.MethodName) prog_18_method_4_code (1 : Nat) (Option.some (Jvm.ClassFile.FieldType.object "com/example/sealtrail/sealtrail/Encryption"))).before args0 about1 = true := code_word (m := ⟨6, 0⟩) (meth := k6m0) (c := k6c0) (by decide +kernel) rfl rfl rfl (by decide +kernel)
set_option maxRecDepth 65536 in
theorem w_c3 : (Jvm.Cond.code ({ cls := "com/example/sealtrail/sealtrail/Encryption", name := "code", desc := "()I" } : Jvm.MethodName) prog_18_method_5_code (1 : Nat) (Option.some Jvm.ClassFile.FieldType.int)).before args0 about1 = true := code_word (m := ⟨6, 1⟩) (meth := k6m1) (c := k6c1) (by decide +kernel) rfl rfl rfl (by decide +kernel)
set_option maxRecDepth 65536 in
theorem w_c4 : (Jvm.Cond.code ({ cls := "java/lang/Enum", name := "ordinal", desc := "()I" } : Jvm.MethodName) jdk_37_method_2_code (1 : Nat) (Option.some Jvm.ClassFile.FieldType.int)).before args0 about1 = true := code_word (m := ⟨5, 0⟩) (meth := k5m0) (c := k5c0) (by decide +kernel) rfl rfl rfl (by decide +kernel)
def codes1 : List Jvm.Cond := [Jvm.Cond.code x code maxLocals ret, Jvm.Cond.code ({ cls := "com/example/sealtrail/sealtrail/EncryptionOfPinLaw", name := "expectedFor", desc := "(I)Lcom/example/sealtrail/sealtrail/Encryption;" } : Jvm.MethodName) method_3_code (1 : Nat) (Option.some (Jvm.ClassFile.FieldType.object "com/example/sealtrail/sealtrail/Encryption")), Jvm.Cond.code ({ cls := "com/example/sealtrail/sealtrail/Encryption", name := "of", desc := "(I)Lcom/example/sealtrail/sealtrail/Encryption;" } : Jvm.MethodName) prog_18_method_4_code (1 : Nat) (Option.some (Jvm.ClassFile.FieldType.object "com/example/sealtrail/sealtrail/Encryption")), Jvm.Cond.code ({ cls := "com/example/sealtrail/sealtrail/Encryption", name := "code", desc := "()I" } : Jvm.MethodName) prog_18_method_5_code (1 : Nat) (Option.some Jvm.ClassFile.FieldType.int), Jvm.Cond.code ({ cls := "java/lang/Enum", name := "ordinal", desc := "()I" } : Jvm.MethodName) jdk_37_method_2_code (1 : Nat) (Option.some Jvm.ClassFile.FieldType.int)]
set_option maxRecDepth 65536 in
theorem codes_eq : words1.filter isCode = codes1 := rfl
theorem w_codes : ∀ c ∈ words1.filter isCode, c.before args0 about1 = true := by
  rw [codes_eq]
  intro c hc
  simp only [codes1, List.mem_cons, List.not_mem_nil, or_false] at hc
  rcases hc with rfl | rfl | rfl | rfl | rfl
  · exact w_c0
  · exact w_c1
  · exact w_c2
  · exact w_c3
  · exact w_c4
set_option maxRecDepth 65536 in
theorem w_t1 : (words1.take 24).all (fun c => isCode c || c.before args0 about1) = true := by decide +kernel
set_option maxRecDepth 65536 in
theorem w_t2 : (words1.drop 24).all (fun c => isCode c || c.before args0 about1) = true := by decide +kernel
theorem w_tables : (allAtoms (Jvm.Cond.code x code maxLocals ret :: tables_1)).before args0 about1 = true := by
  rw [allAtoms_all]
  show words1.all (fun c => c.before args0 about1) = true
  refine all_split ?_ w_codes
  rw [← List.take_append_drop 24 words1, List.all_append, w_t1, w_t2]
  rfl
set_option maxRecDepth 65536 in
theorem w_case : (Jvm.Cond.and given_1 narrow_1).before args0 about1 = true := by decide +kernel
theorem w_applies : (headSpec (Jvm.Cond.code x code maxLocals ret :: tables_1) room_1).applies x e0.platform about1 = true :=
  (Spec.applies_iff w_frames).mpr ⟨w_running, w_runnable, w_alone, w_named, w_hears, w_ripe, w_room, w_tables⟩
theorem atStart : AtStart classFile x code maxLocals ret World_1 tables_1 room_1 Calls_1 rest_1 Pre_1 launch0 p0 e0 about1 theMethod args0 below0 :=
  ⟨lists_1, trivial, launch0.admits_env _ _ _, launch0.least_env, fairChoices_fair.cas, fairChoices_fair.clock, w_frames, w_args, w_heap, w_applies, trivial, trivial, w_case⟩
end start1
theorem witness_1 : WitnessClaimed_1 := ⟨start1.p0, start1.e0, start1.about1, start1.theMethod, start1.args0, start1.below0, start1.atStart⟩
end Jvm.Pilot.@@N@@
