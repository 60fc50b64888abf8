import JvmDerived
import JvmDerived.Pilot.@@N@@Statement
import JvmDerived.Pilot.@@N@@Code
set_option linter.unusedVariables false
set_option linter.unusedSimpArgs false
namespace Jvm.Pilot.@@N@@
open Jvm Jvm.ClassFile Sem Op Lib Jvm.Free Jvm.Stand Jvm.LawKit Jvm.RoadKit Bundle Jvm.Pilot.@@N@@.Jvm.D
theorem pd_0 : parseMethodDescriptor "(I)Lcom/example/sealtrail/sealtrail/RecordType;" = some ⟨[.int], some (.object "com/example/sealtrail/sealtrail/RecordType")⟩ := by decide +kernel
theorem pd_1 : parseMethodDescriptor "()I" = some ⟨[], some .int⟩ := by decide +kernel
theorem pd_2 : parseMethodDescriptor "(I)Z" = some ⟨[.int], some .boolean⟩ := by decide +kernel
theorem own_fldpin {t : Term} {C n d : String} {k : Int32} {a : Addr} {args : Array Value} {s : State} (ev : t.eval args s none [] s = some (.ref a)) (h : (Cond.eq (.field t C n d) (.int k)).value args s none s [] = some true) : Fld s s.heap a C n d (.int k) := by
  refine Fld.start ?_
  have e1 : (Term.field t C n d).eval args s none [] s = s.fieldOf? a C n d := fld_at ev
  cases hf : s.fieldOf? a C n d with
  | none => rw [hf] at e1; simp [Cond.value, e1] at h
  | some v =>
    rw [hf] at e1
    have e2 : (Term.int k).eval args s none [] s = some (.int k) := rfl
    cases v <;> simp [Cond.value, e1, e2] at h ⊢
    exact h
theorem own_len {t : Term} {a : Addr} {c : Cell} {ty : FieldType} {n : Int32} {args : Array Value} {s : State} (ev : t.eval args s none [] s = some (.ref a)) (A : Arr s s.heap a c ty) (h : (Cond.eq (.length t) (.int n)).value args s none s [] = some true) : c.slots.size < 2 ^ 31 ∧ c.slots.size.toInt32 = n := by
  have ha := Arr.fin (Vm.Alike.refl _) A
  have e2 : (Term.int n).eval args s none [] s = some (.int n) := rfl
  by_cases q : c.slots.size < 2 ^ 31
  · have e1 : (Term.length t).eval args s none [] s = some (.int c.slots.size.toInt32) := len_f ev ha q
    refine ⟨q, ?_⟩
    simpa [Cond.value, e1, e2] using h
  · have e1 : (Term.length t).eval args s none [] s = none := by
      have hq : ¬ c.slots.size < 2147483648 := q
      simp [Term.eval, ev, ha]; omega
    simp [Cond.value, e1] at h
theorem own_sz {c : Cell} {n : Int32} (h : c.slots.size < 2 ^ 31 ∧ c.slots.size.toInt32 = n) : c.slots.size = n.toNatClampNeg := by
  rw [← h.2]; simp only [Int32.toNatClampNeg, len_toInt h.1]; rfl
theorem own_elem {t u : Term} {a b : Addr} {c : Cell} {ty : FieldType} {j : Int32} {args : Array Value} {s : State} (ev : t.eval args s none [] s = some (.ref a)) (A : Arr s s.heap a c ty) (hj : ¬ j < 0) (eu : u.eval args s none [] s = some (.ref b)) (h : (Cond.eq (.elem t (.int j)) u).value args s none s [] = some true) : c.slots[j.toNatClampNeg]? = some (.ref b) := by
  have ha := Arr.fin (Vm.Alike.refl _) A
  have e1 : (Term.elem t (.int j)).eval args s none [] s = c.slots[j.toNatClampNeg]? := elem_f ev rfl ha hj
  cases hx : c.slots[j.toNatClampNeg]? with
  | none => rw [hx] at e1; simp [Cond.value, e1] at h
  | some v => rw [hx] at e1; cases v <;> simp [Cond.value, e1, eu] at h ⊢; exact h
theorem d1_0 : decode method_2_code 0 = .ok (.iload_n 0, 1) := by decide +kernel
theorem d1_1 : decode method_2_code 1 = .ok (.invokestatic 7, 3) := by decide +kernel
theorem d1_4 : decode method_2_code 4 = .ok (.astore_n 1, 1) := by decide +kernel
theorem d1_5 : decode method_2_code 5 = .ok (.iload_n 0, 1) := by decide +kernel
theorem d1_6 : decode method_2_code 6 = .ok (.ifCond .lt 9, 3) := by decide +kernel
theorem d1_9 : decode method_2_code 9 = .ok (.iload_n 0, 1) := by decide +kernel
theorem d1_10 : decode method_2_code 10 = .ok (.bipush 13, 2) := by decide +kernel
theorem d1_12 : decode method_2_code 12 = .ok (.if_icmp .le 13, 3) := by decide +kernel
theorem d1_15 : decode method_2_code 15 = .ok (.aload_n 1, 1) := by decide +kernel
theorem d1_16 : decode method_2_code 16 = .ok (.ifnonnull 7, 3) := by decide +kernel
theorem d1_19 : decode method_2_code 19 = .ok (.iconst 1, 1) := by decide +kernel
theorem d1_20 : decode method_2_code 20 = .ok (.goto 4, 3) := by decide +kernel
theorem d1_23 : decode method_2_code 23 = .ok (.iconst 0, 1) := by decide +kernel
theorem d1_24 : decode method_2_code 24 = .ok (.ireturn, 1) := by decide +kernel
theorem d1_25 : decode method_2_code 25 = .ok (.aload_n 1, 1) := by decide +kernel
theorem d1_26 : decode method_2_code 26 = .ok (.ifnull 15, 3) := by decide +kernel
theorem d1_29 : decode method_2_code 29 = .ok (.aload_n 1, 1) := by decide +kernel
theorem d1_30 : decode method_2_code 30 = .ok (.invokevirtual 13, 3) := by decide +kernel
theorem d1_33 : decode method_2_code 33 = .ok (.iload_n 0, 1) := by decide +kernel
theorem d1_34 : decode method_2_code 34 = .ok (.if_icmp .ne 7, 3) := by decide +kernel
theorem d1_37 : decode method_2_code 37 = .ok (.iconst 1, 1) := by decide +kernel
theorem d1_38 : decode method_2_code 38 = .ok (.goto 4, 3) := by decide +kernel
theorem d1_41 : decode method_2_code 41 = .ok (.iconst 0, 1) := by decide +kernel
theorem d1_42 : decode method_2_code 42 = .ok (.ireturn, 1) := by decide +kernel
theorem d2_0 : decode prog_47_method_5_code 0 = .ok (.iload_n 0, 1) := by decide +kernel
theorem d2_1 : decode prog_47_method_5_code 1 = .ok (.ifCond .lt 19, 3) := by decide +kernel
theorem d2_4 : decode prog_47_method_5_code 4 = .ok (.iload_n 0, 1) := by decide +kernel
theorem d2_5 : decode prog_47_method_5_code 5 = .ok (.getstatic 79, 3) := by decide +kernel
theorem d2_8 : decode prog_47_method_5_code 8 = .ok (.arraylength, 1) := by decide +kernel
theorem d2_9 : decode prog_47_method_5_code 9 = .ok (.if_icmp .ge 11, 3) := by decide +kernel
theorem d2_12 : decode prog_47_method_5_code 12 = .ok (.getstatic 79, 3) := by decide +kernel
theorem d2_15 : decode prog_47_method_5_code 15 = .ok (.iload_n 0, 1) := by decide +kernel
theorem d2_16 : decode prog_47_method_5_code 16 = .ok (.aaload, 1) := by decide +kernel
theorem d2_17 : decode prog_47_method_5_code 17 = .ok (.goto 4, 3) := by decide +kernel
theorem d2_20 : decode prog_47_method_5_code 20 = .ok (.aconst_null, 1) := by decide +kernel
theorem d2_21 : decode prog_47_method_5_code 21 = .ok (.areturn, 1) := by decide +kernel
theorem d3_0 : decode prog_47_method_6_code 0 = .ok (.aload_n 0, 1) := by decide +kernel
theorem d3_1 : decode prog_47_method_6_code 1 = .ok (.getfield 68, 3) := by decide +kernel
theorem d3_4 : decode prog_47_method_6_code 4 = .ok (.ireturn, 1) := by decide +kernel
def Qv (Z : State) (p1 : Int32) (res : Value) (h0 : Heap) (n0 : Nat) (v : Option Value) (h : Heap) (L : List Loc) : Prop := v = some res ∧ Fr n0 L ∧ h = h0
theorem pn_2 : plainName "com/example/sealtrail/sealtrail/RecordType" = true := by first | (simp [plainName, overriddenIn]; done) | decide +kernel
theorem ef_rm_of_null (m : MethodId) (x0 : Int32) : entryFrame m #[(.int x0)] 1 = mkF m 0 #[.val (.int x0)] [] := by first | (simp [entryFrame, mkF, argsToLocals, Value.category]; done) | rfl
set_option maxRecDepth 65536 in
set_option maxHeartbeats 40000000 in
theorem rm_of_null (l : Launch) (Z : State) (a0 : Array Value) (hw : ∀ d ∈ tables_1, d.before a0 Z = true) (ws : List Jvm.Cond) (p1 : Int32) (h0 : Heap) (n0 : Nat) (Z0 : n0 ≤ h0.size) (aB : Addr) (S_BY : Sta Z h0 "com/example/sealtrail/sealtrail/RecordType" "BY_CODE" "[Lcom/example/sealtrail/sealtrail/RecordType;" (.ref aB)) (clB : Cell) (ArB : Arr Z h0 aB clB (.object "com/example/sealtrail/sealtrail/RecordType")) (SzB : clB.slots.size = (14 : Int32).toNatClampNeg) (hc : p1 < (0 : Int32) ∨ ¬ p1 < (14 : Int32)) :
    MetFree l (⟨"com/example/sealtrail/sealtrail/RecordType", "of", "(I)Lcom/example/sealtrail/sealtrail/RecordType;"⟩ : MethodName) (head1 (Jvm.Cond.code (⟨"com/example/sealtrail/sealtrail/RecordType", "of", "(I)Lcom/example/sealtrail/sealtrail/RecordType;"⟩ : MethodName) prog_47_method_5_code 1 (some (.object "com/example/sealtrail/sealtrail/RecordType")) :: ws) ({ frames := 0, cells := 0, slots := 0, locals := 0 } : Room)) (fun a U => a = #[(.int p1)] ∧ Z.Warmed39 U.vm ∧ U.heap = h0) (fun _ _ _ _ _ => True) (fun _ U o U' => ∃ v L, o = .returned v ∧ Qv Z p1 .null h0 n0 v U'.heap L ∧ FrameEnd U o U' L ({ frames := 0, cells := 0, slots := 0, locals := 0 } : Room).cells ({ frames := 0, cells := 0, slots := 0, locals := 0 } : Room).slots) := by
  refine MetFree.of_bodySF (plainFor_of_name pn_2) hisR ?_
  intro p e s m args below meth c s₁ Bd hml0 hP hK
  obtain ⟨rfl, hZ, hh⟩ := hP
  have hx := Bd.exec
  have hby := Bd.bytes
  have hml : c.maxLocals = 1 := hml0
  have hown : s.vm.findClass "com/example/sealtrail/sealtrail/RecordType" = some m.cls := findClass_of_methodNamed Bd.named
  have hnm := (name_of_methodNamed Bd.named Bd.method).1
  have X0 : Stand p l e ({ frames := 0, cells := 0, slots := 0, locals := 0 } : Room) s m #[(.int p1)] below meth c s₁ [] 0 0 := Stand.of_body Bd
  have e0 : s₁.heap = h0 := by rw [← hh, Bd.state]; rfl
  have N0 := Fr.nil n0
  have pre0 : ∀ t, Steps p.tables e below (s₁.setTop (mkF m 0 #[.val (.int p1)] [])) t → Steps p.tables e below (s₁.setTop (entryFrame m #[(.int p1)] 1)) t := fun t k => castTop (ef_rm_of_null m p1) k
  have pre1 : ∀ t, Steps p.tables e below (s₁.setTop (mkF m 1 #[.val (.int p1)] [(.int p1)])) t → Steps p.tables e below (s₁.setTop (entryFrame m #[(.int p1)] 1)) t := fun t k => pre0 t (by
    show Steps p.tables e below (s₁.setTop (mkF m 0 #[.val (.int p1)] [])) _
    refine XS.iloadN X0.here hx rfl (hb hby d2_0) rfl ?_
    exact k)
  by_cases hc1_2 : p1 < (0 : Int32)
  · have _ := 0
    have pre3 : ∀ t, Steps p.tables e below (s₁.setTop (mkF m 21 #[.val (.int p1)] [.null])) t → Steps p.tables e below (s₁.setTop (entryFrame m #[(.int p1)] 1)) t := fun t k => pre1 t (by
      show Steps p.tables e below (s₁.setTop (mkF m 1 #[.val (.int p1)] [(.int p1)])) _
      refine XS.ifYes X0.here hx rfl (pc0 := 1) (pc' := 20) rfl (hb hby d2_1) rfl ((if0 _ _).trans (tlt hc1_2).1) (by decide) (by decide) ?_
      show Steps p.tables e below (s₁.setTop (mkF m 20 #[.val (.int p1)] [])) _
      refine XS.aconstNull X0.here hx rfl (hb hby d2_20) ?_
      exact k)
    obtain ⟨fs, hr, hrun, hended, hW, hsame⟩ := X0.leave (v := some .null) (fun h => by rw [Bd.returns] at h; cases h)
    refine ⟨_, _, pre3 _ ?_, hrun, hended, _, _, rfl, ?_, ⟨_, rfl⟩, hW, hsame.mono (by decide) (by decide)⟩
    · show Steps p.tables e below (s₁.setTop (mkF m 21 #[.val (.int p1)] [.null])) _
      exact retOut X0 hx Bd.returns rfl (Or.inr (Or.inr (Or.inr (Or.inr ⟨rfl, rfl, rfl⟩)))) (hb hby d2_21) hr
    · show Qv Z p1 .null h0 n0 _ s₁.heap _
      rw [e0]
      exact ⟨rfl, N0, rfl⟩
  · have _ := 0
    obtain ⟨T4, X4, e4, st4⟩ := getS2 X0 hx hZ hown (host := "") (Or.inl (hw _ (List.mem_of_getElem? (i := 8) rfl))) Via.refl e0 S_BY (g := (mkF m 5 #[.val (.int p1)] [(.int p1)])) rfl (hb hby d2_5)
    have pre5 : ∀ t, Steps p.tables e below (T4.setTop (mkF m 21 #[.val (.int p1)] [.null])) t → Steps p.tables e below (s₁.setTop (entryFrame m #[(.int p1)] 1)) t := fun t k => pre1 t (by
      show Steps p.tables e below (s₁.setTop (mkF m 1 #[.val (.int p1)] [(.int p1)])) _
      refine XS.ifNo X0.here hx rfl (hb hby d2_1) rfl ((if0 _ _).trans (flt hc1_2).1) ?_
      show Steps p.tables e below (s₁.setTop (mkF m 4 #[.val (.int p1)] [])) _
      refine XS.iloadN X0.here hx rfl (hb hby d2_4) rfl ?_
      show Steps p.tables e below (s₁.setTop (mkF m 5 #[.val (.int p1)] [(.int p1)])) _
      refine st4 _ ?_
      show Steps p.tables e below (T4.setTop (mkF m 8 #[.val (.int p1)] [(.ref aB), (.int p1)])) _
      refine X4.arraylength hx (by rw [e4]; exact ArB.1) (State.isArrayOf_alike hZ.alike ArB.2.1) (g := (mkF m 8 #[.val (.int p1)] [(.ref aB), (.int p1)])) rfl rfl (hb hby d2_8) _ ?_
      rw [len_of SzB (by decide)]
      show Steps p.tables e below (T4.setTop (mkF m 9 #[.val (.int p1)] [(.int (14 : Int32)), (.int p1)])) _
      refine XS.icmpYes X4.here hx rfl (pc0 := 9) (pc' := 20) rfl (hb hby d2_9) rfl (flt (hc.resolve_left hc1_2)).2.1 (by decide) (by decide) ?_
      show Steps p.tables e below (T4.setTop (mkF m 20 #[.val (.int p1)] [])) _
      refine XS.aconstNull X4.here hx rfl (hb hby d2_20) ?_
      exact k)
    obtain ⟨fs, hr, hrun, hended, hW, hsame⟩ := X4.leave (v := some .null) (fun h => by rw [Bd.returns] at h; cases h)
    refine ⟨_, _, pre5 _ ?_, hrun, hended, _, _, rfl, ?_, ⟨_, rfl⟩, hW, hsame.mono (by decide) (by decide)⟩
    · show Steps p.tables e below (T4.setTop (mkF m 21 #[.val (.int p1)] [.null])) _
      exact retOut X4 hx Bd.returns rfl (Or.inr (Or.inr (Or.inr (Or.inr ⟨rfl, rfl, rfl⟩)))) (hb hby d2_21) hr
    · show Qv Z p1 .null h0 n0 _ T4.heap _
      rw [e4]
      exact ⟨rfl, N0, rfl⟩
theorem ef_rm_of_ref (m : MethodId) (x0 : Int32) : entryFrame m #[(.int x0)] 1 = mkF m 0 #[.val (.int x0)] [] := by first | (simp [entryFrame, mkF, argsToLocals, Value.category]; done) | rfl
set_option maxRecDepth 65536 in
set_option maxHeartbeats 40000000 in
theorem rm_of_ref (l : Launch) (Z : State) (a0 : Array Value) (hw : ∀ d ∈ tables_1, d.before a0 Z = true) (ws : List Jvm.Cond) (p1 : Int32) (h0 : Heap) (n0 : Nat) (Z0 : n0 ≤ h0.size) (aB : Addr) (S_BY : Sta Z h0 "com/example/sealtrail/sealtrail/RecordType" "BY_CODE" "[Lcom/example/sealtrail/sealtrail/RecordType;" (.ref aB)) (clB : Cell) (ArB : Arr Z h0 aB clB (.object "com/example/sealtrail/sealtrail/RecordType")) (SzB : clB.slots.size = (14 : Int32).toNatClampNeg) (h1 : ¬ p1 < (0 : Int32)) (h2 : p1 < (14 : Int32)) (a : Addr) (hat : clB.slots[p1.toNatClampNeg]? = some (.ref a)) :
    MetFree l (⟨"com/example/sealtrail/sealtrail/RecordType", "of", "(I)Lcom/example/sealtrail/sealtrail/RecordType;"⟩ : MethodName) (head1 (Jvm.Cond.code (⟨"com/example/sealtrail/sealtrail/RecordType", "of", "(I)Lcom/example/sealtrail/sealtrail/RecordType;"⟩ : MethodName) prog_47_method_5_code 1 (some (.object "com/example/sealtrail/sealtrail/RecordType")) :: ws) ({ frames := 0, cells := 0, slots := 0, locals := 0 } : Room)) (fun a U => a = #[(.int p1)] ∧ Z.Warmed39 U.vm ∧ U.heap = h0) (fun _ _ _ _ _ => True) (fun _ U o U' => ∃ v L, o = .returned v ∧ Qv Z p1 (.ref a) h0 n0 v U'.heap L ∧ FrameEnd U o U' L ({ frames := 0, cells := 0, slots := 0, locals := 0 } : Room).cells ({ frames := 0, cells := 0, slots := 0, locals := 0 } : Room).slots) := by
  refine MetFree.of_bodySF (plainFor_of_name pn_2) hisR ?_
  intro p e s m args below meth c s₁ Bd hml0 hP hK
  obtain ⟨rfl, hZ, hh⟩ := hP
  have hx := Bd.exec
  have hby := Bd.bytes
  have hml : c.maxLocals = 1 := hml0
  have hown : s.vm.findClass "com/example/sealtrail/sealtrail/RecordType" = some m.cls := findClass_of_methodNamed Bd.named
  have hnm := (name_of_methodNamed Bd.named Bd.method).1
  have X0 : Stand p l e ({ frames := 0, cells := 0, slots := 0, locals := 0 } : Room) s m #[(.int p1)] below meth c s₁ [] 0 0 := Stand.of_body Bd
  have e0 : s₁.heap = h0 := by rw [← hh, Bd.state]; rfl
  have N0 := Fr.nil n0
  have pre0 : ∀ t, Steps p.tables e below (s₁.setTop (mkF m 0 #[.val (.int p1)] [])) t → Steps p.tables e below (s₁.setTop (entryFrame m #[(.int p1)] 1)) t := fun t k => castTop (ef_rm_of_ref m p1) k
  obtain ⟨T1, X1, e1, st1⟩ := getS2 X0 hx hZ hown (host := "") (Or.inl (hw _ (List.mem_of_getElem? (i := 8) rfl))) Via.refl e0 S_BY (g := (mkF m 5 #[.val (.int p1)] [(.int p1)])) rfl (hb hby d2_5)
  obtain ⟨T2, X2, e2, st2⟩ := getS2 X1 hx hZ hown (host := "") (Or.inl (hw _ (List.mem_of_getElem? (i := 8) rfl))) Via.refl e1 S_BY (g := (mkF m 12 #[.val (.int p1)] [])) rfl (hb hby d2_12)
  have pre3 : ∀ t, Steps p.tables e below (T2.setTop (mkF m 21 #[.val (.int p1)] [(.ref a)])) t → Steps p.tables e below (s₁.setTop (entryFrame m #[(.int p1)] 1)) t := fun t k => pre0 t (by
    show Steps p.tables e below (s₁.setTop (mkF m 0 #[.val (.int p1)] [])) _
    refine XS.iloadN X0.here hx rfl (hb hby d2_0) rfl ?_
    show Steps p.tables e below (s₁.setTop (mkF m 1 #[.val (.int p1)] [(.int p1)])) _
    refine XS.ifNo X0.here hx rfl (hb hby d2_1) rfl ((if0 _ _).trans (flt h1).1) ?_
    show Steps p.tables e below (s₁.setTop (mkF m 4 #[.val (.int p1)] [])) _
    refine XS.iloadN X0.here hx rfl (hb hby d2_4) rfl ?_
    show Steps p.tables e below (s₁.setTop (mkF m 5 #[.val (.int p1)] [(.int p1)])) _
    refine st1 _ ?_
    show Steps p.tables e below (T1.setTop (mkF m 8 #[.val (.int p1)] [(.ref aB), (.int p1)])) _
    refine X1.arraylength hx (by rw [e1]; exact ArB.1) (State.isArrayOf_alike hZ.alike ArB.2.1) (g := (mkF m 8 #[.val (.int p1)] [(.ref aB), (.int p1)])) rfl rfl (hb hby d2_8) _ ?_
    rw [len_of SzB (by decide)]
    show Steps p.tables e below (T1.setTop (mkF m 9 #[.val (.int p1)] [(.int (14 : Int32)), (.int p1)])) _
    refine XS.icmpNo X1.here hx rfl (hb hby d2_9) rfl (tlt h2).2.1 ?_
    show Steps p.tables e below (T1.setTop (mkF m 12 #[.val (.int p1)] [])) _
    refine st2 _ ?_
    show Steps p.tables e below (T2.setTop (mkF m 15 #[.val (.int p1)] [(.ref aB)])) _
    refine XS.iloadN X2.here hx rfl (hb hby d2_15) rfl ?_
    show Steps p.tables e below (T2.setTop (mkF m 16 #[.val (.int p1)] [(.int p1), (.ref aB)])) _
    refine X2.aaload hx (j := p1) (v := (.ref a)) (by rw [e2]; exact ArB.1) (State.isArrayOf_alike hZ.alike ArB.2.1) rfl ArB.2.2 (inb_of SzB ⟨h1, h2⟩) hat (g := (mkF m 16 #[.val (.int p1)] [(.int p1), (.ref aB)])) rfl rfl (hb hby d2_16) _ ?_
    show Steps p.tables e below (T2.setTop (mkF m 17 #[.val (.int p1)] [(.ref a)])) _
    refine XS.goto X2.here hx rfl (pc0 := 17) (pc' := 21) rfl (hb hby d2_17) (by decide) (by decide) ?_
    exact k)
  obtain ⟨fs, hr, hrun, hended, hW, hsame⟩ := X2.leave (v := some (.ref a)) (fun h => by rw [Bd.returns] at h; cases h)
  refine ⟨_, _, pre3 _ ?_, hrun, hended, _, _, rfl, ?_, ⟨_, rfl⟩, hW, hsame.mono (by decide) (by decide)⟩
  · show Steps p.tables e below (T2.setTop (mkF m 21 #[.val (.int p1)] [(.ref a)])) _
    exact retOut X2 hx Bd.returns rfl (Or.inr (Or.inr (Or.inr (Or.inr ⟨rfl, rfl, rfl⟩)))) (hb hby d2_21) hr
  · show Qv Z p1 (.ref a) h0 n0 _ T2.heap _
    rw [e2]
    exact ⟨rfl, N0, rfl⟩
def Qi (Z : State) (r1 : Addr) (w : Int32) (h0 : Heap) (n0 : Nat) (v : Option Value) (h : Heap) (L : List Loc) : Prop := v = some (.int w) ∧ Fr n0 L ∧ h = h0
theorem pn_3 : plainName "com/example/sealtrail/sealtrail/RecordType" = true := by first | (simp [plainName, overriddenIn]; done) | decide +kernel
theorem ef_rm_code (m : MethodId) (x0 : Addr) : entryFrame m #[(.ref x0)] 1 = mkF m 0 #[.val (.ref x0)] [] := by first | (simp [entryFrame, mkF, argsToLocals, Value.category]; done) | rfl
set_option maxRecDepth 65536 in
set_option maxHeartbeats 40000000 in
theorem rm_code (l : Launch) (Z : State) (a0 : Array Value) (hw : ∀ d ∈ tables_1, d.before a0 Z = true) (ws : List Jvm.Cond) (r1 : Addr) (h0 : Heap) (n0 : Nat) (Z0 : n0 ≤ h0.size) (w : Int32) (F1 : Fld Z h0 r1 "com/example/sealtrail/sealtrail/RecordType" "code" "I" (.int w)) :
    MetFree l (⟨"com/example/sealtrail/sealtrail/RecordType", "code", "()I"⟩ : MethodName) (head1 (Jvm.Cond.code (⟨"com/example/sealtrail/sealtrail/RecordType", "code", "()I"⟩ : MethodName) prog_47_method_6_code 1 (some .int) :: ws) ({ frames := 0, cells := 0, slots := 0, locals := 0 } : Room)) (fun a U => a = #[(.ref r1)] ∧ Z.Warmed39 U.vm ∧ U.heap = h0) (fun _ _ _ _ _ => True) (fun _ U o U' => ∃ v L, o = .returned v ∧ Qi Z r1 w h0 n0 v U'.heap L ∧ FrameEnd U o U' L ({ frames := 0, cells := 0, slots := 0, locals := 0 } : Room).cells ({ frames := 0, cells := 0, slots := 0, locals := 0 } : Room).slots) := by
  refine MetFree.of_bodySF (plainFor_of_name pn_3) hisR ?_
  intro p e s m args below meth c s₁ Bd hml0 hP hK
  obtain ⟨rfl, hZ, hh⟩ := hP
  have hx := Bd.exec
  have hby := Bd.bytes
  have hml : c.maxLocals = 1 := hml0
  have hown : s.vm.findClass "com/example/sealtrail/sealtrail/RecordType" = some m.cls := findClass_of_methodNamed Bd.named
  have hnm := (name_of_methodNamed Bd.named Bd.method).1
  have X0 : Stand p l e ({ frames := 0, cells := 0, slots := 0, locals := 0 } : Room) s m #[(.ref r1)] below meth c s₁ [] 0 0 := Stand.of_body Bd
  have e0 : s₁.heap = h0 := by rw [← hh, Bd.state]; rfl
  have N0 := Fr.nil n0
  have pre0 : ∀ t, Steps p.tables e below (s₁.setTop (mkF m 0 #[.val (.ref r1)] [])) t → Steps p.tables e below (s₁.setTop (entryFrame m #[(.ref r1)] 1)) t := fun t k => castTop (ef_rm_code m r1) k
  obtain ⟨T1, X1, e1, st1⟩ := getF X0 hx hZ hown (host := "") (Or.inl (hw _ (List.mem_of_getElem? (i := 16) rfl))) Via.refl e0 F1 (g := (mkF m 1 #[.val (.ref r1)] [(.ref r1)])) rfl rfl (hb hby d3_1)
  have pre2 : ∀ t, Steps p.tables e below (T1.setTop (mkF m 4 #[.val (.ref r1)] [(.int w)])) t → Steps p.tables e below (s₁.setTop (entryFrame m #[(.ref r1)] 1)) t := fun t k => pre0 t (by
    show Steps p.tables e below (s₁.setTop (mkF m 0 #[.val (.ref r1)] [])) _
    refine XS.aloadN X0.here hx rfl (hb hby d3_0) rfl rfl ?_
    show Steps p.tables e below (s₁.setTop (mkF m 1 #[.val (.ref r1)] [(.ref r1)])) _
    refine st1 _ ?_
    exact k)
  obtain ⟨fs, hr, hrun, hended, hW, hsame⟩ := X1.leave (v := some (.int w)) (fun h => by rw [Bd.returns] at h; cases h)
  refine ⟨_, _, pre2 _ ?_, hrun, hended, _, _, rfl, ?_, ⟨_, rfl⟩, hW, hsame.mono (by decide) (by decide)⟩
  · show Steps p.tables e below (T1.setTop (mkF m 4 #[.val (.ref r1)] [(.int w)])) _
    exact retOut X1 hx Bd.returns rfl (Or.inl ⟨rfl, by simp, _, rfl⟩) (hb hby d3_4) hr
  · show Qi Z r1 w h0 n0 _ T1.heap _
    rw [e1]
    exact ⟨rfl, N0, rfl⟩
theorem own_below {j : Int32} (h1 : ¬ j < (0 : Int32)) (h2 : j < (14 : Int32)) : j = (0 : Int32) ∨ j = (1 : Int32) ∨ j = (2 : Int32) ∨ j = (3 : Int32) ∨ j = (4 : Int32) ∨ j = (5 : Int32) ∨ j = (6 : Int32) ∨ j = (7 : Int32) ∨ j = (8 : Int32) ∨ j = (9 : Int32) ∨ j = (10 : Int32) ∨ j = (11 : Int32) ∨ j = (12 : Int32) ∨ j = (13 : Int32) := by
  rw [Int32.lt_iff_toInt_lt] at h1 h2
  have o0 : (0 : Int32).toInt = 0 := by decide
  have oN : (14 : Int32).toInt = 14 := by decide
  have h : j.toInt = 0 ∨ j.toInt = 1 ∨ j.toInt = 2 ∨ j.toInt = 3 ∨ j.toInt = 4 ∨ j.toInt = 5 ∨ j.toInt = 6 ∨ j.toInt = 7 ∨ j.toInt = 8 ∨ j.toInt = 9 ∨ j.toInt = 10 ∨ j.toInt = 11 ∨ j.toInt = 12 ∨ j.toInt = 13 := by omega
  rcases h with h | h | h | h | h | h | h | h | h | h | h | h | h | h
  · exact Or.inl (Int32.toInt_inj.mp (h.trans (by decide : (0 : Int) = (0 : Int32).toInt)))
  · exact Or.inr (Or.inl (Int32.toInt_inj.mp (h.trans (by decide : (1 : Int) = (1 : Int32).toInt))))
  · exact Or.inr (Or.inr (Or.inl (Int32.toInt_inj.mp (h.trans (by decide : (2 : Int) = (2 : Int32).toInt)))))
  · exact Or.inr (Or.inr (Or.inr (Or.inl (Int32.toInt_inj.mp (h.trans (by decide : (3 : Int) = (3 : Int32).toInt))))))
  · exact Or.inr (Or.inr (Or.inr (Or.inr (Or.inl (Int32.toInt_inj.mp (h.trans (by decide : (4 : Int) = (4 : Int32).toInt)))))))
  · exact Or.inr (Or.inr (Or.inr (Or.inr (Or.inr (Or.inl (Int32.toInt_inj.mp (h.trans (by decide : (5 : Int) = (5 : Int32).toInt))))))))
  · exact Or.inr (Or.inr (Or.inr (Or.inr (Or.inr (Or.inr (Or.inl (Int32.toInt_inj.mp (h.trans (by decide : (6 : Int) = (6 : Int32).toInt)))))))))
  · exact Or.inr (Or.inr (Or.inr (Or.inr (Or.inr (Or.inr (Or.inr (Or.inl (Int32.toInt_inj.mp (h.trans (by decide : (7 : Int) = (7 : Int32).toInt))))))))))
  · exact Or.inr (Or.inr (Or.inr (Or.inr (Or.inr (Or.inr (Or.inr (Or.inr (Or.inl (Int32.toInt_inj.mp (h.trans (by decide : (8 : Int) = (8 : Int32).toInt)))))))))))
  · exact Or.inr (Or.inr (Or.inr (Or.inr (Or.inr (Or.inr (Or.inr (Or.inr (Or.inr (Or.inl (Int32.toInt_inj.mp (h.trans (by decide : (9 : Int) = (9 : Int32).toInt))))))))))))
  · exact Or.inr (Or.inr (Or.inr (Or.inr (Or.inr (Or.inr (Or.inr (Or.inr (Or.inr (Or.inr (Or.inl (Int32.toInt_inj.mp (h.trans (by decide : (10 : Int) = (10 : Int32).toInt)))))))))))))
  · exact Or.inr (Or.inr (Or.inr (Or.inr (Or.inr (Or.inr (Or.inr (Or.inr (Or.inr (Or.inr (Or.inr (Or.inl (Int32.toInt_inj.mp (h.trans (by decide : (11 : Int) = (11 : Int32).toInt))))))))))))))
  · exact Or.inr (Or.inr (Or.inr (Or.inr (Or.inr (Or.inr (Or.inr (Or.inr (Or.inr (Or.inr (Or.inr (Or.inr (Or.inl (Int32.toInt_inj.mp (h.trans (by decide : (12 : Int) = (12 : Int32).toInt)))))))))))))))
  · exact Or.inr (Or.inr (Or.inr (Or.inr (Or.inr (Or.inr (Or.inr (Or.inr (Or.inr (Or.inr (Or.inr (Or.inr (Or.inr ((Int32.toInt_inj.mp (h.trans (by decide : (13 : Int) = (13 : Int32).toInt))))))))))))))))
def Qc (Z : State) (p1 : Int32) (h0 : Heap) (n0 : Nat) (v : Option Value) (h : Heap) (L : List Loc) : Prop := v = some (.int 1) ∧ Fr n0 L ∧ h = h0
theorem own_13a {p : Int32} (h : p < (14 : Int32)) : ¬ (13 : Int32) < p := by
  rw [Int32.lt_iff_toInt_lt] at *
  have a : (14 : Int32).toInt = 14 := by decide
  have b : (13 : Int32).toInt = 13 := by decide
  omega
theorem own_13b {p : Int32} (h : ¬ p < (14 : Int32)) : (13 : Int32) < p := by
  rw [Int32.lt_iff_toInt_lt] at *
  have a : (14 : Int32).toInt = 14 := by decide
  have b : (13 : Int32).toInt = 13 := by decide
  omega
theorem own_abc (p n : Int32) : p < (0 : Int32) ∨ (¬ p < (0 : Int32) ∧ ¬ p < n) ∨ (¬ p < (0 : Int32) ∧ p < n) := by
  by_cases h : p < (0 : Int32)
  · exact Or.inl h
  · by_cases q : p < n
    · exact Or.inr (Or.inr ⟨h, q⟩)
    · exact Or.inr (Or.inl ⟨h, q⟩)
theorem pn_1 : plainName "com/example/sealtrail/sealtrail/RecordTypeOfPinLaw" = true := by first | (simp [plainName, overriddenIn]; done) | decide +kernel
theorem ef_rm_check (m : MethodId) (x0 : Int32) : entryFrame m #[(.int x0)] 2 = mkF m 0 #[.val (.int x0), .unset] [] := by first | (simp [entryFrame, mkF, argsToLocals, Value.category]; done) | rfl
set_option maxRecDepth 65536 in
set_option maxHeartbeats 40000000 in
theorem rm_check (l : Launch) (Z : State) (a0 : Array Value) (hw : ∀ d ∈ tables_1, d.before a0 Z = true) (ws : List Jvm.Cond) (p1 : Int32) (h0 : Heap) (n0 : Nat) (Z0 : n0 ≤ h0.size) (aB : Addr) (S_BY : Sta Z h0 "com/example/sealtrail/sealtrail/RecordType" "BY_CODE" "[Lcom/example/sealtrail/sealtrail/RecordType;" (.ref aB)) (clB : Cell) (ArB : Arr Z h0 aB clB (.object "com/example/sealtrail/sealtrail/RecordType")) (SzB : clB.slots.size = (14 : Int32).toNatClampNeg) (P : ∀ j : Int32, ¬ j < (0 : Int32) → j < (14 : Int32) → ∃ a, clB.slots[j.toNatClampNeg]? = some (.ref a) ∧ Exa Z h0 a "com/example/sealtrail/sealtrail/RecordType" ∧ Fld Z h0 a "com/example/sealtrail/sealtrail/RecordType" "code" "I" (.int j)) :
    MetFree l (⟨"com/example/sealtrail/sealtrail/RecordTypeOfPinLaw", "check", "(I)Z"⟩ : MethodName) (head1 (Jvm.Cond.code (⟨"com/example/sealtrail/sealtrail/RecordTypeOfPinLaw", "check", "(I)Z"⟩ : MethodName) method_2_code 2 (some .boolean) :: ws) ({ frames := 1, cells := 0, slots := 0, locals := 12 } : Room)) (fun a U => a = #[(.int p1)] ∧ Z.Warmed39 U.vm ∧ U.heap = h0) (fun _ _ _ _ _ => True) (fun _ U o U' => ∃ v L, o = .returned v ∧ Qc Z p1  h0 n0 v U'.heap L ∧ FrameEnd U o U' L ({ frames := 1, cells := 0, slots := 0, locals := 12 } : Room).cells ({ frames := 1, cells := 0, slots := 0, locals := 12 } : Room).slots) := by
  refine MetFree.of_bodySF (plainFor_of_name pn_1) hisR ?_
  intro p e s m args below meth c s₁ Bd hml0 hP hK
  obtain ⟨rfl, hZ, hh⟩ := hP
  have hx := Bd.exec
  have hby := Bd.bytes
  have hml : c.maxLocals = 2 := hml0
  have hown : s.vm.findClass "com/example/sealtrail/sealtrail/RecordTypeOfPinLaw" = some m.cls := findClass_of_methodNamed Bd.named
  have hnm := (name_of_methodNamed Bd.named Bd.method).1
  have X0 : Stand p l e ({ frames := 1, cells := 0, slots := 0, locals := 12 } : Room) s m #[(.int p1)] below meth c s₁ [] 0 0 := Stand.of_body Bd
  have e0 : s₁.heap = h0 := by rw [← hh, Bd.state]; rfl
  have N0 := Fr.nil n0
  have pre0 : ∀ t, Steps p.tables e below (s₁.setTop (mkF m 0 #[.val (.int p1), .unset] [])) t → Steps p.tables e below (s₁.setTop (entryFrame m #[(.int p1)] 2)) t := fun t k => castTop (ef_rm_check m p1) k
  rcases own_abc p1 (14 : Int32) with h1 | ⟨h1, h2⟩ | ⟨h1, h2⟩
  · have _ := 0
    obtain ⟨_, _, ⟨T1, L1, k1, n1⟩, -, X1, ⟨Lc1, hQ1, l1, y1, z1⟩, st1⟩ := Jvm.LawKit.callS X0 hx (y := (⟨"com/example/sealtrail/sealtrail/RecordType", "of", "(I)Lcom/example/sealtrail/sealtrail/RecordType;"⟩ : MethodName)) hown (mvT hZ (hw _ (List.mem_of_getElem? (i := 4) rfl))) (mvT hZ (hw _ (List.mem_of_getElem? (i := 5) rfl))) (mvT hZ (hw _ (List.mem_of_getElem? (i := 6) rfl))) (mvT hZ (hw _ (List.mem_of_getElem? (i := 7) rfl))) (by decide) (backOf (W := 0) (rm_of_null l Z a0 hw [] p1 h0 n0 Z0 aB S_BY clB ArB SzB (Or.inl h1)) hZ (hw _ (List.mem_of_getElem? (i := 7) rfl)) (hw _ (List.mem_of_getElem? (i := 6) rfl)) (by decide) (by decide)) (g := (mkF m 1 #[.val (.int p1), .unset] [(.int p1)])) rfl (by rw [hml]; rfl) (argsL := [(.int p1)]) (rest := []) (lenOf pd_0 rfl) rfl (by show 2 * 0 + _ ≤ _; exact Nat.le_of_eq rfl) (hb hby d1_1) (fun _ _ => ⟨rfl, e0, (by decide : 0 + 0 ≤ _), (by decide : 0 + 0 ≤ _)⟩)
    dsimp only [Pt.U, Pt.locs, Pt.cells, Pt.slots] at X1 l1 y1 z1 st1 hQ1
    subst l1 y1 z1
    obtain ⟨rfl, N1q, e1⟩ := hQ1
    have N1 := Fr.app N0 N1q
    have pre2 : ∀ t, Steps p.tables e below (T1.setTop (mkF m 24 #[.val (.int p1), .val .null] [(.int (1 : Int32))])) t → Steps p.tables e below (s₁.setTop (entryFrame m #[(.int p1)] 2)) t := fun t k => pre0 t (by
      show Steps p.tables e below (s₁.setTop (mkF m 0 #[.val (.int p1), .unset] [])) _
      refine XS.iloadN X0.here hx rfl (hb hby d1_0) rfl ?_
      show Steps p.tables e below (s₁.setTop (mkF m 1 #[.val (.int p1), .unset] [(.int p1)])) _
      refine st1 _ ?_
      show Steps p.tables e below (T1.setTop (mkF m 4 #[.val (.int p1), .unset] [.null])) _
      refine XS.astoreN X1.here hx rfl (hb hby d1_4) rfl rfl (l' := #[.val (.int p1), .val .null]) rfl ?_
      show Steps p.tables e below (T1.setTop (mkF m 5 #[.val (.int p1), .val .null] [])) _
      refine XS.iloadN X1.here hx rfl (hb hby d1_5) rfl ?_
      show Steps p.tables e below (T1.setTop (mkF m 6 #[.val (.int p1), .val .null] [(.int p1)])) _
      refine XS.ifYes X1.here hx rfl (pc0 := 6) (pc' := 15) rfl (hb hby d1_6) rfl ((if0 _ _).trans (tlt h1).1) (by decide) (by decide) ?_
      show Steps p.tables e below (T1.setTop (mkF m 15 #[.val (.int p1), .val .null] [])) _
      refine XS.aloadN X1.here hx rfl (hb hby d1_15) rfl rfl ?_
      show Steps p.tables e below (T1.setTop (mkF m 16 #[.val (.int p1), .val .null] [.null])) _
      refine XS.ifnonnullNo X1.here hx rfl (hb hby d1_16) rfl ?_
      show Steps p.tables e below (T1.setTop (mkF m 19 #[.val (.int p1), .val .null] [])) _
      refine XT.iconstV X1.here hx rfl (1 : Int32) (hb hby d1_19) (by decide) ?_
      show Steps p.tables e below (T1.setTop (mkF m 20 #[.val (.int p1), .val .null] [(.int (1 : Int32))])) _
      refine XS.goto X1.here hx rfl (pc0 := 20) (pc' := 24) rfl (hb hby d1_20) (by decide) (by decide) ?_
      exact k)
    obtain ⟨fs, hr, hrun, hended, hW, hsame⟩ := X1.leave (v := some (.int (1 : Int32))) (fun h => by rw [Bd.returns] at h; cases h)
    refine ⟨_, _, pre2 _ ?_, hrun, hended, _, _, rfl, ?_, ⟨_, rfl⟩, hW, hsame.mono (by decide) (by decide)⟩
    · show Steps p.tables e below (T1.setTop (mkF m 24 #[.val (.int p1), .val .null] [(.int (1 : Int32))])) _
      exact retOut X1 hx Bd.returns rfl (Or.inl ⟨rfl, by simp, _, rfl⟩) (hb hby d1_24) hr
    · show Qc Z p1  h0 n0 _ T1.heap _
      rw [e1]
      exact ⟨rfl, N1, rfl⟩
  · have _ := 0
    obtain ⟨_, _, ⟨T3, L3, k3, n3⟩, -, X3, ⟨Lc3, hQ3, l3, y3, z3⟩, st3⟩ := Jvm.LawKit.callS X0 hx (y := (⟨"com/example/sealtrail/sealtrail/RecordType", "of", "(I)Lcom/example/sealtrail/sealtrail/RecordType;"⟩ : MethodName)) hown (mvT hZ (hw _ (List.mem_of_getElem? (i := 4) rfl))) (mvT hZ (hw _ (List.mem_of_getElem? (i := 5) rfl))) (mvT hZ (hw _ (List.mem_of_getElem? (i := 6) rfl))) (mvT hZ (hw _ (List.mem_of_getElem? (i := 7) rfl))) (by decide) (backOf (W := 0) (rm_of_null l Z a0 hw [] p1 h0 n0 Z0 aB S_BY clB ArB SzB (Or.inr h2)) hZ (hw _ (List.mem_of_getElem? (i := 7) rfl)) (hw _ (List.mem_of_getElem? (i := 6) rfl)) (by decide) (by decide)) (g := (mkF m 1 #[.val (.int p1), .unset] [(.int p1)])) rfl (by rw [hml]; rfl) (argsL := [(.int p1)]) (rest := []) (lenOf pd_0 rfl) rfl (by show 2 * 0 + _ ≤ _; exact Nat.le_of_eq rfl) (hb hby d1_1) (fun _ _ => ⟨rfl, e0, (by decide : 0 + 0 ≤ _), (by decide : 0 + 0 ≤ _)⟩)
    dsimp only [Pt.U, Pt.locs, Pt.cells, Pt.slots] at X3 l3 y3 z3 st3 hQ3
    subst l3 y3 z3
    obtain ⟨rfl, N3q, e3⟩ := hQ3
    have N3 := Fr.app N0 N3q
    have pre4 : ∀ t, Steps p.tables e below (T3.setTop (mkF m 24 #[.val (.int p1), .val .null] [(.int (1 : Int32))])) t → Steps p.tables e below (s₁.setTop (entryFrame m #[(.int p1)] 2)) t := fun t k => pre0 t (by
      show Steps p.tables e below (s₁.setTop (mkF m 0 #[.val (.int p1), .unset] [])) _
      refine XS.iloadN X0.here hx rfl (hb hby d1_0) rfl ?_
      show Steps p.tables e below (s₁.setTop (mkF m 1 #[.val (.int p1), .unset] [(.int p1)])) _
      refine st3 _ ?_
      show Steps p.tables e below (T3.setTop (mkF m 4 #[.val (.int p1), .unset] [.null])) _
      refine XS.astoreN X3.here hx rfl (hb hby d1_4) rfl rfl (l' := #[.val (.int p1), .val .null]) rfl ?_
      show Steps p.tables e below (T3.setTop (mkF m 5 #[.val (.int p1), .val .null] [])) _
      refine XS.iloadN X3.here hx rfl (hb hby d1_5) rfl ?_
      show Steps p.tables e below (T3.setTop (mkF m 6 #[.val (.int p1), .val .null] [(.int p1)])) _
      refine XS.ifNo X3.here hx rfl (hb hby d1_6) rfl ((if0 _ _).trans (flt h1).1) ?_
      show Steps p.tables e below (T3.setTop (mkF m 9 #[.val (.int p1), .val .null] [])) _
      refine XS.iloadN X3.here hx rfl (hb hby d1_9) rfl ?_
      show Steps p.tables e below (T3.setTop (mkF m 10 #[.val (.int p1), .val .null] [(.int p1)])) _
      refine XT.bipushV X3.here hx rfl (13 : Int32) (hb hby d1_10) (by decide) ?_
      show Steps p.tables e below (T3.setTop (mkF m 12 #[.val (.int p1), .val .null] [(.int (13 : Int32)), (.int p1)])) _
      refine XS.icmpNo X3.here hx rfl (hb hby d1_12) rfl (tlt (own_13b h2)).2.2.2 ?_
      show Steps p.tables e below (T3.setTop (mkF m 15 #[.val (.int p1), .val .null] [])) _
      refine XS.aloadN X3.here hx rfl (hb hby d1_15) rfl rfl ?_
      show Steps p.tables e below (T3.setTop (mkF m 16 #[.val (.int p1), .val .null] [.null])) _
      refine XS.ifnonnullNo X3.here hx rfl (hb hby d1_16) rfl ?_
      show Steps p.tables e below (T3.setTop (mkF m 19 #[.val (.int p1), .val .null] [])) _
      refine XT.iconstV X3.here hx rfl (1 : Int32) (hb hby d1_19) (by decide) ?_
      show Steps p.tables e below (T3.setTop (mkF m 20 #[.val (.int p1), .val .null] [(.int (1 : Int32))])) _
      refine XS.goto X3.here hx rfl (pc0 := 20) (pc' := 24) rfl (hb hby d1_20) (by decide) (by decide) ?_
      exact k)
    obtain ⟨fs, hr, hrun, hended, hW, hsame⟩ := X3.leave (v := some (.int (1 : Int32))) (fun h => by rw [Bd.returns] at h; cases h)
    refine ⟨_, _, pre4 _ ?_, hrun, hended, _, _, rfl, ?_, ⟨_, rfl⟩, hW, hsame.mono (by decide) (by decide)⟩
    · show Steps p.tables e below (T3.setTop (mkF m 24 #[.val (.int p1), .val .null] [(.int (1 : Int32))])) _
      exact retOut X3 hx Bd.returns rfl (Or.inl ⟨rfl, by simp, _, rfl⟩) (hb hby d1_24) hr
    · show Qc Z p1  h0 n0 _ T3.heap _
      rw [e3]
      exact ⟨rfl, N3, rfl⟩
  · have _ := 0
    obtain ⟨a, hat, Ea, Fa⟩ := P p1 h1 h2
    obtain ⟨_, _, ⟨T5, L5, k5, n5⟩, -, X5, ⟨Lc5, hQ5, l5, y5, z5⟩, st5⟩ := Jvm.LawKit.callS X0 hx (y := (⟨"com/example/sealtrail/sealtrail/RecordType", "of", "(I)Lcom/example/sealtrail/sealtrail/RecordType;"⟩ : MethodName)) hown (mvT hZ (hw _ (List.mem_of_getElem? (i := 4) rfl))) (mvT hZ (hw _ (List.mem_of_getElem? (i := 5) rfl))) (mvT hZ (hw _ (List.mem_of_getElem? (i := 6) rfl))) (mvT hZ (hw _ (List.mem_of_getElem? (i := 7) rfl))) (by decide) (backOf (W := 0) (rm_of_ref l Z a0 hw [] p1 h0 n0 Z0 aB S_BY clB ArB SzB h1 h2 a hat) hZ (hw _ (List.mem_of_getElem? (i := 7) rfl)) (hw _ (List.mem_of_getElem? (i := 6) rfl)) (by decide) (by decide)) (g := (mkF m 1 #[.val (.int p1), .unset] [(.int p1)])) rfl (by rw [hml]; rfl) (argsL := [(.int p1)]) (rest := []) (lenOf pd_0 rfl) rfl (by show 2 * 0 + _ ≤ _; exact Nat.le_of_eq rfl) (hb hby d1_1) (fun _ _ => ⟨rfl, e0, (by decide : 0 + 0 ≤ _), (by decide : 0 + 0 ≤ _)⟩)
    dsimp only [Pt.U, Pt.locs, Pt.cells, Pt.slots] at X5 l5 y5 z5 st5 hQ5
    subst l5 y5 z5
    obtain ⟨rfl, N5q, e5⟩ := hQ5
    have N5 := Fr.app N0 N5q
    obtain ⟨cq6, kq6, q6a, q6b, q6c⟩ := isOf hZ e5 Ea
    obtain ⟨_, _, ⟨T6, L6, k6, n6⟩, -, X6, ⟨Lc6, hQ6, l6, y6, z6⟩, st6⟩ := X5.virtualBack hx (y := (⟨"com/example/sealtrail/sealtrail/RecordType", "code", "()I"⟩ : MethodName)) (z := (⟨"com/example/sealtrail/sealtrail/RecordType", "code", "()I"⟩ : MethodName)) hown (mvT hZ (hw _ (List.mem_of_getElem? (i := 11) rfl))) (mvT hZ (hw _ (List.mem_of_getElem? (i := 12) rfl))) (notFace_of_selects (args := #[]) (mvT hZ (hw _ (List.mem_of_getElem? (i := 14) rfl)))) (mvT hZ (hw _ (List.mem_of_getElem? (i := 14) rfl))) (mvT hZ (hw _ (List.mem_of_getElem? (i := 13) rfl))) (by decide) (backOf (W := 0) (rm_code l Z a0 hw [] a h0 n0 Z0 p1 Fa) hZ (hw _ (List.mem_of_getElem? (i := 15) rfl)) (hw _ (List.mem_of_getElem? (i := 6) rfl)) (by decide) (by decide)) q6a q6c (g := (mkF m 30 #[.val (.int p1), .val (.ref a)] [(.ref a)])) rfl (by rw [hml]; rfl) (Steps.refl _) (argsL := []) (rest := []) (lenOf pd_1 rfl) rfl (by show 2 * 0 + _ ≤ _; exact Nat.le_of_eq rfl) (hb hby d1_30) (fun _ _ => ⟨rfl, e5, (by decide : 0 + 0 ≤ _), (by decide : 0 + 0 ≤ _)⟩)
    dsimp only [Pt.U, Pt.locs, Pt.cells, Pt.slots] at X6 l6 y6 z6 st6 hQ6
    subst l6 y6 z6
    obtain ⟨rfl, N6q, e6⟩ := hQ6
    have N6 := Fr.app N5 N6q
    have pre7 : ∀ t, Steps p.tables e below (T6.setTop (mkF m 42 #[.val (.int p1), .val (.ref a)] [(.int (1 : Int32))])) t → Steps p.tables e below (s₁.setTop (entryFrame m #[(.int p1)] 2)) t := fun t k => pre0 t (by
      show Steps p.tables e below (s₁.setTop (mkF m 0 #[.val (.int p1), .unset] [])) _
      refine XS.iloadN X0.here hx rfl (hb hby d1_0) rfl ?_
      show Steps p.tables e below (s₁.setTop (mkF m 1 #[.val (.int p1), .unset] [(.int p1)])) _
      refine st5 _ ?_
      show Steps p.tables e below (T5.setTop (mkF m 4 #[.val (.int p1), .unset] [(.ref a)])) _
      refine XS.astoreN X5.here hx rfl (hb hby d1_4) rfl rfl (l' := #[.val (.int p1), .val (.ref a)]) rfl ?_
      show Steps p.tables e below (T5.setTop (mkF m 5 #[.val (.int p1), .val (.ref a)] [])) _
      refine XS.iloadN X5.here hx rfl (hb hby d1_5) rfl ?_
      show Steps p.tables e below (T5.setTop (mkF m 6 #[.val (.int p1), .val (.ref a)] [(.int p1)])) _
      refine XS.ifNo X5.here hx rfl (hb hby d1_6) rfl ((if0 _ _).trans (flt h1).1) ?_
      show Steps p.tables e below (T5.setTop (mkF m 9 #[.val (.int p1), .val (.ref a)] [])) _
      refine XS.iloadN X5.here hx rfl (hb hby d1_9) rfl ?_
      show Steps p.tables e below (T5.setTop (mkF m 10 #[.val (.int p1), .val (.ref a)] [(.int p1)])) _
      refine XT.bipushV X5.here hx rfl (13 : Int32) (hb hby d1_10) (by decide) ?_
      show Steps p.tables e below (T5.setTop (mkF m 12 #[.val (.int p1), .val (.ref a)] [(.int (13 : Int32)), (.int p1)])) _
      refine XS.icmpYes X5.here hx rfl (pc0 := 12) (pc' := 25) rfl (hb hby d1_12) rfl (flt (own_13a h2)).2.2.2 (by decide) (by decide) ?_
      show Steps p.tables e below (T5.setTop (mkF m 25 #[.val (.int p1), .val (.ref a)] [])) _
      refine XS.aloadN X5.here hx rfl (hb hby d1_25) rfl rfl ?_
      show Steps p.tables e below (T5.setTop (mkF m 26 #[.val (.int p1), .val (.ref a)] [(.ref a)])) _
      refine XS.ifnullNo X5.here hx rfl (hb hby d1_26) rfl ?_
      show Steps p.tables e below (T5.setTop (mkF m 29 #[.val (.int p1), .val (.ref a)] [])) _
      refine XS.aloadN X5.here hx rfl (hb hby d1_29) rfl rfl ?_
      show Steps p.tables e below (T5.setTop (mkF m 30 #[.val (.int p1), .val (.ref a)] [(.ref a)])) _
      refine st6.trans ?_
      show Steps p.tables e below (T6.setTop (mkF m 33 #[.val (.int p1), .val (.ref a)] [(.int p1)])) _
      refine XS.iloadN X6.here hx rfl (hb hby d1_33) rfl ?_
      show Steps p.tables e below (T6.setTop (mkF m 34 #[.val (.int p1), .val (.ref a)] [(.int p1), (.int p1)])) _
      refine XS.icmpNo X6.here hx rfl (hb hby d1_34) rfl (teq (rfl : p1 = p1)).2 ?_
      show Steps p.tables e below (T6.setTop (mkF m 37 #[.val (.int p1), .val (.ref a)] [])) _
      refine XT.iconstV X6.here hx rfl (1 : Int32) (hb hby d1_37) (by decide) ?_
      show Steps p.tables e below (T6.setTop (mkF m 38 #[.val (.int p1), .val (.ref a)] [(.int (1 : Int32))])) _
      refine XS.goto X6.here hx rfl (pc0 := 38) (pc' := 42) rfl (hb hby d1_38) (by decide) (by decide) ?_
      exact k)
    obtain ⟨fs, hr, hrun, hended, hW, hsame⟩ := X6.leave (v := some (.int (1 : Int32))) (fun h => by rw [Bd.returns] at h; cases h)
    refine ⟨_, _, pre7 _ ?_, hrun, hended, _, _, rfl, ?_, ⟨_, rfl⟩, hW, hsame.mono (by decide) (by decide)⟩
    · show Steps p.tables e below (T6.setTop (mkF m 42 #[.val (.int p1), .val (.ref a)] [(.int (1 : Int32))])) _
      exact retOut X6 hx Bd.returns rfl (Or.inl ⟨rfl, by simp, _, rfl⟩) (hb hby d1_42) hr
    · show Qc Z p1  h0 n0 _ T6.heap _
      rw [e6]
      exact ⟨rfl, N6, rfl⟩
def Q0 (Z : State) (p1 p2 : Int32) (h0 : Heap) (n0 : Nat) (v : Option Value) (h : Heap) (L : List Loc) : Prop := v = some (.int 1) ∧ Fr n0 L
theorem pn_0 : plainName "com/example/sealtrail/sealtrail/RecordTypeOfPinLaw" = true := by first | (simp [plainName, overriddenIn]; done) | decide +kernel
theorem ef_rm0 (m : MethodId) (x0 : Int32) (x1 : Int32) : entryFrame m #[(.int x0), (.int x1)] maxLocals = mkF m 0 #[.val (.int x0), .val (.int x1), .unset] [] := by first | (simp [entryFrame, mkF, argsToLocals, Value.category, maxLocals]; done) | rfl
set_option maxRecDepth 65536 in
set_option maxHeartbeats 40000000 in
theorem rm0 (l : Launch) (Z : State) (a0 : Array Value) (hw : ∀ d ∈ tables_1, d.before a0 Z = true) (ws : List Jvm.Cond) (p1 : Int32) (p2 : Int32) (h0 : Heap) (n0 : Nat) (Z0 : n0 ≤ h0.size) (aB : Addr) (S_BY : Sta Z h0 "com/example/sealtrail/sealtrail/RecordType" "BY_CODE" "[Lcom/example/sealtrail/sealtrail/RecordType;" (.ref aB)) (clB : Cell) (ArB : Arr Z h0 aB clB (.object "com/example/sealtrail/sealtrail/RecordType")) (SzB : clB.slots.size = (14 : Int32).toNatClampNeg) (P : ∀ j : Int32, ¬ j < (0 : Int32) → j < (14 : Int32) → ∃ a, clB.slots[j.toNatClampNeg]? = some (.ref a) ∧ Exa Z h0 a "com/example/sealtrail/sealtrail/RecordType" ∧ Fld Z h0 a "com/example/sealtrail/sealtrail/RecordType" "code" "I" (.int j)) :
    MetFree l x (head1 (Jvm.Cond.code x code maxLocals ret :: ws) room_1) (fun a U => a = #[(.int p1), (.int p2)] ∧ Z.Warmed39 U.vm ∧ U.heap = h0) (fun _ _ _ _ _ => True) (fun _ U o U' => ∃ v L, o = .returned v ∧ Q0 Z p1 p2  h0 n0 v U'.heap L ∧ FrameEnd U o U' L 0 0) := by
  refine MetFree.of_bodySF (plainFor_of_name pn_0) hisR ?_
  intro p e s m args below meth c s₁ Bd hml0 hP hK
  obtain ⟨rfl, hZ, hh⟩ := hP
  have hx := Bd.exec
  have hby := Bd.bytes
  have hml : c.maxLocals = 3 := hml0
  have hown : s.vm.findClass "com/example/sealtrail/sealtrail/RecordTypeOfPinLaw" = some m.cls := findClass_of_methodNamed Bd.named
  have hnm := (name_of_methodNamed Bd.named Bd.method).1
  have X0 : Stand p l e room_1 s m #[(.int p1), (.int p2)] below meth c s₁ [] 0 0 := Stand.of_body Bd
  have e0 : s₁.heap = h0 := by rw [← hh, Bd.state]; rfl
  have N0 := Fr.nil n0
  have pre0 : ∀ t, Steps p.tables e below (s₁.setTop (mkF m 0 #[.val (.int p1), .val (.int p2), .unset] [])) t → Steps p.tables e below (s₁.setTop (entryFrame m #[(.int p1), (.int p2)] maxLocals)) t := fun t k => castTop (ef_rm0 m p1 p2) k
  obtain ⟨_, _, ⟨T1, L1, k1, n1⟩, -, X1, ⟨Lc1, hQ1, l1, y1, z1⟩, st1⟩ := Jvm.LawKit.callS X0 hx (y := (⟨"com/example/sealtrail/sealtrail/RecordTypeOfPinLaw", "check", "(I)Z"⟩ : MethodName)) hown (mvT hZ (hw _ (List.mem_of_getElem? (i := 0) rfl))) (mvT hZ (hw _ (List.mem_of_getElem? (i := 1) rfl))) (mvT hZ (hw _ (List.mem_of_getElem? (i := 2) rfl))) (mvT hZ (hw _ (List.mem_of_getElem? (i := 3) rfl))) (by decide) (backOf (W := 0) (rm_check l Z a0 hw [] p1 h0 n0 Z0 aB S_BY clB ArB SzB P) hZ (hw _ (List.mem_of_getElem? (i := 3) rfl)) (hw _ (List.mem_of_getElem? (i := 2) rfl)) (by decide) (by decide)) (g := (mkF m 9 #[.val (.int p1), .val (.int p2), .val (.int ((p2 &&& (31 : Int32)) - (8 : Int32)))] [(.int p1)])) rfl (by rw [hml]; rfl) (argsL := [(.int p1)]) (rest := []) (lenOf pd_2 rfl) rfl (by show 2 * 0 + _ ≤ _; exact Nat.le_of_eq rfl) (hb hby at_9) (fun _ _ => ⟨rfl, e0, (by decide : 0 + 0 ≤ _), (by decide : 0 + 0 ≤ _)⟩)
  dsimp only [Pt.U, Pt.locs, Pt.cells, Pt.slots] at X1 l1 y1 z1 st1 hQ1
  subst l1 y1 z1
  obtain ⟨rfl, N1q, e1⟩ := hQ1
  have N1 := Fr.app N0 N1q
  obtain ⟨_, _, ⟨T2, L2, k2, n2⟩, -, X2, ⟨Lc2, hQ2, l2, y2, z2⟩, st2⟩ := Jvm.LawKit.callS X1 hx (y := (⟨"com/example/sealtrail/sealtrail/RecordTypeOfPinLaw", "check", "(I)Z"⟩ : MethodName)) hown (mvT hZ (hw _ (List.mem_of_getElem? (i := 0) rfl))) (mvT hZ (hw _ (List.mem_of_getElem? (i := 1) rfl))) (mvT hZ (hw _ (List.mem_of_getElem? (i := 2) rfl))) (mvT hZ (hw _ (List.mem_of_getElem? (i := 3) rfl))) (by decide) (backOf (W := 0) (rm_check l Z a0 hw [] ((p2 &&& (31 : Int32)) - (8 : Int32)) h0 n0 Z0 aB S_BY clB ArB SzB P) hZ (hw _ (List.mem_of_getElem? (i := 3) rfl)) (hw _ (List.mem_of_getElem? (i := 2) rfl)) (by decide) (by decide)) (g := (mkF m 16 #[.val (.int p1), .val (.int p2), .val (.int ((p2 &&& (31 : Int32)) - (8 : Int32)))] [(.int ((p2 &&& (31 : Int32)) - (8 : Int32)))])) rfl (by rw [hml]; rfl) (argsL := [(.int ((p2 &&& (31 : Int32)) - (8 : Int32)))]) (rest := []) (lenOf pd_2 rfl) rfl (by show 2 * 0 + _ ≤ _; exact Nat.le_of_eq rfl) (hb hby at_16) (fun _ _ => ⟨rfl, e1, (by decide : 0 + 0 ≤ _), (by decide : 0 + 0 ≤ _)⟩)
  dsimp only [Pt.U, Pt.locs, Pt.cells, Pt.slots] at X2 l2 y2 z2 st2 hQ2
  subst l2 y2 z2
  obtain ⟨rfl, N2q, e2⟩ := hQ2
  have N2 := Fr.app N1 N2q
  have pre3 : ∀ t, Steps p.tables e below (T2.setTop (mkF m 27 #[.val (.int p1), .val (.int p2), .val (.int ((p2 &&& (31 : Int32)) - (8 : Int32)))] [(.int (1 : Int32))])) t → Steps p.tables e below (s₁.setTop (entryFrame m #[(.int p1), (.int p2)] maxLocals)) t := fun t k => pre0 t (by
    show Steps p.tables e below (s₁.setTop (mkF m 0 #[.val (.int p1), .val (.int p2), .unset] [])) _
    refine XS.iloadN X0.here hx rfl (hb hby at_0) rfl ?_
    show Steps p.tables e below (s₁.setTop (mkF m 1 #[.val (.int p1), .val (.int p2), .unset] [(.int p2)])) _
    refine XT.bipushV X0.here hx rfl (31 : Int32) (hb hby at_1) (by decide) ?_
    show Steps p.tables e below (s₁.setTop (mkF m 3 #[.val (.int p1), .val (.int p2), .unset] [(.int (31 : Int32)), (.int p2)])) _
    refine XS.iand X0.here hx rfl (hb hby at_3) rfl ?_
    show Steps p.tables e below (s₁.setTop (mkF m 4 #[.val (.int p1), .val (.int p2), .unset] [(.int (p2 &&& (31 : Int32)))])) _
    refine XT.bipushV X0.here hx rfl (8 : Int32) (hb hby at_4) (by decide) ?_
    show Steps p.tables e below (s₁.setTop (mkF m 6 #[.val (.int p1), .val (.int p2), .unset] [(.int (8 : Int32)), (.int (p2 &&& (31 : Int32)))])) _
    refine XS.isub X0.here hx rfl (hb hby at_6) rfl ?_
    show Steps p.tables e below (s₁.setTop (mkF m 7 #[.val (.int p1), .val (.int p2), .unset] [(.int ((p2 &&& (31 : Int32)) - (8 : Int32)))])) _
    refine XS.istoreN X0.here hx rfl (hb hby at_7) rfl (l' := #[.val (.int p1), .val (.int p2), .val (.int ((p2 &&& (31 : Int32)) - (8 : Int32)))]) rfl ?_
    show Steps p.tables e below (s₁.setTop (mkF m 8 #[.val (.int p1), .val (.int p2), .val (.int ((p2 &&& (31 : Int32)) - (8 : Int32)))] [])) _
    refine XS.iloadN X0.here hx rfl (hb hby at_8) rfl ?_
    show Steps p.tables e below (s₁.setTop (mkF m 9 #[.val (.int p1), .val (.int p2), .val (.int ((p2 &&& (31 : Int32)) - (8 : Int32)))] [(.int p1)])) _
    refine st1 _ ?_
    show Steps p.tables e below (T1.setTop (mkF m 12 #[.val (.int p1), .val (.int p2), .val (.int ((p2 &&& (31 : Int32)) - (8 : Int32)))] [(.int (1 : Int32))])) _
    refine XS.ifNo X1.here hx rfl (hb hby at_12) rfl ((if0 _ _).trans (feq (by decide : ¬ ((1 : Int32) = (0 : Int32)))).1) ?_
    show Steps p.tables e below (T1.setTop (mkF m 15 #[.val (.int p1), .val (.int p2), .val (.int ((p2 &&& (31 : Int32)) - (8 : Int32)))] [])) _
    refine XS.iloadN X1.here hx rfl (hb hby at_15) rfl ?_
    show Steps p.tables e below (T1.setTop (mkF m 16 #[.val (.int p1), .val (.int p2), .val (.int ((p2 &&& (31 : Int32)) - (8 : Int32)))] [(.int ((p2 &&& (31 : Int32)) - (8 : Int32)))])) _
    refine st2 _ ?_
    show Steps p.tables e below (T2.setTop (mkF m 19 #[.val (.int p1), .val (.int p2), .val (.int ((p2 &&& (31 : Int32)) - (8 : Int32)))] [(.int (1 : Int32))])) _
    refine XS.ifNo X2.here hx rfl (hb hby at_19) rfl ((if0 _ _).trans (feq (by decide : ¬ ((1 : Int32) = (0 : Int32)))).1) ?_
    show Steps p.tables e below (T2.setTop (mkF m 22 #[.val (.int p1), .val (.int p2), .val (.int ((p2 &&& (31 : Int32)) - (8 : Int32)))] [])) _
    refine XT.iconstV X2.here hx rfl (1 : Int32) (hb hby at_22) (by decide) ?_
    show Steps p.tables e below (T2.setTop (mkF m 23 #[.val (.int p1), .val (.int p2), .val (.int ((p2 &&& (31 : Int32)) - (8 : Int32)))] [(.int (1 : Int32))])) _
    refine XS.goto X2.here hx rfl (pc0 := 23) (pc' := 27) rfl (hb hby at_23) (by decide) (by decide) ?_
    exact k)
  obtain ⟨fs, hr, hrun, hended, hW, hsame⟩ := X2.leave (v := some (.int (1 : Int32))) (fun h => by rw [Bd.returns] at h; cases h)
  refine ⟨_, _, pre3 _ ?_, hrun, hended, _, _, rfl, ?_, ⟨_, rfl⟩, hW, hsame.mono (by decide) (by decide)⟩
  · show Steps p.tables e below (T2.setTop (mkF m 27 #[.val (.int p1), .val (.int p2), .val (.int ((p2 &&& (31 : Int32)) - (8 : Int32)))] [(.int (1 : Int32))])) _
    exact retOut X2 hx Bd.returns rfl (Or.inl ⟨rfl, by simp, _, rfl⟩) (hb hby at_27) hr
  · show Q0 Z p1 p2  h0 n0 _ T2.heap _
    rw [e2]
    exact ⟨rfl, N2⟩
set_option maxRecDepth 65536 in
set_option maxHeartbeats 40000000 in
theorem comes_1 {Post : Tables → Env → Array Value → State → Outcome → State → Prop} (hpost : ∀ tb e args s v u, (limb_1_1.after args s (.returned v) u = true ∧ limb_1_2.after args s (.returned v) u = true ∧ True) → FrameEnd s (.returned v) u (Jvm.fieldLocs frame_1_writes args s ++ Jvm.arrayLocs frame_1_arrays args s ++ Jvm.staticLocs frame_1_statics s) 0 0 → Post tb e args s (.returned v) u) :
    ArmFor flags0 classFile x code maxLocals ret World_1 tables_1 room_1 Calls_1 rest_1 Pre_1 Post := by
  intro l hfl _ _ p e ha hc hk s m args below hf hA hF happ hP
  obtain ⟨hcalls, hrest, hpre⟩ := hP
  obtain ⟨-, -, -, hnamed, -, -, -, hat⟩ := (Spec.applies_iff hf).mp happ
  obtain ⟨hg, hn⟩ := and_e (Cond.before_iff.mp (show (Jvm.Cond.and given_1 narrow_1).before args s = true from hpre))
  obtain ⟨gc, gr0⟩ := and_e hg
  obtain ⟨ga0, gr1⟩ := and_e gr0
  obtain ⟨w0, w1, rfl⟩ : ∃ w0 w1 : Value, args = #[w0, w1] := by
    have hs : args.size = 2 := by simpa [Cond.value, given_1] using gc
    obtain ⟨L⟩ := args
    match L, hs with
    | [w0, w1], _ => exact ⟨w0, w1, rfl⟩
  have hw := fun d (hd : d ∈ tables_1) => atoms_spec (ws := Jvm.Cond.code x code maxLocals ret :: tables_1) hat d (List.mem_cons_of_mem _ hd)
  have hfit : Fit s := fun {y c} hc i hi => by
    obtain ⟨ha, rfl⟩ := Array.getElem?_eq_some_iff.mp hc
    have q := List.all_eq_true.mp ((Array.all_eq_true_iff_forall_mem.mp hF) _ (Array.getElem_mem ha)) i (List.mem_range.mpr hi)
    simpa [Array.getElem?_eq_getElem hi] using q
  obtain ⟨i0, ei0⟩ := is_v ga0
  obtain rfl : w0 = (.int i0) := Option.some.inj ei0
  obtain ⟨i1, ei1⟩ := is_v gr1
  obtain rfl : w1 = (.int i1) := Option.some.inj ei1
  obtain ⟨m0a, m0b⟩ := and_e hn
  obtain ⟨m2a, m2b⟩ := and_e m0b
  obtain ⟨m4a, m4b⟩ := and_e m2b
  obtain ⟨m6a, m6b⟩ := and_e m4b
  obtain ⟨m8a, m8b⟩ := and_e m6b
  obtain ⟨m10a, m10b⟩ := and_e m8b
  obtain ⟨m12a, m12b⟩ := and_e m10b
  obtain ⟨m14a, m14b⟩ := and_e m12b
  obtain ⟨m16a, m16b⟩ := and_e m14b
  obtain ⟨m18a, m18b⟩ := and_e m16b
  obtain ⟨m20a, m20b⟩ := and_e m18b
  obtain ⟨m22a, m22b⟩ := and_e m20b
  obtain ⟨m24a, m24b⟩ := and_e m22b
  obtain ⟨m26a, m26b⟩ := and_e m24b
  obtain ⟨m28a, m28b⟩ := and_e m26b
  obtain ⟨m30a, m30b⟩ := and_e m28b
  obtain ⟨m32a, m32b⟩ := and_e m30b
  obtain ⟨m34a, m34b⟩ := and_e m32b
  obtain ⟨m36a, m36b⟩ := and_e m34b
  obtain ⟨m38a, m38b⟩ := and_e m36b
  obtain ⟨m40a, m40b⟩ := and_e m38b
  obtain ⟨m42a, m42b⟩ := and_e m40b
  obtain ⟨m44a, m44b⟩ := and_e m42b
  obtain ⟨m46a, m46b⟩ := and_e m44b
  obtain ⟨m48a, m48b⟩ := and_e m46b
  obtain ⟨m50a, m50b⟩ := and_e m48b
  obtain ⟨m52a, m52b⟩ := and_e m50b
  obtain ⟨m54a, m54b⟩ := and_e m52b
  obtain ⟨m56a, m56b⟩ := and_e m54b
  obtain ⟨m58a, m58b⟩ := and_e m56b
  obtain ⟨m60a, m60b⟩ := and_e m58b
  obtain ⟨m62a, m62b⟩ := and_e m60b
  obtain ⟨m64a, m64b⟩ := and_e m62b
  obtain ⟨m66a, m66b⟩ := and_e m64b
  obtain ⟨m68a, m68b⟩ := and_e m66b
  obtain ⟨m70a, m70b⟩ := and_e m68b
  obtain ⟨m72a, m72b⟩ := and_e m70b
  obtain ⟨m74a, m74b⟩ := and_e m72b
  obtain ⟨m76a, m76b⟩ := and_e m74b
  obtain ⟨m78a, m78b⟩ := and_e m76b
  obtain ⟨m80a, m80b⟩ := and_e m78b
  obtain ⟨m82a, m82b⟩ := and_e m80b
  obtain ⟨m84a, m84b⟩ := and_e m82b
  obtain ⟨a_CLIENT_DATA, v_CLIENT_DATA⟩ := exa_v m4a
  have E_CLIENT_DATA := Exa.start v_CLIENT_DATA m4a
  have S_CLIENT_DATA := Sta.start v_CLIENT_DATA (Or.inr ⟨(hw _ (List.mem_of_getElem? (i := 6) rfl)), (hw _ (List.mem_of_getElem? (i := 10) rfl))⟩)
  obtain ⟨a_CLIENT_IDENTITY, v_CLIENT_IDENTITY⟩ := exa_v m10a
  have E_CLIENT_IDENTITY := Exa.start v_CLIENT_IDENTITY m10a
  have S_CLIENT_IDENTITY := Sta.start v_CLIENT_IDENTITY (Or.inr ⟨(hw _ (List.mem_of_getElem? (i := 6) rfl)), (hw _ (List.mem_of_getElem? (i := 18) rfl))⟩)
  obtain ⟨a_SIGNATURE, v_SIGNATURE⟩ := exa_v m16a
  have E_SIGNATURE := Exa.start v_SIGNATURE m16a
  have S_SIGNATURE := Sta.start v_SIGNATURE (Or.inr ⟨(hw _ (List.mem_of_getElem? (i := 6) rfl)), (hw _ (List.mem_of_getElem? (i := 19) rfl))⟩)
  obtain ⟨a_SIGNING_KEY, v_SIGNING_KEY⟩ := exa_v m22a
  have E_SIGNING_KEY := Exa.start v_SIGNING_KEY m22a
  have S_SIGNING_KEY := Sta.start v_SIGNING_KEY (Or.inr ⟨(hw _ (List.mem_of_getElem? (i := 6) rfl)), (hw _ (List.mem_of_getElem? (i := 20) rfl))⟩)
  obtain ⟨a_SHUTDOWN, v_SHUTDOWN⟩ := exa_v m28a
  have E_SHUTDOWN := Exa.start v_SHUTDOWN m28a
  have S_SHUTDOWN := Sta.start v_SHUTDOWN (Or.inr ⟨(hw _ (List.mem_of_getElem? (i := 6) rfl)), (hw _ (List.mem_of_getElem? (i := 21) rfl))⟩)
  obtain ⟨a_PREVIOUS_FILE, v_PREVIOUS_FILE⟩ := exa_v m34a
  have E_PREVIOUS_FILE := Exa.start v_PREVIOUS_FILE m34a
  have S_PREVIOUS_FILE := Sta.start v_PREVIOUS_FILE (Or.inr ⟨(hw _ (List.mem_of_getElem? (i := 6) rfl)), (hw _ (List.mem_of_getElem? (i := 22) rfl))⟩)
  obtain ⟨a_RANDOM_KEY, v_RANDOM_KEY⟩ := exa_v m40a
  have E_RANDOM_KEY := Exa.start v_RANDOM_KEY m40a
  have S_RANDOM_KEY := Sta.start v_RANDOM_KEY (Or.inr ⟨(hw _ (List.mem_of_getElem? (i := 6) rfl)), (hw _ (List.mem_of_getElem? (i := 23) rfl))⟩)
  obtain ⟨a_SYMMETRIC_KEY, v_SYMMETRIC_KEY⟩ := exa_v m46a
  have E_SYMMETRIC_KEY := Exa.start v_SYMMETRIC_KEY m46a
  have S_SYMMETRIC_KEY := Sta.start v_SYMMETRIC_KEY (Or.inr ⟨(hw _ (List.mem_of_getElem? (i := 6) rfl)), (hw _ (List.mem_of_getElem? (i := 24) rfl))⟩)
  obtain ⟨a_UNAUTHORISED_ATTEMPT, v_UNAUTHORISED_ATTEMPT⟩ := exa_v m52a
  have E_UNAUTHORISED_ATTEMPT := Exa.start v_UNAUTHORISED_ATTEMPT m52a
  have S_UNAUTHORISED_ATTEMPT := Sta.start v_UNAUTHORISED_ATTEMPT (Or.inr ⟨(hw _ (List.mem_of_getElem? (i := 6) rfl)), (hw _ (List.mem_of_getElem? (i := 25) rfl))⟩)
  obtain ⟨a_AUDITOR_NOTIFICATION, v_AUDITOR_NOTIFICATION⟩ := exa_v m58a
  have E_AUDITOR_NOTIFICATION := Exa.start v_AUDITOR_NOTIFICATION m58a
  have S_AUDITOR_NOTIFICATION := Sta.start v_AUDITOR_NOTIFICATION (Or.inr ⟨(hw _ (List.mem_of_getElem? (i := 6) rfl)), (hw _ (List.mem_of_getElem? (i := 26) rfl))⟩)
  obtain ⟨a_STARTUP, v_STARTUP⟩ := exa_v m64a
  have E_STARTUP := Exa.start v_STARTUP m64a
  have S_STARTUP := Sta.start v_STARTUP (Or.inr ⟨(hw _ (List.mem_of_getElem? (i := 6) rfl)), (hw _ (List.mem_of_getElem? (i := 27) rfl))⟩)
  obtain ⟨a_ACCUMULATED_HASH, v_ACCUMULATED_HASH⟩ := exa_v m70a
  have E_ACCUMULATED_HASH := Exa.start v_ACCUMULATED_HASH m70a
  have S_ACCUMULATED_HASH := Sta.start v_ACCUMULATED_HASH (Or.inr ⟨(hw _ (List.mem_of_getElem? (i := 6) rfl)), (hw _ (List.mem_of_getElem? (i := 28) rfl))⟩)
  obtain ⟨a_HEARTBEAT, v_HEARTBEAT⟩ := exa_v m76a
  have E_HEARTBEAT := Exa.start v_HEARTBEAT m76a
  have S_HEARTBEAT := Sta.start v_HEARTBEAT (Or.inr ⟨(hw _ (List.mem_of_getElem? (i := 6) rfl)), (hw _ (List.mem_of_getElem? (i := 29) rfl))⟩)
  obtain ⟨a_ROTATION, v_ROTATION⟩ := exa_v m82a
  have E_ROTATION := Exa.start v_ROTATION m82a
  have S_ROTATION := Sta.start v_ROTATION (Or.inr ⟨(hw _ (List.mem_of_getElem? (i := 6) rfl)), (hw _ (List.mem_of_getElem? (i := 30) rfl))⟩)
  have F_CLIENT_DATA_code := own_fldpin v_CLIENT_DATA m8a
  have F_CLIENT_IDENTITY_code := own_fldpin v_CLIENT_IDENTITY m14a
  have F_SIGNATURE_code := own_fldpin v_SIGNATURE m20a
  have F_SIGNING_KEY_code := own_fldpin v_SIGNING_KEY m26a
  have F_SHUTDOWN_code := own_fldpin v_SHUTDOWN m32a
  have F_PREVIOUS_FILE_code := own_fldpin v_PREVIOUS_FILE m38a
  have F_RANDOM_KEY_code := own_fldpin v_RANDOM_KEY m44a
  have F_SYMMETRIC_KEY_code := own_fldpin v_SYMMETRIC_KEY m50a
  have F_UNAUTHORISED_ATTEMPT_code := own_fldpin v_UNAUTHORISED_ATTEMPT m56a
  have F_AUDITOR_NOTIFICATION_code := own_fldpin v_AUDITOR_NOTIFICATION m62a
  have F_STARTUP_code := own_fldpin v_STARTUP m68a
  have F_ACCUMULATED_HASH_code := own_fldpin v_ACCUMULATED_HASH m74a
  have F_HEARTBEAT_code := own_fldpin v_HEARTBEAT m80a
  have F_ROTATION_code := own_fldpin v_ROTATION m84b
  obtain ⟨aB, vB⟩ := arr_v m0a
  obtain ⟨clB, ArB⟩ := Arr.start vB m0a
  have S_BY := Sta.start vB (Or.inr ⟨(hw _ (List.mem_of_getElem? (i := 6) rfl)), (hw _ (List.mem_of_getElem? (i := 9) rfl))⟩)
  have SzB := own_sz (own_len vB ArB m2a)
  have el_0 := own_elem vB ArB (j := (0 : Int32)) (by decide) v_CLIENT_DATA m6a
  have el_12 := own_elem vB ArB (j := (12 : Int32)) (by decide) v_CLIENT_IDENTITY m12a
  have el_5 := own_elem vB ArB (j := (5 : Int32)) (by decide) v_SIGNATURE m18a
  have el_6 := own_elem vB ArB (j := (6 : Int32)) (by decide) v_SIGNING_KEY m24a
  have el_8 := own_elem vB ArB (j := (8 : Int32)) (by decide) v_SHUTDOWN m30a
  have el_3 := own_elem vB ArB (j := (3 : Int32)) (by decide) v_PREVIOUS_FILE m36a
  have el_1 := own_elem vB ArB (j := (1 : Int32)) (by decide) v_RANDOM_KEY m42a
  have el_2 := own_elem vB ArB (j := (2 : Int32)) (by decide) v_SYMMETRIC_KEY m48a
  have el_10 := own_elem vB ArB (j := (10 : Int32)) (by decide) v_UNAUTHORISED_ATTEMPT m54a
  have el_11 := own_elem vB ArB (j := (11 : Int32)) (by decide) v_AUDITOR_NOTIFICATION m60a
  have el_7 := own_elem vB ArB (j := (7 : Int32)) (by decide) v_STARTUP m66a
  have el_4 := own_elem vB ArB (j := (4 : Int32)) (by decide) v_ACCUMULATED_HASH m72a
  have el_9 := own_elem vB ArB (j := (9 : Int32)) (by decide) v_HEARTBEAT m78a
  have el_13 := own_elem vB ArB (j := (13 : Int32)) (by decide) v_ROTATION m84a
  have P : ∀ j : Int32, ¬ j < (0 : Int32) → j < (14 : Int32) → ∃ a, clB.slots[j.toNatClampNeg]? = some (.ref a) ∧ Exa s s.heap a "com/example/sealtrail/sealtrail/RecordType" ∧ Fld s s.heap a "com/example/sealtrail/sealtrail/RecordType" "code" "I" (.int j) := by
    intro j h1 h2
    rcases own_below h1 h2 with rfl | rfl | rfl | rfl | rfl | rfl | rfl | rfl | rfl | rfl | rfl | rfl | rfl | rfl
    · exact ⟨_, el_0, E_CLIENT_DATA, F_CLIENT_DATA_code⟩
    · exact ⟨_, el_1, E_RANDOM_KEY, F_RANDOM_KEY_code⟩
    · exact ⟨_, el_2, E_SYMMETRIC_KEY, F_SYMMETRIC_KEY_code⟩
    · exact ⟨_, el_3, E_PREVIOUS_FILE, F_PREVIOUS_FILE_code⟩
    · exact ⟨_, el_4, E_ACCUMULATED_HASH, F_ACCUMULATED_HASH_code⟩
    · exact ⟨_, el_5, E_SIGNATURE, F_SIGNATURE_code⟩
    · exact ⟨_, el_6, E_SIGNING_KEY, F_SIGNING_KEY_code⟩
    · exact ⟨_, el_7, E_STARTUP, F_STARTUP_code⟩
    · exact ⟨_, el_8, E_SHUTDOWN, F_SHUTDOWN_code⟩
    · exact ⟨_, el_9, E_HEARTBEAT, F_HEARTBEAT_code⟩
    · exact ⟨_, el_10, E_UNAUTHORISED_ATTEMPT, F_UNAUTHORISED_ATTEMPT_code⟩
    · exact ⟨_, el_11, E_AUDITOR_NOTIFICATION, F_AUDITOR_NOTIFICATION_code⟩
    · exact ⟨_, el_12, E_CLIENT_IDENTITY, F_CLIENT_IDENTITY_code⟩
    · exact ⟨_, el_13, E_ROTATION, F_ROTATION_code⟩
  obtain ⟨n, o, h1, h2, h3, _, L, rfl, ⟨rfl, N⟩, hq⟩ := rm0 l s _ hw tables_1 i0 i1 s.heap s.heap.size (Nat.le_refl _) aB S_BY clB ArB SzB P p e ha hc hk s m _ below hf ((Spec.applies_iff_loose hf).mp happ).1 ⟨rfl, State.Warmed39.refl s, rfl⟩ trivial
  exact ⟨n, _, h1, h2, h3, hpost _ _ _ _ _ _ ⟨Cond.after_iff.mpr rfl, Cond.after_iff.mpr (eq_i res_at (Term.int_eval (1)) rfl), trivial⟩ ⟨hq.1, hq.2.1, (hq.2.2.sift fun y hy => Or.inr (N y hy)).mono (by decide) (by decide)⟩⟩
theorem main_1_1 : Claimed_1_1 := comes_1 fun _ _ _ _ _ _ h hF => ⟨h.1, hF⟩
theorem main_1_2 : Claimed_1_2 := comes_1 fun _ _ _ _ _ _ h hF => ⟨h.2.1, hF⟩
end Jvm.Pilot.@@N@@
namespace Jvm.Pilot.@@N@@
open Jvm Jvm.ClassFile Sem Op Lib Jvm.Free Jvm.Stand Jvm.Pilot.@@N@@.Jvm.D
/-! MADE BY PROGRAM (witnessworld.py) out of the Statement's table words and the real class files: 13 classes; the members and pool entries that the words name. The judged class is class 1, her method 2. -/
namespace start1
open Jvm.ClassFile
def u (s : String) : CpInfo := .utf8 (stringToUtf16 s)
/-- a pool by its gaps: so many unusable entries, then the entry; so many at the end -/
def gap : Nat → List CpInfo → List CpInfo
  | 0, r => r
  | n + 1, r => .unusable :: gap n r
def poolList (es : List (Nat × CpInfo)) (last : Nat) : List CpInfo := es.foldr (fun e r => gap e.1 (e.2 :: r)) (gap last [])
def pool (es : List (Nat × CpInfo)) (last : Nat) : Array CpInfo := ⟨poolList es last⟩
def fileOf (pool : Array CpInfo) (this : Nat) (attrs : Array Attribute := #[]) (ms : Array MethodInfo := #[]) (fl : Nat := 33) (sup : Nat := 0) (ifs : Array Nat := #[]) (fds : Array FieldInfo := #[]) : ClassFile where
  minorVersion := 0
  majorVersion := 65
  constantPool := pool
  accessFlags := fl
  thisClass := this
  superClass := sup
  interfaces := ifs
  fields := fds
  methods := ms
  attributes := attrs
def plain (name : String) (sup : Option ClassId) : Class where
  name := name
  kind := .ordinary
  loader := none
  accessFlags := 33
  super := sup
  interfaces := #[]
  cf := none
  fields := #[]
  methods := #[]
  instanceTypes := #[]
  staticTypes := #[]
  resolved := #[]
  callSites := []
  init := .initialized
  statics := none
  mirror := none

def pool0 : Array CpInfo := pool [(5, u "<init>"), (0, u "()V"), (1, .class_ 10), (1, u "java/lang/Object")] 113

def k0m0 : Method := { name := "<init>", desc := "()V", sig := { parameters := [], returnType := none }, accessFlags := 1, code := none }
/-- java/lang/Object -/
def k0 : Class := { plain "java/lang/Object" none with
  accessFlags := 33
  interfaces := #[]
  cf := some (fileOf pool0 8 #[] #[{ accessFlags := 1, nameIndex := 5, descriptorIndex := 6, attributes := #[] }] 33 0 #[] #[])
  fields := #[]
  methods := #[k0m0]
  instanceTypes := #[]
  staticTypes := #[]
  resolved := Array.replicate 124 none
  statics := none }

def pool1 : Array CpInfo := pool [(2, .class_ 4), (1, u "java/lang/Object"), (0, u "<init>"), (0, u "()V"), (0, .methodref 8 9), (0, .class_ 10), (0, .nameAndType 11 12), (0, u "com/example/sealtrail/sealtrail/RecordType"), (0, u "of"), (0, u "(I)Lcom/example/sealtrail/sealtrail/RecordType;"), (0, .methodref 8 14), (0, .nameAndType 15 16), (0, u "code"), (0, u "()I"), (0, .methodref 18 19), (0, .class_ 20), (0, .nameAndType 21 22), (0, u "com/example/sealtrail/sealtrail/RecordTypeOfPinLaw"), (0, u "check"), (0, u "(I)Z"), (3, u "law"), (0, u "(II)Z")] 2

def k1m0 : Method := { name := "<init>", desc := "()V", sig := { parameters := [], returnType := none }, accessFlags := 1, code := none }
def k1c1 : Code := { maxStack := 2, maxLocals := 2, code := method_2_code, exceptionTable := #[], attributes := #[] }
def k1m1 : Method := { name := "check", desc := "(I)Z", sig := { parameters := [.int], returnType := some .boolean }, accessFlags := 10, code := some k1c1 }
def k1c2 : Code := { maxStack := 2, maxLocals := 3, code := code, exceptionTable := #[], attributes := #[] }
def k1m2 : Method := { name := "law", desc := "(II)Z", sig := { parameters := [.int, .int], returnType := some .boolean }, accessFlags := 9, code := some k1c2 }
/-- com/example/sealtrail/sealtrail/RecordTypeOfPinLaw -/
def k1 : Class := { plain "com/example/sealtrail/sealtrail/RecordTypeOfPinLaw" (some 0) with
  accessFlags := 49
  interfaces := #[]
  cf := some (fileOf pool1 18 #[] #[{ accessFlags := 1, nameIndex := 5, descriptorIndex := 6, attributes := #[] }, { accessFlags := 10, nameIndex := 21, descriptorIndex := 22, attributes := #[] }, { accessFlags := 9, nameIndex := 26, descriptorIndex := 27, attributes := #[] }] 49 2 #[] #[])
  fields := #[]
  methods := #[k1m0, k1m1, k1m2]
  instanceTypes := #[]
  staticTypes := #[]
  resolved := Array.replicate 30 none
  statics := none }

def pool2 : Array CpInfo := pool [(1, .class_ 2), (0, u "java/lang/constant/Constable"), (0, .class_ 4), (0, u "java/lang/Object")] 6

/-- java/lang/constant/Constable -/
def k2 : Class := { plain "java/lang/constant/Constable" (some 0) with
  accessFlags := 1537
  interfaces := #[]
  cf := some (fileOf pool2 1 #[] #[] 1537 3 #[] #[])
  fields := #[]
  methods := #[]
  instanceTypes := #[]
  staticTypes := #[]
  resolved := Array.replicate 11 none
  statics := none }

def pool3 : Array CpInfo := pool [(1, .class_ 2), (0, u "java/lang/Comparable"), (0, .class_ 4), (0, u "java/lang/Object")] 7

/-- java/lang/Comparable -/
def k3 : Class := { plain "java/lang/Comparable" (some 0) with
  accessFlags := 1537
  interfaces := #[]
  cf := some (fileOf pool3 1 #[] #[] 1537 3 #[] #[])
  fields := #[]
  methods := #[]
  instanceTypes := #[]
  staticTypes := #[]
  resolved := Array.replicate 12 none
  statics := none }

def pool4 : Array CpInfo := pool [(1, .class_ 2), (0, u "java/io/Serializable"), (0, .class_ 4), (0, u "java/lang/Object")] 2

/-- java/io/Serializable -/
def k4 : Class := { plain "java/io/Serializable" (some 0) with
  accessFlags := 1537
  interfaces := #[]
  cf := some (fileOf pool4 1 #[] #[] 1537 3 #[] #[])
  fields := #[]
  methods := #[]
  instanceTypes := #[]
  staticTypes := #[]
  resolved := Array.replicate 7 none
  statics := none }

def pool5 : Array CpInfo := pool [(2, .class_ 4), (1, u "java/lang/Enum"), (0, u "name"), (0, u "Ljava/lang/String;"), (2, u "ordinal"), (0, u "I"), (1, .class_ 14), (1, u "java/lang/Object"), (4, u "hash"), (86, .class_ 108), (1, u "java/lang/Enum$EnumDesc"), (2, .class_ 112), (0, u "java/lang/constant/Constable"), (0, .class_ 114), (0, u "java/lang/Comparable"), (0, .class_ 116), (0, u "java/io/Serializable")] 87

/-- java/lang/Enum -/
def k5 : Class := { plain "java/lang/Enum" (some 0) with
  accessFlags := 1057
  interfaces := #[2, 3, 4]
  cf := some (fileOf pool5 2 #[.nestMembers #[106]] #[] 1057 12 #[111, 113, 115] #[{ accessFlags := 18, nameIndex := 5, descriptorIndex := 6, attributes := #[] }, { accessFlags := 18, nameIndex := 9, descriptorIndex := 10, attributes := #[] }, { accessFlags := 2, nameIndex := 19, descriptorIndex := 10, attributes := #[] }])
  fields := #[{ name := "name", type := (.object "java/lang/String"), accessFlags := 18, slot := 0, constantValue := 0 }, { name := "ordinal", type := .int, accessFlags := 18, slot := 1, constantValue := 0 }, { name := "hash", type := .int, accessFlags := 2, slot := 2, constantValue := 0 }]
  methods := #[]
  instanceTypes := #[(.object "java/lang/String"), .int, .int]
  staticTypes := #[]
  resolved := Array.replicate 204 none
  statics := none }

def pool6 : Array CpInfo := pool [(1, .class_ 2), (0, u "com/example/sealtrail/sealtrail/RecordType"), (2, u "CLIENT_DATA"), (0, u "Lcom/example/sealtrail/sealtrail/RecordType;"), (2, u "RANDOM_KEY"), (2, u "SYMMETRIC_KEY"), (2, u "PREVIOUS_FILE"), (2, u "ACCUMULATED_HASH"), (2, u "SIGNATURE"), (2, u "SIGNING_KEY"), (2, u "STARTUP"), (2, u "SHUTDOWN"), (2, u "HEARTBEAT"), (2, u "UNAUTHORISED_ATTEMPT"), (2, u "AUDITOR_NOTIFICATION"), (2, u "CLIENT_IDENTITY"), (2, u "ROTATION"), (2, u "$VALUES"), (0, u "[Lcom/example/sealtrail/sealtrail/RecordType;"), (6, .class_ 58), (1, u "java/lang/Enum"), (9, .fieldref 1 69), (0, .nameAndType 70 71), (0, u "code"), (0, u "I"), (2, u "label"), (0, u "Ljava/lang/String;"), (2, u "textStart"), (0, .fieldref 1 80), (0, .nameAndType 81 49), (0, u "BY_CODE"), (61, u "of"), (0, u "(I)Lcom/example/sealtrail/sealtrail/RecordType;"), (1, u "()I")] 6

def k6c0 : Code := { maxStack := 2, maxLocals := 1, code := prog_47_method_5_code, exceptionTable := #[], attributes := #[] }
def k6m0 : Method := { name := "of", desc := "(I)Lcom/example/sealtrail/sealtrail/RecordType;", sig := { parameters := [.int], returnType := some (.object "com/example/sealtrail/sealtrail/RecordType") }, accessFlags := 8, code := some k6c0 }
def k6c1 : Code := { maxStack := 1, maxLocals := 1, code := prog_47_method_6_code, exceptionTable := #[], attributes := #[] }
def k6m1 : Method := { name := "code", desc := "()I", sig := { parameters := [], returnType := some .int }, accessFlags := 0, code := some k6c1 }
/-- com/example/sealtrail/sealtrail/RecordType -/
def k6 : Class := { plain "com/example/sealtrail/sealtrail/RecordType" (some 5) with
  accessFlags := 16432
  interfaces := #[]
  cf := some (fileOf pool6 1 #[] #[{ accessFlags := 8, nameIndex := 143, descriptorIndex := 144, attributes := #[] }, { accessFlags := 0, nameIndex := 70, descriptorIndex := 146, attributes := #[] }] 16432 56 #[] #[{ accessFlags := 16409, nameIndex := 5, descriptorIndex := 6, attributes := #[] }, { accessFlags := 16409, nameIndex := 9, descriptorIndex := 6, attributes := #[] }, { accessFlags := 16409, nameIndex := 12, descriptorIndex := 6, attributes := #[] }, { accessFlags := 16409, nameIndex := 15, descriptorIndex := 6, attributes := #[] }, { accessFlags := 16409, nameIndex := 18, descriptorIndex := 6, attributes := #[] }, { accessFlags := 16409, nameIndex := 21, descriptorIndex := 6, attributes := #[] }, { accessFlags := 16409, nameIndex := 24, descriptorIndex := 6, attributes := #[] }, { accessFlags := 16409, nameIndex := 27, descriptorIndex := 6, attributes := #[] }, { accessFlags := 16409, nameIndex := 30, descriptorIndex := 6, attributes := #[] }, { accessFlags := 16409, nameIndex := 33, descriptorIndex := 6, attributes := #[] }, { accessFlags := 16409, nameIndex := 36, descriptorIndex := 6, attributes := #[] }, { accessFlags := 16409, nameIndex := 39, descriptorIndex := 6, attributes := #[] }, { accessFlags := 16409, nameIndex := 42, descriptorIndex := 6, attributes := #[] }, { accessFlags := 16409, nameIndex := 45, descriptorIndex := 6, attributes := #[] }, { accessFlags := 26, nameIndex := 81, descriptorIndex := 49, attributes := #[] }, { accessFlags := 18, nameIndex := 70, descriptorIndex := 71, attributes := #[] }, { accessFlags := 18, nameIndex := 74, descriptorIndex := 75, attributes := #[] }, { accessFlags := 18, nameIndex := 78, descriptorIndex := 71, attributes := #[] }, { accessFlags := 4122, nameIndex := 48, descriptorIndex := 49, attributes := #[] }])
  fields := #[{ name := "CLIENT_DATA", type := (.object "com/example/sealtrail/sealtrail/RecordType"), accessFlags := 16409, slot := 0, constantValue := 0 }, { name := "RANDOM_KEY", type := (.object "com/example/sealtrail/sealtrail/RecordType"), accessFlags := 16409, slot := 1, constantValue := 0 }, { name := "SYMMETRIC_KEY", type := (.object "com/example/sealtrail/sealtrail/RecordType"), accessFlags := 16409, slot := 2, constantValue := 0 }, { name := "PREVIOUS_FILE", type := (.object "com/example/sealtrail/sealtrail/RecordType"), accessFlags := 16409, slot := 3, constantValue := 0 }, { name := "ACCUMULATED_HASH", type := (.object "com/example/sealtrail/sealtrail/RecordType"), accessFlags := 16409, slot := 4, constantValue := 0 }, { name := "SIGNATURE", type := (.object "com/example/sealtrail/sealtrail/RecordType"), accessFlags := 16409, slot := 5, constantValue := 0 }, { name := "SIGNING_KEY", type := (.object "com/example/sealtrail/sealtrail/RecordType"), accessFlags := 16409, slot := 6, constantValue := 0 }, { name := "STARTUP", type := (.object "com/example/sealtrail/sealtrail/RecordType"), accessFlags := 16409, slot := 7, constantValue := 0 }, { name := "SHUTDOWN", type := (.object "com/example/sealtrail/sealtrail/RecordType"), accessFlags := 16409, slot := 8, constantValue := 0 }, { name := "HEARTBEAT", type := (.object "com/example/sealtrail/sealtrail/RecordType"), accessFlags := 16409, slot := 9, constantValue := 0 }, { name := "UNAUTHORISED_ATTEMPT", type := (.object "com/example/sealtrail/sealtrail/RecordType"), accessFlags := 16409, slot := 10, constantValue := 0 }, { name := "AUDITOR_NOTIFICATION", type := (.object "com/example/sealtrail/sealtrail/RecordType"), accessFlags := 16409, slot := 11, constantValue := 0 }, { name := "CLIENT_IDENTITY", type := (.object "com/example/sealtrail/sealtrail/RecordType"), accessFlags := 16409, slot := 12, constantValue := 0 }, { name := "ROTATION", type := (.object "com/example/sealtrail/sealtrail/RecordType"), accessFlags := 16409, slot := 13, constantValue := 0 }, { name := "BY_CODE", type := (.array (.object "com/example/sealtrail/sealtrail/RecordType")), accessFlags := 26, slot := 14, constantValue := 0 }, { name := "code", type := .int, accessFlags := 18, slot := 3, constantValue := 0 }, { name := "label", type := (.object "java/lang/String"), accessFlags := 18, slot := 4, constantValue := 0 }, { name := "textStart", type := .int, accessFlags := 18, slot := 5, constantValue := 0 }, { name := "$VALUES", type := (.array (.object "com/example/sealtrail/sealtrail/RecordType")), accessFlags := 4122, slot := 15, constantValue := 0 }]
  methods := #[k6m0, k6m1]
  instanceTypes := #[(.object "java/lang/String"), .int, .int, .int, (.object "java/lang/String"), .int]
  staticTypes := #[(.object "com/example/sealtrail/sealtrail/RecordType"), (.object "com/example/sealtrail/sealtrail/RecordType"), (.object "com/example/sealtrail/sealtrail/RecordType"), (.object "com/example/sealtrail/sealtrail/RecordType"), (.object "com/example/sealtrail/sealtrail/RecordType"), (.object "com/example/sealtrail/sealtrail/RecordType"), (.object "com/example/sealtrail/sealtrail/RecordType"), (.object "com/example/sealtrail/sealtrail/RecordType"), (.object "com/example/sealtrail/sealtrail/RecordType"), (.object "com/example/sealtrail/sealtrail/RecordType"), (.object "com/example/sealtrail/sealtrail/RecordType"), (.object "com/example/sealtrail/sealtrail/RecordType"), (.object "com/example/sealtrail/sealtrail/RecordType"), (.object "com/example/sealtrail/sealtrail/RecordType"), (.array (.object "com/example/sealtrail/sealtrail/RecordType")), (.array (.object "com/example/sealtrail/sealtrail/RecordType"))]
  resolved := Array.replicate 153 none
  statics := some 0 }

def pool7 : Array CpInfo := pool [(1, u "java/lang/Cloneable"), (0, .class_ 1), (0, u "java/lang/Object"), (0, .class_ 3)] 3

/-- java/lang/Cloneable -/
def k7 : Class := { plain "java/lang/Cloneable" (some 0) with
  accessFlags := 1537
  interfaces := #[]
  cf := some (fileOf pool7 2 #[] #[] 1537 4 #[] #[])
  fields := #[]
  methods := #[]
  instanceTypes := #[]
  staticTypes := #[]
  resolved := Array.replicate 8 none
  statics := none }

/-- the primitive byte -/
def k8 : Class := { plain "byte" none with kind := .primitive 'B', accessFlags := 0x411 }
/-- [B -/
def k9 : Class := { plain "[B" (some 0) with kind := .array 8 .byte, interfaces := #[7, 4], accessFlags := 1041 }

/-- the primitive int -/
def k10 : Class := { plain "int" none with kind := .primitive 'I', accessFlags := 0x411 }
/-- [I -/
def k11 : Class := { plain "[I" (some 0) with kind := .array 10 .int, interfaces := #[7, 4], accessFlags := 1041 }

/-- [Lcom/example/sealtrail/sealtrail/RecordType; -/
def k12 : Class := { plain "[Lcom/example/sealtrail/sealtrail/RecordType;" (some 0) with kind := .array 6 (.object "com/example/sealtrail/sealtrail/RecordType"), interfaces := #[7, 4], accessFlags := 1041 }

def heap : Heap := #[{ cls := 6, slots := #[.ref 2, .ref 3, .ref 4, .ref 5, .ref 6, .ref 7, .ref 8, .ref 9, .ref 10, .ref 11, .ref 12, .ref 13, .ref 14, .ref 15, .ref 1, .null], vm := .statics 6 },
  { cls := 12, slots := #[.ref 2, .ref 3, .ref 4, .ref 5, .ref 6, .ref 7, .ref 8, .ref 9, .ref 10, .ref 11, .ref 12, .ref 13, .ref 14, .ref 15], vm := .none },
  { cls := 6, slots := #[.null, .int 0, .int 0, .int 0, .null, .int 0], vm := .none },
  { cls := 6, slots := #[.null, .int 1, .int 0, .int 1, .null, .int 0], vm := .none },
  { cls := 6, slots := #[.null, .int 2, .int 0, .int 2, .null, .int 0], vm := .none },
  { cls := 6, slots := #[.null, .int 3, .int 0, .int 3, .null, .int 0], vm := .none },
  { cls := 6, slots := #[.null, .int 4, .int 0, .int 4, .null, .int 0], vm := .none },
  { cls := 6, slots := #[.null, .int 5, .int 0, .int 5, .null, .int 0], vm := .none },
  { cls := 6, slots := #[.null, .int 6, .int 0, .int 6, .null, .int 0], vm := .none },
  { cls := 6, slots := #[.null, .int 7, .int 0, .int 7, .null, .int 0], vm := .none },
  { cls := 6, slots := #[.null, .int 8, .int 0, .int 8, .null, .int 0], vm := .none },
  { cls := 6, slots := #[.null, .int 9, .int 0, .int 9, .null, .int 0], vm := .none },
  { cls := 6, slots := #[.null, .int 10, .int 0, .int 10, .null, .int 0], vm := .none },
  { cls := 6, slots := #[.null, .int 11, .int 0, .int 11, .null, .int 0], vm := .none },
  { cls := 6, slots := #[.null, .int 12, .int 0, .int 12, .null, .int 0], vm := .none },
  { cls := 6, slots := #[.null, .int 13, .int 0, .int 13, .null, .int 0], vm := .none }]
def classes : Array Class := #[k0, k1, k2, k3, k4, k5, k6, k7, k8, k9, k10, k11, k12]
def interned : List (Array UInt16 × Addr) := []
def slotsUsed : Nat := 114
def theMethod : MethodId := ⟨1, 2⟩
def args0 : Array Value := #[.int 5, .int 7]
def aboutOver (below : List Frame) : State where
  vm := { classes := classes, interned := interned.toArray }
  heap := heap
  slotsUsed := slotsUsed
  threads := #[{ frames := .invoking theMethod args0 :: below }]
def below0 : List Frame := [.native { method := ⟨0, 0⟩, args := #[] }]
def about1 : State := aboutOver below0
def p0 : Program := .bare "" "" ""
def e0 : Env := launch0.env 0 0 0
theorem w_frames : about1.frames = Frame.invoking theMethod args0 :: below0 := rfl
set_option maxRecDepth 65536 in
theorem w_args : argsFit about1.vm theMethod args0 = true := by decide +kernel
set_option maxRecDepth 65536 in
theorem w_heap : heapFits about1 = true := by decide +kernel
set_option maxRecDepth 65536 in
theorem w_runnable : about1.curStatus? = some .runnable := by decide +kernel
set_option maxRecDepth 65536 in
theorem w_alone : about1.alone = true := by decide +kernel
set_option maxRecDepth 65536 in
theorem w_named : about1.methodNamed? x = some theMethod := by decide +kernel
set_option maxRecDepth 65536 in
theorem w_hears : about1.hears theMethod below0 = true := by decide +kernel
set_option maxRecDepth 65536 in
theorem w_ripe : about1.ripe theMethod args0 below0 = true := by decide +kernel
theorem w_running : about1.status = .running := rfl
set_option maxRecDepth 65536 in
theorem w_room : about1.hasRoom e0.platform room_1 = true :=
  launch0.hasRoom_least _ room_1 (by decide +kernel) (by decide +kernel) (by decide +kernel) (by decide +kernel) (by decide +kernel) (by decide +kernel)
theorem allAtoms_all (ts : List Jvm.Cond) (a : Array Jvm.Value) (st : Jvm.State) : (allAtoms ts).before a st = ts.all (fun c => c.before a st) := by
  induction ts with
  | nil => rfl
  | cons c t ih =>
    show (Jvm.Cond.and c (allAtoms t)).before a st = _
    rw [Jvm.Cond.before_and, ih, List.all_cons]
def words1 : List Jvm.Cond := Jvm.Cond.code x code maxLocals ret :: tables_1
/-- a 'code' word, met by the world's own term for the bytes: nothing is compared byte by byte -/
theorem code_word {y : MethodName} {bytes : ByteArray} {mx : Nat} {rt : Option FieldType} {a : Array Value} {s : State} {m : MethodId} {meth : Method} {c : Code} (h1 : s.methodNamed? y = some m) (h2 : s.vm.method? m = some meth) (h3 : meth.code = some c) (h4 : c.code = bytes)
    (h5 : (c.maxLocals == mx && c.exceptionTable.isEmpty && decide (c.maxStack ≤ mostOperands) && decide (meth.sig.returnType = rt) && !meth.locks && decide (parseMethodDescriptor y.desc = some meth.sig)) = true) : (Jvm.Cond.code y bytes mx rt).before a s = true := by
  simp only [Bool.and_eq_true, beq_iff_eq, Bool.not_eq_true', decide_eq_true_eq] at h5
  obtain ⟨⟨⟨⟨⟨g1, g2⟩, g3⟩, g4⟩, g5⟩, g6⟩ := h5
  simp [Cond.before, Cond.holds, Cond.value, h1, h2, h3, h4, g1, g2, g3, g4, g5, g6]
def isCode : Jvm.Cond → Bool
  | .code _ _ _ _ => true
  | _ => false
theorem all_split {L : List Jvm.Cond} {P : Jvm.Cond → Bool} (h1 : L.all (fun c => isCode c || P c) = true) (h2 : ∀ c ∈ L.filter isCode, P c = true) : L.all P = true := by
  refine List.all_eq_true.mpr fun c hc => ?_
  have h := List.all_eq_true.mp h1 c hc
  rcases Bool.eq_false_or_eq_true (isCode c) with hi | hi
  · exact h2 c (List.mem_filter.mpr ⟨hc, hi⟩)
  · simpa [hi] using h
set_option maxRecDepth 65536 in
theorem w_c0 : (Jvm.Cond.code x code maxLocals ret).before args0 about1 = true := code_word (m := ⟨1, 2⟩) (meth := k1m2) (c := k1c2) (by decide +kernel) rfl rfl rfl (by decide +kernel)
set_option maxRecDepth 65536 in
theorem w_c1 : (Jvm.Cond.code ({ cls := "com/example/sealtrail/sealtrail/RecordTypeOfPinLaw", name := "check", desc := "(I)Z" } : Jvm.MethodName) method_2_code (2 : Nat) (Option.some Jvm.ClassFile.FieldType.boolean)).before args0 about1 = true := code_word (m := ⟨1, 1⟩) (meth := k1m1) (c := k1c1) (by decide +kernel) rfl rfl rfl (by decide +kernel)
set_option maxRecDepth 65536 in
theorem w_c2 : (Jvm.Cond.code ({ cls := "com/example/sealtrail/sealtrail/RecordType", name := "of", desc := "(I)Lcom/example/sealtrail/sealtrail/RecordType;" } : Jvm.MethodName) prog_47_method_5_code (1 : Nat) (Option.some (Jvm.ClassFile.FieldType.object "com/example/sealtrail/sealtrail/RecordType"))).before args0 about1 = true := code_word (m := ⟨6, 0⟩) (meth := k6m0) (c := k6c0) (by decide +kernel) rfl rfl rfl (by decide +kernel)
set_option maxRecDepth 65536 in
theorem w_c3 : (Jvm.Cond.code ({ cls := "com/example/sealtrail/sealtrail/RecordType", name := "code", desc := "()I" } : Jvm.MethodName) prog_47_method_6_code (1 : Nat) (Option.some Jvm.ClassFile.FieldType.int)).before args0 about1 = true := code_word (m := ⟨6, 1⟩) (meth := k6m1) (c := k6c1) (by decide +kernel) rfl rfl rfl (by decide +kernel)
def codes1 : List Jvm.Cond := [Jvm.Cond.code x code maxLocals ret, Jvm.Cond.code ({ cls := "com/example/sealtrail/sealtrail/RecordTypeOfPinLaw", name := "check", desc := "(I)Z" } : Jvm.MethodName) method_2_code (2 : Nat) (Option.some Jvm.ClassFile.FieldType.boolean), Jvm.Cond.code ({ cls := "com/example/sealtrail/sealtrail/RecordType", name := "of", desc := "(I)Lcom/example/sealtrail/sealtrail/RecordType;" } : Jvm.MethodName) prog_47_method_5_code (1 : Nat) (Option.some (Jvm.ClassFile.FieldType.object "com/example/sealtrail/sealtrail/RecordType")), Jvm.Cond.code ({ cls := "com/example/sealtrail/sealtrail/RecordType", name := "code", desc := "()I" } : Jvm.MethodName) prog_47_method_6_code (1 : Nat) (Option.some Jvm.ClassFile.FieldType.int)]
set_option maxRecDepth 65536 in
theorem codes_eq : words1.filter isCode = codes1 := rfl
theorem w_codes : ∀ c ∈ words1.filter isCode, c.before args0 about1 = true := by
  rw [codes_eq]
  intro c hc
  simp only [codes1, List.mem_cons, List.not_mem_nil, or_false] at hc
  rcases hc with rfl | rfl | rfl | rfl
  · exact w_c0
  · exact w_c1
  · exact w_c2
  · exact w_c3
set_option maxRecDepth 65536 in
theorem w_t1 : (words1.take 24).all (fun c => isCode c || c.before args0 about1) = true := by decide +kernel
set_option maxRecDepth 65536 in
theorem w_t2 : (words1.drop 24).all (fun c => isCode c || c.before args0 about1) = true := by decide +kernel
theorem w_tables : (allAtoms (Jvm.Cond.code x code maxLocals ret :: tables_1)).before args0 about1 = true := by
  rw [allAtoms_all]
  show words1.all (fun c => c.before args0 about1) = true
  refine all_split ?_ w_codes
  rw [← List.take_append_drop 24 words1, List.all_append, w_t1, w_t2]
  rfl
set_option maxRecDepth 65536 in
theorem w_case : (Jvm.Cond.and given_1 narrow_1).before args0 about1 = true := by decide +kernel
theorem w_applies : (headSpec (Jvm.Cond.code x code maxLocals ret :: tables_1) room_1).applies x e0.platform about1 = true :=
  (Spec.applies_iff w_frames).mpr ⟨w_running, w_runnable, w_alone, w_named, w_hears, w_ripe, w_room, w_tables⟩
theorem atStart : AtStart classFile x code maxLocals ret World_1 tables_1 room_1 Calls_1 rest_1 Pre_1 launch0 p0 e0 about1 theMethod args0 below0 :=
  ⟨lists_1, trivial, launch0.admits_env _ _ _, launch0.least_env, fairChoices_fair.cas, fairChoices_fair.clock, w_frames, w_args, w_heap, w_applies, trivial, trivial, w_case⟩
end start1
theorem witness_1 : WitnessClaimed_1 := ⟨start1.p0, start1.e0, start1.about1, start1.theMethod, start1.args0, start1.below0, start1.atStart⟩
end Jvm.Pilot.@@N@@
