import JvmDerived
import JvmDerived.Pilot.@@N@@Statement
import JvmDerived.Pilot.@@N@@Code
set_option linter.unusedVariables false
set_option linter.unusedSimpArgs false
namespace Jvm.Pilot.@@N@@
open Jvm Jvm.ClassFile Sem Op Lib Jvm.Free Jvm.Stand Jvm.LawKit Jvm.RoadKit Bundle Jvm.Pilot.@@N@@.Jvm.D
theorem pd_0 : parseMethodDescriptor "(II)I" = some ⟨[.int, .int], some .int⟩ := by decide +kernel
theorem pd_1 : parseMethodDescriptor "(II)V" = some ⟨[.int, .int], none⟩ := by decide +kernel
theorem pd_2 : parseMethodDescriptor "(I)Z" = some ⟨[.int], some .boolean⟩ := by decide +kernel
theorem own_ext_refl (h : Heap) : Ext h h := ⟨Nat.le_refl _, fun _ _ q => q⟩
theorem own_ext_trans {h h' h'' : Heap} (E : Ext h h') (F : Ext h' h'') : Ext h h'' := ⟨Nat.le_trans E.1 F.1, fun a c q => F.2 a c (E.2 a c q)⟩
theorem own_ext_keep {h h' h'' : Heap} {ws : List Addr} (E : Ext h h') (K : Keep h' h'' ws) (q : ∀ x ∈ ws, h.size ≤ x) : Ext h h'' := ⟨Nat.le_trans E.1 K.1, fun a c r => K.2.1 a c (E.2 a c r) fun z => absurd (Array.getElem?_eq_some_iff.mp r).1 (Nat.not_lt.mpr (q a z))⟩
theorem own_ext_wr {h h' h'' : Heap} {a : Addr} {sl : Nat} {v : Value} (E : Ext h h') (W : Wr h' h'' a sl v) (q : h.size ≤ a) : Ext h h'' := own_ext_keep E (Keep.of_wr W) (allS q all0)
theorem d1_0 : decode jdk_29_method_65_code 0 = .ok (.iload_n 0, 1) := by decide +kernel
theorem d1_1 : decode jdk_29_method_65_code 1 = .ok (.iload_n 1, 1) := by decide +kernel
theorem d1_2 : decode jdk_29_method_65_code 2 = .ok (.if_icmp .lt 7, 3) := by decide +kernel
theorem d1_5 : decode jdk_29_method_65_code 5 = .ok (.iload_n 0, 1) := by decide +kernel
theorem d1_6 : decode jdk_29_method_65_code 6 = .ok (.goto 4, 3) := by decide +kernel
theorem d1_9 : decode jdk_29_method_65_code 9 = .ok (.iload_n 1, 1) := by decide +kernel
theorem d1_10 : decode jdk_29_method_65_code 10 = .ok (.ireturn, 1) := by decide +kernel
theorem d2_0 : decode prog_46_method_1_code 0 = .ok (.aload_n 0, 1) := by decide +kernel
theorem d2_1 : decode prog_46_method_1_code 1 = .ok (.invokespecial 1, 3) := by decide +kernel
theorem d2_4 : decode prog_46_method_1_code 4 = .ok (.iload_n 1, 1) := by decide +kernel
theorem d2_5 : decode prog_46_method_1_code 5 = .ok (.iconst 1, 1) := by decide +kernel
theorem d2_6 : decode prog_46_method_1_code 6 = .ok (.if_icmp .lt 8, 3) := by decide +kernel
theorem d2_9 : decode prog_46_method_1_code 9 = .ok (.iload_n 2, 1) := by decide +kernel
theorem d2_10 : decode prog_46_method_1_code 10 = .ok (.iconst 1, 1) := by decide +kernel
theorem d2_11 : decode prog_46_method_1_code 11 = .ok (.if_icmp .ge 18, 3) := by decide +kernel
theorem d2_14 : decode prog_46_method_1_code 14 = .ok (.new 7, 3) := by decide +kernel
theorem d2_17 : decode prog_46_method_1_code 17 = .ok (.dup, 1) := by decide +kernel
theorem d2_18 : decode prog_46_method_1_code 18 = .ok (.iload_n 1, 1) := by decide +kernel
theorem d2_19 : decode prog_46_method_1_code 19 = .ok (.iload_n 2, 1) := by decide +kernel
theorem d2_25 : decode prog_46_method_1_code 25 = .ok (.invokespecial 13, 3) := by decide +kernel
theorem d2_28 : decode prog_46_method_1_code 28 = .ok (.athrow, 1) := by decide +kernel
theorem d2_29 : decode prog_46_method_1_code 29 = .ok (.aload_n 0, 1) := by decide +kernel
theorem d2_30 : decode prog_46_method_1_code 30 = .ok (.iload_n 1, 1) := by decide +kernel
theorem d2_31 : decode prog_46_method_1_code 31 = .ok (.putfield 16, 3) := by decide +kernel
theorem d2_34 : decode prog_46_method_1_code 34 = .ok (.aload_n 0, 1) := by decide +kernel
theorem d2_35 : decode prog_46_method_1_code 35 = .ok (.iload_n 2, 1) := by decide +kernel
theorem d2_36 : decode prog_46_method_1_code 36 = .ok (.putfield 22, 3) := by decide +kernel
theorem d2_39 : decode prog_46_method_1_code 39 = .ok (.return_, 1) := by decide +kernel
theorem d4_0 : decode prog_46_method_4_code 0 = .ok (.iload_n 1, 1) := by decide +kernel
theorem d4_1 : decode prog_46_method_4_code 1 = .ok (.aload_n 0, 1) := by decide +kernel
theorem d4_2 : decode prog_46_method_4_code 2 = .ok (.getfield 16, 3) := by decide +kernel
theorem d4_5 : decode prog_46_method_4_code 5 = .ok (.if_icmp .ge 7, 3) := by decide +kernel
theorem d4_8 : decode prog_46_method_4_code 8 = .ok (.iconst 1, 1) := by decide +kernel
theorem d4_9 : decode prog_46_method_4_code 9 = .ok (.goto 4, 3) := by decide +kernel
theorem d4_12 : decode prog_46_method_4_code 12 = .ok (.iconst 0, 1) := by decide +kernel
theorem d4_13 : decode prog_46_method_4_code 13 = .ok (.ireturn, 1) := by decide +kernel
def own_max (a b : Int32) : Int32 := if a < b then b else a
def Qmax (Z : State) (p1 p2 : Int32) (h0 : Heap) (n0 : Nat) (v : Option Value) (h : Heap) (L : List Loc) : Prop := v = some (.int (own_max p1 p2)) ∧ Fr n0 L ∧ h = h0
theorem ef_rm_max (m : MethodId) (x0 : Int32) (x1 : Int32) : entryFrame m #[(.int x0), (.int x1)] 2 = mkF m 0 #[.val (.int x0), .val (.int x1)] [] := by first | (simp [entryFrame, mkF, argsToLocals, Value.category]; done) | rfl
set_option maxRecDepth 65536 in
set_option maxHeartbeats 40000000 in
theorem rm_max (l : Launch) (Z : State) (a0 : Array Value) (hw : ∀ d ∈ tables_1, d.before a0 Z = true) (ws : List Jvm.Cond) (p1 : Int32) (p2 : Int32) (h0 : Heap) (n0 : Nat) (Z0 : n0 ≤ h0.size)  :
    MetFree l (⟨"java/lang/Math", "max", "(II)I"⟩ : MethodName) (head1 (Jvm.Cond.code (⟨"java/lang/Math", "max", "(II)I"⟩ : MethodName) jdk_29_method_65_code 2 (some .int) :: ws) ({ frames := 0, cells := 0, slots := 0, locals := 0 } : Room)) (fun a U => a = #[(.int p1), (.int p2)] ∧ Z.Warmed39 U.vm ∧ U.heap = h0) (fun _ _ _ _ _ => True) (fun _ U o U' => ∃ v L, o = .returned v ∧ Qmax Z p1 p2  h0 n0 v U'.heap L ∧ FrameEnd U o U' L ({ frames := 0, cells := 0, slots := 0, locals := 0 } : Room).cells ({ frames := 0, cells := 0, slots := 0, locals := 0 } : Room).slots) := by
  refine MetFree.of_bodySF (Jvm.Free.JP.mathPlain rfl (by decide +kernel)) hisR ?_
  intro p e s m args below meth c s₁ Bd hml0 hP hK
  obtain ⟨rfl, hZ, hh⟩ := hP
  have hx := Bd.exec
  have hby := Bd.bytes
  have hml : c.maxLocals = 2 := hml0
  have hown : s.vm.findClass "java/lang/Math" = some m.cls := findClass_of_methodNamed Bd.named
  have hnm := (name_of_methodNamed Bd.named Bd.method).1
  have X0 : Stand p l e ({ frames := 0, cells := 0, slots := 0, locals := 0 } : Room) s m #[(.int p1), (.int p2)] below meth c s₁ [] 0 0 := Stand.of_body Bd
  have e0 : s₁.heap = h0 := by rw [← hh, Bd.state]; rfl
  have N0 := Fr.nil n0
  have pre0 : ∀ t, Steps p.tables e below (s₁.setTop (mkF m 0 #[.val (.int p1), .val (.int p2)] [])) t → Steps p.tables e below (s₁.setTop (entryFrame m #[(.int p1), (.int p2)] 2)) t := fun t k => castTop (ef_rm_max m p1 p2) k
  have pre1 : ∀ t, Steps p.tables e below (s₁.setTop (mkF m 2 #[.val (.int p1), .val (.int p2)] [(.int p2), (.int p1)])) t → Steps p.tables e below (s₁.setTop (entryFrame m #[(.int p1), (.int p2)] 2)) t := fun t k => pre0 t (by
    show Steps p.tables e below (s₁.setTop (mkF m 0 #[.val (.int p1), .val (.int p2)] [])) _
    refine XS.iloadN X0.here hx rfl (hb hby d1_0) rfl ?_
    show Steps p.tables e below (s₁.setTop (mkF m 1 #[.val (.int p1), .val (.int p2)] [(.int p1)])) _
    refine XS.iloadN X0.here hx rfl (hb hby d1_1) rfl ?_
    exact k)
  by_cases hc2_2 : p1 < p2
  · have _ := 0
    have pre3 : ∀ t, Steps p.tables e below (s₁.setTop (mkF m 10 #[.val (.int p1), .val (.int p2)] [(.int p2)])) t → Steps p.tables e below (s₁.setTop (entryFrame m #[(.int p1), (.int p2)] 2)) t := fun t k => pre1 t (by
      show Steps p.tables e below (s₁.setTop (mkF m 2 #[.val (.int p1), .val (.int p2)] [(.int p2), (.int p1)])) _
      refine XS.icmpYes X0.here hx rfl (pc0 := 2) (pc' := 9) rfl (hb hby d1_2) rfl (tlt hc2_2).1 (by decide) (by decide) ?_
      show Steps p.tables e below (s₁.setTop (mkF m 9 #[.val (.int p1), .val (.int p2)] [])) _
      refine XS.iloadN X0.here hx rfl (hb hby d1_9) rfl ?_
      exact k)
    obtain ⟨fs, hr, hrun, hended, hW, hsame⟩ := X0.leave (v := some (.int p2)) (fun h => by rw [Bd.returns] at h; cases h)
    refine ⟨_, _, pre3 _ ?_, hrun, hended, _, _, rfl, ?_, ⟨_, rfl⟩, hW, hsame.mono (by decide) (by decide)⟩
    · show Steps p.tables e below (s₁.setTop (mkF m 10 #[.val (.int p1), .val (.int p2)] [(.int p2)])) _
      exact retOut X0 hx Bd.returns rfl (Or.inl ⟨rfl, by simp, _, rfl⟩) (hb hby d1_10) hr
    · show Qmax Z p1 p2  h0 n0 _ s₁.heap _
      rw [e0]
      exact ⟨by simp [own_max, hc2_2], N0, rfl⟩
  · have _ := 0
    have pre4 : ∀ t, Steps p.tables e below (s₁.setTop (mkF m 10 #[.val (.int p1), .val (.int p2)] [(.int p1)])) t → Steps p.tables e below (s₁.setTop (entryFrame m #[(.int p1), (.int p2)] 2)) t := fun t k => pre1 t (by
      show Steps p.tables e below (s₁.setTop (mkF m 2 #[.val (.int p1), .val (.int p2)] [(.int p2), (.int p1)])) _
      refine XS.icmpNo X0.here hx rfl (hb hby d1_2) rfl (flt hc2_2).1 ?_
      show Steps p.tables e below (s₁.setTop (mkF m 5 #[.val (.int p1), .val (.int p2)] [])) _
      refine XS.iloadN X0.here hx rfl (hb hby d1_5) rfl ?_
      show Steps p.tables e below (s₁.setTop (mkF m 6 #[.val (.int p1), .val (.int p2)] [(.int p1)])) _
      refine XS.goto X0.here hx rfl (pc0 := 6) (pc' := 10) rfl (hb hby d1_6) (by decide) (by decide) ?_
      exact k)
    obtain ⟨fs, hr, hrun, hended, hW, hsame⟩ := X0.leave (v := some (.int p1)) (fun h => by rw [Bd.returns] at h; cases h)
    refine ⟨_, _, pre4 _ ?_, hrun, hended, _, _, rfl, ?_, ⟨_, rfl⟩, hW, hsame.mono (by decide) (by decide)⟩
    · show Steps p.tables e below (s₁.setTop (mkF m 10 #[.val (.int p1), .val (.int p2)] [(.int p1)])) _
      exact retOut X0 hx Bd.returns rfl (Or.inl ⟨rfl, by simp, _, rfl⟩) (hb hby d1_10) hr
    · show Qmax Z p1 p2  h0 n0 _ s₁.heap _
      rw [e0]
      exact ⟨by simp [own_max, hc2_2], N0, rfl⟩
def Qinit (Z : State) (r1 : Addr) (p1 p2 : Int32) (h0 : Heap) (n0 : Nat) (v : Option Value) (h : Heap) (L : List Loc) : Prop := v = none ∧ Fr n0 L ∧ Keep h0 h [r1] ∧ Exa Z h r1 "com/example/steadyhand/steadyhand/run/RerunPolicy" ∧ Fld Z h r1 "com/example/steadyhand/steadyhand/run/RerunPolicy" "maxRuns" "I" (.int p1)
theorem pn_2 : plainName "com/example/steadyhand/steadyhand/run/RerunPolicy" = true := by first | (simp [plainName, overriddenIn]; done) | decide +kernel
theorem ef_rm_init (m : MethodId) (x0 : Addr) (x1 : Int32) (x2 : Int32) : entryFrame m #[(.ref x0), (.int x1), (.int x2)] 3 = mkF m 0 #[.val (.ref x0), .val (.int x1), .val (.int x2)] [] := by first | (simp [entryFrame, mkF, argsToLocals, Value.category]; done) | rfl
set_option maxRecDepth 65536 in
set_option maxHeartbeats 40000000 in
theorem rm_init (l : Launch) (Z : State) (a0 : Array Value) (hw : ∀ d ∈ tables_1, d.before a0 Z = true) (ws : List Jvm.Cond) (r1 : Addr) (p1 : Int32) (p2 : Int32) (h0 : Heap) (n0 : Nat) (Z0 : n0 ≤ h0.size) (E1 : Exa Z h0 r1 "com/example/steadyhand/steadyhand/run/RerunPolicy") (F1 : Fld Z h0 r1 "com/example/steadyhand/steadyhand/run/RerunPolicy" "maxRuns" "I" (.int (0 : Int32))) (F2 : Fld Z h0 r1 "com/example/steadyhand/steadyhand/run/RerunPolicy" "minPasses" "I" (.int (0 : Int32))) (g1 : n0 ≤ r1) (c1 : ¬ p1 < (1 : Int32)) (c2 : ¬ p2 < (1 : Int32)) :
    MetFree l (⟨"com/example/steadyhand/steadyhand/run/RerunPolicy", "<init>", "(II)V"⟩ : MethodName) (head1 (Jvm.Cond.code (⟨"com/example/steadyhand/steadyhand/run/RerunPolicy", "<init>", "(II)V"⟩ : MethodName) prog_46_method_1_code 3 none :: ws) ({ frames := 1, cells := 0, slots := 0, locals := 12 } : Room)) (fun a U => a = #[(.ref r1), (.int p1), (.int p2)] ∧ Z.Warmed39 U.vm ∧ U.heap = h0) (fun _ _ _ _ _ => True) (fun _ U o U' => ∃ v L, o = .returned v ∧ Qinit Z r1 p1 p2  h0 n0 v U'.heap L ∧ FrameEnd U o U' L ({ frames := 1, cells := 0, slots := 0, locals := 12 } : Room).cells ({ frames := 1, cells := 0, slots := 0, locals := 12 } : Room).slots) := by
  refine MetFree.of_bodySF (plainFor_of_name pn_2) hisR ?_
  intro p e s m args below meth c s₁ Bd hml0 hP hK
  obtain ⟨rfl, hZ, hh⟩ := hP
  have hx := Bd.exec
  have hby := Bd.bytes
  have hml : c.maxLocals = 3 := hml0
  have hown : s.vm.findClass "com/example/steadyhand/steadyhand/run/RerunPolicy" = some m.cls := findClass_of_methodNamed Bd.named
  have hnm := (name_of_methodNamed Bd.named Bd.method).1
  have X0 : Stand p l e ({ frames := 1, cells := 0, slots := 0, locals := 12 } : Room) s m #[(.ref r1), (.int p1), (.int p2)] below meth c s₁ [] 0 0 := Stand.of_body Bd
  have e0 : s₁.heap = h0 := by rw [← hh, Bd.state]; rfl
  have N0 := Fr.nil n0
  have pre0 : ∀ t, Steps p.tables e below (s₁.setTop (mkF m 0 #[.val (.ref r1), .val (.int p1), .val (.int p2)] [])) t → Steps p.tables e below (s₁.setTop (entryFrame m #[(.ref r1), (.int p1), (.int p2)] 3)) t := fun t k => castTop (ef_rm_init m r1 p1 p2) k
  obtain ⟨T1, X1, e1, st1⟩ := initO X0 hx hZ hown (hw _ (List.mem_of_getElem? (i := 11) rfl)) (hw _ (List.mem_of_getElem? (i := 12) rfl)) (hw _ (List.mem_of_getElem? (i := 13) rfl)) e0 (g := (mkF m 1 #[.val (.ref r1), .val (.int p1), .val (.int p2)] [(.ref r1)])) rfl (by rw [hml]; rfl) rfl (hb hby d2_1) (by decide) (W := 0) (by show 2 * 0 + _ ≤ _; exact Nat.le_of_eq rfl) (by decide)
  obtain ⟨T2, h2, X2, e2, W2, st2⟩ := putF X1 hx hZ hown (host := "") (Or.inl (hw _ (List.mem_of_getElem? (i := 14) rfl))) Via.refl e1 F1 E1 (Or.inr ⟨(hw _ (List.mem_of_getElem? (i := 15) rfl)), rfl, hnm⟩) (hw _ (List.mem_of_getElem? (i := 6) rfl)) (ty := .int) (by decide) rfl rfl (g := (mkF m 31 #[.val (.ref r1), .val (.int p1), .val (.int p2)] [(.int p1), (.ref r1)])) rfl rfl (hb hby d2_31)
  have E2_r1 := E1.wr W2
  have F2_r1_maxRuns := F1.same W2
  have F2_r1_minPasses := F2.other W2 (Or.inr (slot_ne (Or.inr (hw _ (List.mem_of_getElem? (i := 17) rfl))) (Or.inr (hw _ (List.mem_of_getElem? (i := 15) rfl))) (by decide) (t := .int) (t' := .int) (by decide) (by decide)))
  have K2 : Keep h0 h2 [r1] := (Keep.refl h0 [r1]).wr W2 (Or.inl (List.mem_of_getElem? (i := 0) rfl))
  have N2 := Fr.snoc X2 N0 g1
  obtain ⟨T3, h3, X3, e3, W3, st3⟩ := putF X2 hx hZ hown (host := "") (Or.inl (hw _ (List.mem_of_getElem? (i := 16) rfl))) Via.refl e2 F2_r1_minPasses E2_r1 (Or.inr ⟨(hw _ (List.mem_of_getElem? (i := 17) rfl)), rfl, hnm⟩) (hw _ (List.mem_of_getElem? (i := 6) rfl)) (ty := .int) (by decide) rfl rfl (g := (mkF m 36 #[.val (.ref r1), .val (.int p1), .val (.int p2)] [(.int p2), (.ref r1)])) rfl rfl (hb hby d2_36)
  have E3_r1 := E2_r1.wr W3
  have F3_r1_maxRuns := F2_r1_maxRuns.other W3 (Or.inr (slot_ne (Or.inr (hw _ (List.mem_of_getElem? (i := 15) rfl))) (Or.inr (hw _ (List.mem_of_getElem? (i := 17) rfl))) (by decide) (t := .int) (t' := .int) (by decide) (by decide)))
  have F3_r1_minPasses := F2_r1_minPasses.same W3
  have K3 : Keep h0 h3 [r1] := K2.wr W3 (Or.inl (List.mem_of_getElem? (i := 0) rfl))
  have N3 := Fr.snoc X3 N2 g1
  have pre4 : ∀ t, Steps p.tables e below (T3.setTop (mkF m 39 #[.val (.ref r1), .val (.int p1), .val (.int p2)] [])) t → Steps p.tables e below (s₁.setTop (entryFrame m #[(.ref r1), (.int p1), (.int p2)] 3)) t := fun t k => pre0 t (by
    show Steps p.tables e below (s₁.setTop (mkF m 0 #[.val (.ref r1), .val (.int p1), .val (.int p2)] [])) _
    refine XS.aloadN X0.here hx rfl (hb hby d2_0) rfl rfl ?_
    show Steps p.tables e below (s₁.setTop (mkF m 1 #[.val (.ref r1), .val (.int p1), .val (.int p2)] [(.ref r1)])) _
    refine st1 _ ?_
    show Steps p.tables e below (T1.setTop (mkF m 4 #[.val (.ref r1), .val (.int p1), .val (.int p2)] [])) _
    refine XS.iloadN X1.here hx rfl (hb hby d2_4) rfl ?_
    show Steps p.tables e below (T1.setTop (mkF m 5 #[.val (.ref r1), .val (.int p1), .val (.int p2)] [(.int p1)])) _
    refine XT.iconstV X1.here hx rfl (1 : Int32) (hb hby d2_5) (by decide) ?_
    show Steps p.tables e below (T1.setTop (mkF m 6 #[.val (.ref r1), .val (.int p1), .val (.int p2)] [(.int (1 : Int32)), (.int p1)])) _
    refine XS.icmpNo X1.here hx rfl (hb hby d2_6) rfl (flt c1).1 ?_
    show Steps p.tables e below (T1.setTop (mkF m 9 #[.val (.ref r1), .val (.int p1), .val (.int p2)] [])) _
    refine XS.iloadN X1.here hx rfl (hb hby d2_9) rfl ?_
    show Steps p.tables e below (T1.setTop (mkF m 10 #[.val (.ref r1), .val (.int p1), .val (.int p2)] [(.int p2)])) _
    refine XT.iconstV X1.here hx rfl (1 : Int32) (hb hby d2_10) (by decide) ?_
    show Steps p.tables e below (T1.setTop (mkF m 11 #[.val (.ref r1), .val (.int p1), .val (.int p2)] [(.int (1 : Int32)), (.int p2)])) _
    refine XS.icmpYes X1.here hx rfl (pc0 := 11) (pc' := 29) rfl (hb hby d2_11) rfl (flt c2).2.1 (by decide) (by decide) ?_
    show Steps p.tables e below (T1.setTop (mkF m 29 #[.val (.ref r1), .val (.int p1), .val (.int p2)] [])) _
    refine XS.aloadN X1.here hx rfl (hb hby d2_29) rfl rfl ?_
    show Steps p.tables e below (T1.setTop (mkF m 30 #[.val (.ref r1), .val (.int p1), .val (.int p2)] [(.ref r1)])) _
    refine XS.iloadN X1.here hx rfl (hb hby d2_30) rfl ?_
    show Steps p.tables e below (T1.setTop (mkF m 31 #[.val (.ref r1), .val (.int p1), .val (.int p2)] [(.int p1), (.ref r1)])) _
    refine st2 _ ?_
    show Steps p.tables e below (T2.setTop (mkF m 34 #[.val (.ref r1), .val (.int p1), .val (.int p2)] [])) _
    refine XS.aloadN X2.here hx rfl (hb hby d2_34) rfl rfl ?_
    show Steps p.tables e below (T2.setTop (mkF m 35 #[.val (.ref r1), .val (.int p1), .val (.int p2)] [(.ref r1)])) _
    refine XS.iloadN X2.here hx rfl (hb hby d2_35) rfl ?_
    show Steps p.tables e below (T2.setTop (mkF m 36 #[.val (.ref r1), .val (.int p1), .val (.int p2)] [(.int p2), (.ref r1)])) _
    refine st3 _ ?_
    exact k)
  obtain ⟨fs, hr, hrun, hended, hW, hsame⟩ := X3.leave (v := none) (fun _ => rfl)
  refine ⟨_, _, pre4 _ ?_, hrun, hended, _, _, rfl, ?_, ⟨_, rfl⟩, hW, hsame.mono (by decide) (by decide)⟩
  · show Steps p.tables e below (T3.setTop (mkF m 39 #[.val (.ref r1), .val (.int p1), .val (.int p2)] [])) _
    exact X3.returnOut hx Bd.returns (hb hby d2_39) hr
  · show Qinit Z r1 p1 p2  h0 n0 _ T3.heap _
    rw [e3]
    exact ⟨rfl, N3, K3, E3_r1, F3_r1_maxRuns⟩
def own_waits (c m : Int32) : Int32 := if c < m then 1 else 0
def Qw (Z : State) (r1 : Addr) (p1 : Int32) (w : Int32) (h0 : Heap) (n0 : Nat) (v : Option Value) (h : Heap) (L : List Loc) : Prop := v = some (.int (own_waits p1 w)) ∧ Fr n0 L ∧ h = h0
theorem pn_4 : plainName "com/example/steadyhand/steadyhand/run/RerunPolicy" = true := by first | (simp [plainName, overriddenIn]; done) | decide +kernel
theorem ef_rm_w (m : MethodId) (x0 : Addr) (x1 : Int32) : entryFrame m #[(.ref x0), (.int x1)] 2 = mkF m 0 #[.val (.ref x0), .val (.int x1)] [] := by first | (simp [entryFrame, mkF, argsToLocals, Value.category]; done) | rfl
set_option maxRecDepth 65536 in
set_option maxHeartbeats 40000000 in
theorem rm_w (l : Launch) (Z : State) (a0 : Array Value) (hw : ∀ d ∈ tables_1, d.before a0 Z = true) (ws : List Jvm.Cond) (r1 : Addr) (p1 : Int32) (h0 : Heap) (n0 : Nat) (Z0 : n0 ≤ h0.size) (w : Int32) (F1 : Fld Z h0 r1 "com/example/steadyhand/steadyhand/run/RerunPolicy" "maxRuns" "I" (.int w)) :
    MetFree l (⟨"com/example/steadyhand/steadyhand/run/RerunPolicy", "waitsOnContainer", "(I)Z"⟩ : MethodName) (head1 (Jvm.Cond.code (⟨"com/example/steadyhand/steadyhand/run/RerunPolicy", "waitsOnContainer", "(I)Z"⟩ : MethodName) prog_46_method_4_code 2 (some .boolean) :: ws) ({ frames := 0, cells := 0, slots := 0, locals := 0 } : Room)) (fun a U => a = #[(.ref r1), (.int p1)] ∧ Z.Warmed39 U.vm ∧ U.heap = h0) (fun _ _ _ _ _ => True) (fun _ U o U' => ∃ v L, o = .returned v ∧ Qw Z r1 p1 w h0 n0 v U'.heap L ∧ FrameEnd U o U' L ({ frames := 0, cells := 0, slots := 0, locals := 0 } : Room).cells ({ frames := 0, cells := 0, slots := 0, locals := 0 } : Room).slots) := by
  refine MetFree.of_bodySF (plainFor_of_name pn_4) hisR ?_
  intro p e s m args below meth c s₁ Bd hml0 hP hK
  obtain ⟨rfl, hZ, hh⟩ := hP
  have hx := Bd.exec
  have hby := Bd.bytes
  have hml : c.maxLocals = 2 := hml0
  have hown : s.vm.findClass "com/example/steadyhand/steadyhand/run/RerunPolicy" = some m.cls := findClass_of_methodNamed Bd.named
  have hnm := (name_of_methodNamed Bd.named Bd.method).1
  have X0 : Stand p l e ({ frames := 0, cells := 0, slots := 0, locals := 0 } : Room) s m #[(.ref r1), (.int p1)] below meth c s₁ [] 0 0 := Stand.of_body Bd
  have e0 : s₁.heap = h0 := by rw [← hh, Bd.state]; rfl
  have N0 := Fr.nil n0
  have pre0 : ∀ t, Steps p.tables e below (s₁.setTop (mkF m 0 #[.val (.ref r1), .val (.int p1)] [])) t → Steps p.tables e below (s₁.setTop (entryFrame m #[(.ref r1), (.int p1)] 2)) t := fun t k => castTop (ef_rm_w m r1 p1) k
  obtain ⟨T1, X1, e1, st1⟩ := getF X0 hx hZ hown (host := "") (Or.inl (hw _ (List.mem_of_getElem? (i := 14) rfl))) Via.refl e0 F1 (g := (mkF m 2 #[.val (.ref r1), .val (.int p1)] [(.ref r1), (.int p1)])) rfl rfl (hb hby d4_2)
  have pre2 : ∀ t, Steps p.tables e below (T1.setTop (mkF m 5 #[.val (.ref r1), .val (.int p1)] [(.int w), (.int p1)])) t → Steps p.tables e below (s₁.setTop (entryFrame m #[(.ref r1), (.int p1)] 2)) t := fun t k => pre0 t (by
    show Steps p.tables e below (s₁.setTop (mkF m 0 #[.val (.ref r1), .val (.int p1)] [])) _
    refine XS.iloadN X0.here hx rfl (hb hby d4_0) rfl ?_
    show Steps p.tables e below (s₁.setTop (mkF m 1 #[.val (.ref r1), .val (.int p1)] [(.int p1)])) _
    refine XS.aloadN X0.here hx rfl (hb hby d4_1) rfl rfl ?_
    show Steps p.tables e below (s₁.setTop (mkF m 2 #[.val (.ref r1), .val (.int p1)] [(.ref r1), (.int p1)])) _
    refine st1 _ ?_
    exact k)
  by_cases hc5_3 : p1 < w
  · have _ := 0
    have pre4 : ∀ t, Steps p.tables e below (T1.setTop (mkF m 13 #[.val (.ref r1), .val (.int p1)] [(.int (1 : Int32))])) t → Steps p.tables e below (s₁.setTop (entryFrame m #[(.ref r1), (.int p1)] 2)) t := fun t k => pre2 t (by
      show Steps p.tables e below (T1.setTop (mkF m 5 #[.val (.ref r1), .val (.int p1)] [(.int w), (.int p1)])) _
      refine XS.icmpNo X1.here hx rfl (hb hby d4_5) rfl (tlt hc5_3).2.1 ?_
      show Steps p.tables e below (T1.setTop (mkF m 8 #[.val (.ref r1), .val (.int p1)] [])) _
      refine XT.iconstV X1.here hx rfl (1 : Int32) (hb hby d4_8) (by decide) ?_
      show Steps p.tables e below (T1.setTop (mkF m 9 #[.val (.ref r1), .val (.int p1)] [(.int (1 : Int32))])) _
      refine XS.goto X1.here hx rfl (pc0 := 9) (pc' := 13) rfl (hb hby d4_9) (by decide) (by decide) ?_
      exact k)
    obtain ⟨fs, hr, hrun, hended, hW, hsame⟩ := X1.leave (v := some (.int (1 : Int32))) (fun h => by rw [Bd.returns] at h; cases h)
    refine ⟨_, _, pre4 _ ?_, hrun, hended, _, _, rfl, ?_, ⟨_, rfl⟩, hW, hsame.mono (by decide) (by decide)⟩
    · show Steps p.tables e below (T1.setTop (mkF m 13 #[.val (.ref r1), .val (.int p1)] [(.int (1 : Int32))])) _
      exact retOut X1 hx Bd.returns rfl (Or.inl ⟨rfl, by simp, _, rfl⟩) (hb hby d4_13) hr
    · show Qw Z r1 p1 w h0 n0 _ T1.heap _
      rw [e1]
      exact ⟨by simp [own_waits, hc5_3], N0, rfl⟩
  · have _ := 0
    have pre5 : ∀ t, Steps p.tables e below (T1.setTop (mkF m 13 #[.val (.ref r1), .val (.int p1)] [(.int (0 : Int32))])) t → Steps p.tables e below (s₁.setTop (entryFrame m #[(.ref r1), (.int p1)] 2)) t := fun t k => pre2 t (by
      show Steps p.tables e below (T1.setTop (mkF m 5 #[.val (.ref r1), .val (.int p1)] [(.int w), (.int p1)])) _
      refine XS.icmpYes X1.here hx rfl (pc0 := 5) (pc' := 12) rfl (hb hby d4_5) rfl (flt hc5_3).2.1 (by decide) (by decide) ?_
      show Steps p.tables e below (T1.setTop (mkF m 12 #[.val (.ref r1), .val (.int p1)] [])) _
      refine XT.iconstV X1.here hx rfl (0 : Int32) (hb hby d4_12) (by decide) ?_
      exact k)
    obtain ⟨fs, hr, hrun, hended, hW, hsame⟩ := X1.leave (v := some (.int (0 : Int32))) (fun h => by rw [Bd.returns] at h; cases h)
    refine ⟨_, _, pre5 _ ?_, hrun, hended, _, _, rfl, ?_, ⟨_, rfl⟩, hW, hsame.mono (by decide) (by decide)⟩
    · show Steps p.tables e below (T1.setTop (mkF m 13 #[.val (.ref r1), .val (.int p1)] [(.int (0 : Int32))])) _
      exact retOut X1 hx Bd.returns rfl (Or.inl ⟨rfl, by simp, _, rfl⟩) (hb hby d4_13) hr
    · show Qw Z r1 p1 w h0 n0 _ T1.heap _
      rw [e1]
      exact ⟨by simp [own_waits, hc5_3], N0, rfl⟩
theorem own_max1 (r : Int32) : 1 ≤ (own_max 1 (r &&& (2147483647 : Int32))).toInt ∧ ¬ (own_max 1 (r &&& (2147483647 : Int32))) < (1 : Int32) := by
  have e1 := c_mask r (2147483647 : Int32) 31 (by decide) (by decide)
  generalize (r &&& (2147483647 : Int32)) = z at *
  have o1 : (1 : Int32).toInt = 1 := by decide
  simp only [own_max, Int32.lt_iff_toInt_lt]
  split <;> omega
theorem own_le (c m : Int32) (h : 1 ≤ m.toInt) : ((m - (1 : Int32)) < c) ↔ ¬ (c < m) := by
  have e1 := c_isub m 1
  have r1 := rng32 (m - 1)
  have r2 := rng32 m
  have o1 : (1 : Int32).toInt = 1 := by decide
  simp only [Int32.lt_iff_toInt_lt]
  omega
theorem own_w1 {c m : Int32} (h : 1 ≤ m.toInt) (q : ¬ (m - (1 : Int32)) < c) : own_waits c m = 1 := by
  rw [own_le c m h] at q; simp only [own_waits, if_pos (Decidable.not_not.mp q)]
theorem own_w0 {c m : Int32} (h : 1 ≤ m.toInt) (q : (m - (1 : Int32)) < c) : own_waits c m = 0 := by
  rw [own_le c m h] at q; simp only [own_waits, if_neg q]
def Q0 (Z : State) (p1 p2 p3 p4 : Int32) (h0 : Heap) (n0 : Nat) (v : Option Value) (h : Heap) (L : List Loc) : Prop := v = some (.int 1) ∧ Fr n0 L
theorem pn_0 : plainName "com/example/steadyhand/steadyhand/run/RerunPolicyWaitsOnContainerPinLaw" = true := by first | (simp [plainName, overriddenIn]; done) | decide +kernel
theorem ef_rm0 (m : MethodId) (x0 : Int32) (x1 : Int32) (x2 : Int32) (x3 : Int32) : entryFrame m #[(.int x0), (.int x1), (.int x2), (.int x3)] maxLocals = mkF m 0 #[.val (.int x0), .val (.int x1), .val (.int x2), .val (.int x3), .unset, .unset, .unset, .unset, .unset] [] := by first | (simp [entryFrame, mkF, argsToLocals, Value.category, maxLocals]; done) | rfl
set_option maxRecDepth 65536 in
set_option maxHeartbeats 40000000 in
theorem rm0 (l : Launch) (Z : State) (a0 : Array Value) (hw : ∀ d ∈ tables_1, d.before a0 Z = true) (ws : List Jvm.Cond) (p1 : Int32) (p2 : Int32) (p3 : Int32) (p4 : Int32) (h0 : Heap) (n0 : Nat) (Z0 : n0 ≤ h0.size)  :
    MetFree l x (head1 (Jvm.Cond.code x code maxLocals ret :: ws) room_1) (fun a U => a = #[(.int p1), (.int p2), (.int p3), (.int p4)] ∧ Z.Warmed39 U.vm ∧ U.heap = h0) (fun _ _ _ _ _ => True) (fun _ U o U' => ∃ v L, o = .returned v ∧ Q0 Z p1 p2 p3 p4  h0 n0 v U'.heap L ∧ FrameEnd U o U' L 16 128) := by
  refine MetFree.of_bodySF (plainFor_of_name pn_0) hisR ?_
  intro p e s m args below meth c s₁ Bd hml0 hP hK
  obtain ⟨rfl, hZ, hh⟩ := hP
  have hx := Bd.exec
  have hby := Bd.bytes
  have hml : c.maxLocals = 9 := hml0
  have hown : s.vm.findClass "com/example/steadyhand/steadyhand/run/RerunPolicyWaitsOnContainerPinLaw" = some m.cls := findClass_of_methodNamed Bd.named
  have hnm := (name_of_methodNamed Bd.named Bd.method).1
  have X0 : Stand p l e room_1 s m #[(.int p1), (.int p2), (.int p3), (.int p4)] below meth c s₁ [] 0 0 := Stand.of_body Bd
  have e0 : s₁.heap = h0 := by rw [← hh, Bd.state]; rfl
  have N0 := Fr.nil n0
  have pre0 : ∀ t, Steps p.tables e below (s₁.setTop (mkF m 0 #[.val (.int p1), .val (.int p2), .val (.int p3), .val (.int p4), .unset, .unset, .unset, .unset, .unset] [])) t → Steps p.tables e below (s₁.setTop (entryFrame m #[(.int p1), (.int p2), (.int p3), (.int p4)] maxLocals)) t := fun t k => castTop (ef_rm0 m p1 p2 p3 p4) k
  obtain ⟨_, _, ⟨T1, L1, k1, n1⟩, -, X1, ⟨Lc1, hQ1, l1, y1, z1⟩, st1⟩ := Jvm.LawKit.callS X0 hx (y := (⟨"java/lang/Math", "max", "(II)I"⟩ : MethodName)) hown (mvT hZ (hw _ (List.mem_of_getElem? (i := 1) rfl))) (mvT hZ (hw _ (List.mem_of_getElem? (i := 2) rfl))) (mvT hZ (hw _ (List.mem_of_getElem? (i := 3) rfl))) (mvT hZ (hw _ (List.mem_of_getElem? (i := 4) rfl))) (by decide) (backOf (W := 0) (rm_max l Z a0 hw [] (1 : Int32) (p1 &&& (2147483647 : Int32)) h0 n0 Z0) hZ (hw _ (List.mem_of_getElem? (i := 4) rfl)) (hw _ (List.mem_of_getElem? (i := 3) rfl)) (by decide) (by decide)) (g := (mkF m 5 #[.val (.int p1), .val (.int p2), .val (.int p3), .val (.int p4), .unset, .unset, .unset, .unset, .unset] [(.int (p1 &&& (2147483647 : Int32))), (.int (1 : Int32))])) rfl (by rw [hml]; rfl) (argsL := [(.int (1 : Int32)), (.int (p1 &&& (2147483647 : Int32)))]) (rest := []) (lenOf pd_0 rfl) rfl (by show 2 * 0 + _ ≤ _; exact Nat.le_of_eq rfl) (hb hby at_5) (fun _ _ => ⟨rfl, e0, (by decide : 0 + 0 ≤ _), (by decide : 0 + 0 ≤ _)⟩)
  dsimp only [Pt.U, Pt.locs, Pt.cells, Pt.slots] at X1 l1 y1 z1 st1 hQ1
  subst l1 y1 z1
  obtain ⟨rfl, N1q, e1⟩ := hQ1
  have N1 := Fr.app N0 N1q
  obtain ⟨_, _, ⟨T2, L2, k2, n2⟩, -, X2, ⟨Lc2, hQ2, l2, y2, z2⟩, st2⟩ := Jvm.LawKit.callS X1 hx (y := (⟨"java/lang/Math", "max", "(II)I"⟩ : MethodName)) hown (mvT hZ (hw _ (List.mem_of_getElem? (i := 1) rfl))) (mvT hZ (hw _ (List.mem_of_getElem? (i := 2) rfl))) (mvT hZ (hw _ (List.mem_of_getElem? (i := 3) rfl))) (mvT hZ (hw _ (List.mem_of_getElem? (i := 4) rfl))) (by decide) (backOf (W := 0) (rm_max l Z a0 hw [] (1 : Int32) (p2 &&& (2147483647 : Int32)) h0 n0 Z0) hZ (hw _ (List.mem_of_getElem? (i := 4) rfl)) (hw _ (List.mem_of_getElem? (i := 3) rfl)) (by decide) (by decide)) (g := (mkF m 15 #[.val (.int p1), .val (.int p2), .val (.int p3), .val (.int p4), .val (.int (own_max (1 : Int32) (p1 &&& (2147483647 : Int32)))), .unset, .unset, .unset, .unset] [(.int (p2 &&& (2147483647 : Int32))), (.int (1 : Int32))])) rfl (by rw [hml]; rfl) (argsL := [(.int (1 : Int32)), (.int (p2 &&& (2147483647 : Int32)))]) (rest := []) (lenOf pd_0 rfl) rfl (by show 2 * 0 + _ ≤ _; exact Nat.le_of_eq rfl) (hb hby at_15) (fun _ _ => ⟨rfl, e1, (by decide : 0 + 0 ≤ _), (by decide : 0 + 0 ≤ _)⟩)
  dsimp only [Pt.U, Pt.locs, Pt.cells, Pt.slots] at X2 l2 y2 z2 st2 hQ2
  subst l2 y2 z2
  obtain ⟨rfl, N2q, e2⟩ := hQ2
  have N2 := Fr.app N1 N2q
  have pre3 : ∀ t, Steps p.tables e below (T2.setTop (mkF m 23 #[.val (.int p1), .val (.int p2), .val (.int p3), .val (.int p4), .val (.int (own_max (1 : Int32) (p1 &&& (2147483647 : Int32)))), .val (.int (own_max (1 : Int32) (p2 &&& (2147483647 : Int32)))), .unset, .unset, .unset] [(.int (p4 &&& (1 : Int32)))])) t → Steps p.tables e below (s₁.setTop (entryFrame m #[(.int p1), (.int p2), (.int p3), (.int p4)] maxLocals)) t := fun t k => pre0 t (by
    show Steps p.tables e below (s₁.setTop (mkF m 0 #[.val (.int p1), .val (.int p2), .val (.int p3), .val (.int p4), .unset, .unset, .unset, .unset, .unset] [])) _
    refine XT.iconstV X0.here hx rfl (1 : Int32) (hb hby at_0) (by decide) ?_
    show Steps p.tables e below (s₁.setTop (mkF m 1 #[.val (.int p1), .val (.int p2), .val (.int p3), .val (.int p4), .unset, .unset, .unset, .unset, .unset] [(.int (1 : Int32))])) _
    refine XS.iloadN X0.here hx rfl (hb hby at_1) rfl ?_
    show Steps p.tables e below (s₁.setTop (mkF m 2 #[.val (.int p1), .val (.int p2), .val (.int p3), .val (.int p4), .unset, .unset, .unset, .unset, .unset] [(.int p1), (.int (1 : Int32))])) _
    refine X0.ldcInt hx hown (mvT hZ (hw _ (List.mem_of_getElem? (i := 0) rfl))) (g := (mkF m 2 #[.val (.int p1), .val (.int p2), .val (.int p3), .val (.int p4), .unset, .unset, .unset, .unset, .unset] [(.int p1), (.int (1 : Int32))])) rfl (hb hby at_2) _ ?_
    show Steps p.tables e below (s₁.setTop (mkF m 4 #[.val (.int p1), .val (.int p2), .val (.int p3), .val (.int p4), .unset, .unset, .unset, .unset, .unset] [(.int (2147483647 : Int32)), (.int p1), (.int (1 : Int32))])) _
    refine XS.iand X0.here hx rfl (hb hby at_4) rfl ?_
    show Steps p.tables e below (s₁.setTop (mkF m 5 #[.val (.int p1), .val (.int p2), .val (.int p3), .val (.int p4), .unset, .unset, .unset, .unset, .unset] [(.int (p1 &&& (2147483647 : Int32))), (.int (1 : Int32))])) _
    refine st1 _ ?_
    show Steps p.tables e below (T1.setTop (mkF m 8 #[.val (.int p1), .val (.int p2), .val (.int p3), .val (.int p4), .unset, .unset, .unset, .unset, .unset] [(.int (own_max (1 : Int32) (p1 &&& (2147483647 : Int32))))])) _
    refine XS.istore X1.here hx rfl (hb hby at_8) rfl (l' := #[.val (.int p1), .val (.int p2), .val (.int p3), .val (.int p4), .val (.int (own_max (1 : Int32) (p1 &&& (2147483647 : Int32)))), .unset, .unset, .unset, .unset]) rfl ?_
    show Steps p.tables e below (T1.setTop (mkF m 10 #[.val (.int p1), .val (.int p2), .val (.int p3), .val (.int p4), .val (.int (own_max (1 : Int32) (p1 &&& (2147483647 : Int32)))), .unset, .unset, .unset, .unset] [])) _
    refine XT.iconstV X1.here hx rfl (1 : Int32) (hb hby at_10) (by decide) ?_
    show Steps p.tables e below (T1.setTop (mkF m 11 #[.val (.int p1), .val (.int p2), .val (.int p3), .val (.int p4), .val (.int (own_max (1 : Int32) (p1 &&& (2147483647 : Int32)))), .unset, .unset, .unset, .unset] [(.int (1 : Int32))])) _
    refine XS.iloadN X1.here hx rfl (hb hby at_11) rfl ?_
    show Steps p.tables e below (T1.setTop (mkF m 12 #[.val (.int p1), .val (.int p2), .val (.int p3), .val (.int p4), .val (.int (own_max (1 : Int32) (p1 &&& (2147483647 : Int32)))), .unset, .unset, .unset, .unset] [(.int p2), (.int (1 : Int32))])) _
    refine X1.ldcInt hx hown (mvT hZ (hw _ (List.mem_of_getElem? (i := 0) rfl))) (g := (mkF m 12 #[.val (.int p1), .val (.int p2), .val (.int p3), .val (.int p4), .val (.int (own_max (1 : Int32) (p1 &&& (2147483647 : Int32)))), .unset, .unset, .unset, .unset] [(.int p2), (.int (1 : Int32))])) rfl (hb hby at_12) _ ?_
    show Steps p.tables e below (T1.setTop (mkF m 14 #[.val (.int p1), .val (.int p2), .val (.int p3), .val (.int p4), .val (.int (own_max (1 : Int32) (p1 &&& (2147483647 : Int32)))), .unset, .unset, .unset, .unset] [(.int (2147483647 : Int32)), (.int p2), (.int (1 : Int32))])) _
    refine XS.iand X1.here hx rfl (hb hby at_14) rfl ?_
    show Steps p.tables e below (T1.setTop (mkF m 15 #[.val (.int p1), .val (.int p2), .val (.int p3), .val (.int p4), .val (.int (own_max (1 : Int32) (p1 &&& (2147483647 : Int32)))), .unset, .unset, .unset, .unset] [(.int (p2 &&& (2147483647 : Int32))), (.int (1 : Int32))])) _
    refine st2 _ ?_
    show Steps p.tables e below (T2.setTop (mkF m 18 #[.val (.int p1), .val (.int p2), .val (.int p3), .val (.int p4), .val (.int (own_max (1 : Int32) (p1 &&& (2147483647 : Int32)))), .unset, .unset, .unset, .unset] [(.int (own_max (1 : Int32) (p2 &&& (2147483647 : Int32))))])) _
    refine XS.istore X2.here hx rfl (hb hby at_18) rfl (l' := #[.val (.int p1), .val (.int p2), .val (.int p3), .val (.int p4), .val (.int (own_max (1 : Int32) (p1 &&& (2147483647 : Int32)))), .val (.int (own_max (1 : Int32) (p2 &&& (2147483647 : Int32)))), .unset, .unset, .unset]) rfl ?_
    show Steps p.tables e below (T2.setTop (mkF m 20 #[.val (.int p1), .val (.int p2), .val (.int p3), .val (.int p4), .val (.int (own_max (1 : Int32) (p1 &&& (2147483647 : Int32)))), .val (.int (own_max (1 : Int32) (p2 &&& (2147483647 : Int32)))), .unset, .unset, .unset] [])) _
    refine XS.iloadN X2.here hx rfl (hb hby at_20) rfl ?_
    show Steps p.tables e below (T2.setTop (mkF m 21 #[.val (.int p1), .val (.int p2), .val (.int p3), .val (.int p4), .val (.int (own_max (1 : Int32) (p1 &&& (2147483647 : Int32)))), .val (.int (own_max (1 : Int32) (p2 &&& (2147483647 : Int32)))), .unset, .unset, .unset] [(.int p4)])) _
    refine XT.iconstV X2.here hx rfl (1 : Int32) (hb hby at_21) (by decide) ?_
    show Steps p.tables e below (T2.setTop (mkF m 22 #[.val (.int p1), .val (.int p2), .val (.int p3), .val (.int p4), .val (.int (own_max (1 : Int32) (p1 &&& (2147483647 : Int32)))), .val (.int (own_max (1 : Int32) (p2 &&& (2147483647 : Int32)))), .unset, .unset, .unset] [(.int (1 : Int32)), (.int p4)])) _
    refine XS.iand X2.here hx rfl (hb hby at_22) rfl ?_
    exact k)
  by_cases hc23_4 : (p4 &&& (1 : Int32)) = (0 : Int32)
  · have _ := 0
    have O0 := own_ext_refl h0
    obtain ⟨T5, h5, X5, e5, E5, A5, D5, -, st5⟩ := newO X2 hx hZ hown (hw _ (List.mem_of_getElem? (i := 5) rfl)) (hw _ (List.mem_of_getElem? (i := 6) rfl)) (hw _ (List.mem_of_getElem? (i := 7) rfl)) e2 (g := (mkF m 40 #[.val (.int p1), .val (.int p2), .val (.int p3), .val (.int p4), .val (.int (own_max (1 : Int32) (p1 &&& (2147483647 : Int32)))), .val (.int (own_max (1 : Int32) (p2 &&& (2147483647 : Int32)))), .val (.int ((own_max (1 : Int32) (p1 &&& (2147483647 : Int32))) - (p3 &&& (3 : Int32)))), .unset, .unset] [])) rfl (hb hby at_40) (by decide) (by decide)
    obtain ⟨b5, g5⟩ : ∃ z, z = h0.size := ⟨_, rfl⟩
    rw [← g5] at A5 D5 st5
    have z_b5 : h0.size ≤ b5 := Nat.le_trans O0.1 (Nat.le_of_eq g5.symm)
    have g_b5 : n0 ≤ b5 := Nat.le_trans Z0 z_b5
    have O5 := own_ext_trans O0 E5
    have F5_b5_maxRuns : Fld Z h5 b5 "com/example/steadyhand/steadyhand/run/RerunPolicy" "maxRuns" "I" (.int (0 : Int32)) := D5 (Or.inr (hw _ (List.mem_of_getElem? (i := 15) rfl))) (ty := .int) (by decide)
    have F5_b5_minPasses : Fld Z h5 b5 "com/example/steadyhand/steadyhand/run/RerunPolicy" "minPasses" "I" (.int (0 : Int32)) := D5 (Or.inr (hw _ (List.mem_of_getElem? (i := 17) rfl))) (ty := .int) (by decide)
    obtain ⟨_, _, ⟨T6, L6, k6, n6⟩, -, X6, ⟨Lc6, hQ6, l6, y6, z6⟩, st6⟩ := X5.specialBack hx (y := (⟨"com/example/steadyhand/steadyhand/run/RerunPolicy", "<init>", "(II)V"⟩ : MethodName)) rfl hown (mvT hZ (hw _ (List.mem_of_getElem? (i := 8) rfl))) (mvT hZ (hw _ (List.mem_of_getElem? (i := 9) rfl))) (mvT hZ (hw _ (List.mem_of_getElem? (i := 10) rfl))) (by decide) (backOf (W := 1) (rm_init l Z a0 hw [] b5 (own_max (1 : Int32) (p1 &&& (2147483647 : Int32))) (own_max (1 : Int32) (p2 &&& (2147483647 : Int32))) h5 n0 (Nat.le_trans Z0 O5.1) A5 F5_b5_maxRuns F5_b5_minPasses g_b5 (own_max1 p1).2 (own_max1 p2).2) hZ (hw _ (List.mem_of_getElem? (i := 10) rfl)) (hw _ (List.mem_of_getElem? (i := 7) rfl)) (by decide) (by decide)) (g := (mkF m 48 #[.val (.int p1), .val (.int p2), .val (.int p3), .val (.int p4), .val (.int (own_max (1 : Int32) (p1 &&& (2147483647 : Int32)))), .val (.int (own_max (1 : Int32) (p2 &&& (2147483647 : Int32)))), .val (.int ((own_max (1 : Int32) (p1 &&& (2147483647 : Int32))) - (p3 &&& (3 : Int32)))), .unset, .unset] [(.int (own_max (1 : Int32) (p2 &&& (2147483647 : Int32)))), (.int (own_max (1 : Int32) (p1 &&& (2147483647 : Int32)))), (.ref b5), (.ref b5)])) rfl (by rw [hml]; rfl) (Steps.refl _) (a := b5) (argsL := [(.int (own_max (1 : Int32) (p1 &&& (2147483647 : Int32)))), (.int (own_max (1 : Int32) (p2 &&& (2147483647 : Int32))))]) (rest := [(.ref b5)]) (lenOf pd_1 rfl) rfl (by show 2 * 0 + _ ≤ _; exact Nat.le_of_eq rfl) (hb hby at_48) (fun _ _ => ⟨rfl, e5, (by decide : 1 + 0 ≤ _), (by decide : 2 + 0 ≤ _)⟩)
    dsimp only [Pt.U, Pt.locs, Pt.cells, Pt.slots] at X6 l6 y6 z6 st6 hQ6
    subst l6 y6 z6
    obtain ⟨rfl, N6q, K6c, E6c, F6c⟩ := hQ6
    have N6 := Fr.app N2 N6q
    have E6_b5 := A5.keep K6c
    have O6 := own_ext_keep O5 K6c (allS z_b5 all0)
    have pre7 : ∀ t, Steps p.tables e below (T6.setTop (mkF m 59 #[.val (.int p1), .val (.int p2), .val (.int p3), .val (.int p4), .val (.int (own_max (1 : Int32) (p1 &&& (2147483647 : Int32)))), .val (.int (own_max (1 : Int32) (p2 &&& (2147483647 : Int32)))), .val (.int ((own_max (1 : Int32) (p1 &&& (2147483647 : Int32))) - (p3 &&& (3 : Int32)))), .val (.ref b5), .unset] [(.int ((own_max (1 : Int32) (p1 &&& (2147483647 : Int32))) - (1 : Int32))), (.int ((own_max (1 : Int32) (p1 &&& (2147483647 : Int32))) - (p3 &&& (3 : Int32))))])) t → Steps p.tables e below (s₁.setTop (entryFrame m #[(.int p1), (.int p2), (.int p3), (.int p4)] maxLocals)) t := fun t k => pre3 t (by
      show Steps p.tables e below (T2.setTop (mkF m 23 #[.val (.int p1), .val (.int p2), .val (.int p3), .val (.int p4), .val (.int (own_max (1 : Int32) (p1 &&& (2147483647 : Int32)))), .val (.int (own_max (1 : Int32) (p2 &&& (2147483647 : Int32)))), .unset, .unset, .unset] [(.int (p4 &&& (1 : Int32)))])) _
      refine XS.ifYes X2.here hx rfl (pc0 := 23) (pc' := 32) rfl (hb hby at_23) rfl ((if0 _ _).trans (teq hc23_4).1) (by decide) (by decide) ?_
      show Steps p.tables e below (T2.setTop (mkF m 32 #[.val (.int p1), .val (.int p2), .val (.int p3), .val (.int p4), .val (.int (own_max (1 : Int32) (p1 &&& (2147483647 : Int32)))), .val (.int (own_max (1 : Int32) (p2 &&& (2147483647 : Int32)))), .unset, .unset, .unset] [])) _
      refine XS.iload X2.here hx rfl (hb hby at_32) rfl ?_
      show Steps p.tables e below (T2.setTop (mkF m 34 #[.val (.int p1), .val (.int p2), .val (.int p3), .val (.int p4), .val (.int (own_max (1 : Int32) (p1 &&& (2147483647 : Int32)))), .val (.int (own_max (1 : Int32) (p2 &&& (2147483647 : Int32)))), .unset, .unset, .unset] [(.int (own_max (1 : Int32) (p1 &&& (2147483647 : Int32))))])) _
      refine XS.iloadN X2.here hx rfl (hb hby at_34) rfl ?_
      show Steps p.tables e below (T2.setTop (mkF m 35 #[.val (.int p1), .val (.int p2), .val (.int p3), .val (.int p4), .val (.int (own_max (1 : Int32) (p1 &&& (2147483647 : Int32)))), .val (.int (own_max (1 : Int32) (p2 &&& (2147483647 : Int32)))), .unset, .unset, .unset] [(.int p3), (.int (own_max (1 : Int32) (p1 &&& (2147483647 : Int32))))])) _
      refine XT.iconstV X2.here hx rfl (3 : Int32) (hb hby at_35) (by decide) ?_
      show Steps p.tables e below (T2.setTop (mkF m 36 #[.val (.int p1), .val (.int p2), .val (.int p3), .val (.int p4), .val (.int (own_max (1 : Int32) (p1 &&& (2147483647 : Int32)))), .val (.int (own_max (1 : Int32) (p2 &&& (2147483647 : Int32)))), .unset, .unset, .unset] [(.int (3 : Int32)), (.int p3), (.int (own_max (1 : Int32) (p1 &&& (2147483647 : Int32))))])) _
      refine XS.iand X2.here hx rfl (hb hby at_36) rfl ?_
      show Steps p.tables e below (T2.setTop (mkF m 37 #[.val (.int p1), .val (.int p2), .val (.int p3), .val (.int p4), .val (.int (own_max (1 : Int32) (p1 &&& (2147483647 : Int32)))), .val (.int (own_max (1 : Int32) (p2 &&& (2147483647 : Int32)))), .unset, .unset, .unset] [(.int (p3 &&& (3 : Int32))), (.int (own_max (1 : Int32) (p1 &&& (2147483647 : Int32))))])) _
      refine XS.isub X2.here hx rfl (hb hby at_37) rfl ?_
      show Steps p.tables e below (T2.setTop (mkF m 38 #[.val (.int p1), .val (.int p2), .val (.int p3), .val (.int p4), .val (.int (own_max (1 : Int32) (p1 &&& (2147483647 : Int32)))), .val (.int (own_max (1 : Int32) (p2 &&& (2147483647 : Int32)))), .unset, .unset, .unset] [(.int ((own_max (1 : Int32) (p1 &&& (2147483647 : Int32))) - (p3 &&& (3 : Int32))))])) _
      refine XS.istore X2.here hx rfl (hb hby at_38) rfl (l' := #[.val (.int p1), .val (.int p2), .val (.int p3), .val (.int p4), .val (.int (own_max (1 : Int32) (p1 &&& (2147483647 : Int32)))), .val (.int (own_max (1 : Int32) (p2 &&& (2147483647 : Int32)))), .val (.int ((own_max (1 : Int32) (p1 &&& (2147483647 : Int32))) - (p3 &&& (3 : Int32)))), .unset, .unset]) rfl ?_
      show Steps p.tables e below (T2.setTop (mkF m 40 #[.val (.int p1), .val (.int p2), .val (.int p3), .val (.int p4), .val (.int (own_max (1 : Int32) (p1 &&& (2147483647 : Int32)))), .val (.int (own_max (1 : Int32) (p2 &&& (2147483647 : Int32)))), .val (.int ((own_max (1 : Int32) (p1 &&& (2147483647 : Int32))) - (p3 &&& (3 : Int32)))), .unset, .unset] [])) _
      refine st5 _ ?_
      show Steps p.tables e below (T5.setTop (mkF m 43 #[.val (.int p1), .val (.int p2), .val (.int p3), .val (.int p4), .val (.int (own_max (1 : Int32) (p1 &&& (2147483647 : Int32)))), .val (.int (own_max (1 : Int32) (p2 &&& (2147483647 : Int32)))), .val (.int ((own_max (1 : Int32) (p1 &&& (2147483647 : Int32))) - (p3 &&& (3 : Int32)))), .unset, .unset] [(.ref b5)])) _
      refine XS.dup X5.here hx rfl (hb hby at_43) rfl rfl ?_
      show Steps p.tables e below (T5.setTop (mkF m 44 #[.val (.int p1), .val (.int p2), .val (.int p3), .val (.int p4), .val (.int (own_max (1 : Int32) (p1 &&& (2147483647 : Int32)))), .val (.int (own_max (1 : Int32) (p2 &&& (2147483647 : Int32)))), .val (.int ((own_max (1 : Int32) (p1 &&& (2147483647 : Int32))) - (p3 &&& (3 : Int32)))), .unset, .unset] [(.ref b5), (.ref b5)])) _
      refine XS.iload X5.here hx rfl (hb hby at_44) rfl ?_
      show Steps p.tables e below (T5.setTop (mkF m 46 #[.val (.int p1), .val (.int p2), .val (.int p3), .val (.int p4), .val (.int (own_max (1 : Int32) (p1 &&& (2147483647 : Int32)))), .val (.int (own_max (1 : Int32) (p2 &&& (2147483647 : Int32)))), .val (.int ((own_max (1 : Int32) (p1 &&& (2147483647 : Int32))) - (p3 &&& (3 : Int32)))), .unset, .unset] [(.int (own_max (1 : Int32) (p1 &&& (2147483647 : Int32)))), (.ref b5), (.ref b5)])) _
      refine XS.iload X5.here hx rfl (hb hby at_46) rfl ?_
      show Steps p.tables e below (T5.setTop (mkF m 48 #[.val (.int p1), .val (.int p2), .val (.int p3), .val (.int p4), .val (.int (own_max (1 : Int32) (p1 &&& (2147483647 : Int32)))), .val (.int (own_max (1 : Int32) (p2 &&& (2147483647 : Int32)))), .val (.int ((own_max (1 : Int32) (p1 &&& (2147483647 : Int32))) - (p3 &&& (3 : Int32)))), .unset, .unset] [(.int (own_max (1 : Int32) (p2 &&& (2147483647 : Int32)))), (.int (own_max (1 : Int32) (p1 &&& (2147483647 : Int32)))), (.ref b5), (.ref b5)])) _
      refine st6.trans ?_
      show Steps p.tables e below (T6.setTop (mkF m 51 #[.val (.int p1), .val (.int p2), .val (.int p3), .val (.int p4), .val (.int (own_max (1 : Int32) (p1 &&& (2147483647 : Int32)))), .val (.int (own_max (1 : Int32) (p2 &&& (2147483647 : Int32)))), .val (.int ((own_max (1 : Int32) (p1 &&& (2147483647 : Int32))) - (p3 &&& (3 : Int32)))), .unset, .unset] [(.ref b5)])) _
      refine XS.astore X6.here hx rfl (hb hby at_51) rfl rfl (l' := #[.val (.int p1), .val (.int p2), .val (.int p3), .val (.int p4), .val (.int (own_max (1 : Int32) (p1 &&& (2147483647 : Int32)))), .val (.int (own_max (1 : Int32) (p2 &&& (2147483647 : Int32)))), .val (.int ((own_max (1 : Int32) (p1 &&& (2147483647 : Int32))) - (p3 &&& (3 : Int32)))), .val (.ref b5), .unset]) rfl ?_
      show Steps p.tables e below (T6.setTop (mkF m 53 #[.val (.int p1), .val (.int p2), .val (.int p3), .val (.int p4), .val (.int (own_max (1 : Int32) (p1 &&& (2147483647 : Int32)))), .val (.int (own_max (1 : Int32) (p2 &&& (2147483647 : Int32)))), .val (.int ((own_max (1 : Int32) (p1 &&& (2147483647 : Int32))) - (p3 &&& (3 : Int32)))), .val (.ref b5), .unset] [])) _
      refine XS.iload X6.here hx rfl (hb hby at_53) rfl ?_
      show Steps p.tables e below (T6.setTop (mkF m 55 #[.val (.int p1), .val (.int p2), .val (.int p3), .val (.int p4), .val (.int (own_max (1 : Int32) (p1 &&& (2147483647 : Int32)))), .val (.int (own_max (1 : Int32) (p2 &&& (2147483647 : Int32)))), .val (.int ((own_max (1 : Int32) (p1 &&& (2147483647 : Int32))) - (p3 &&& (3 : Int32)))), .val (.ref b5), .unset] [(.int ((own_max (1 : Int32) (p1 &&& (2147483647 : Int32))) - (p3 &&& (3 : Int32))))])) _
      refine XS.iload X6.here hx rfl (hb hby at_55) rfl ?_
      show Steps p.tables e below (T6.setTop (mkF m 57 #[.val (.int p1), .val (.int p2), .val (.int p3), .val (.int p4), .val (.int (own_max (1 : Int32) (p1 &&& (2147483647 : Int32)))), .val (.int (own_max (1 : Int32) (p2 &&& (2147483647 : Int32)))), .val (.int ((own_max (1 : Int32) (p1 &&& (2147483647 : Int32))) - (p3 &&& (3 : Int32)))), .val (.ref b5), .unset] [(.int (own_max (1 : Int32) (p1 &&& (2147483647 : Int32)))), (.int ((own_max (1 : Int32) (p1 &&& (2147483647 : Int32))) - (p3 &&& (3 : Int32))))])) _
      refine XT.iconstV X6.here hx rfl (1 : Int32) (hb hby at_57) (by decide) ?_
      show Steps p.tables e below (T6.setTop (mkF m 58 #[.val (.int p1), .val (.int p2), .val (.int p3), .val (.int p4), .val (.int (own_max (1 : Int32) (p1 &&& (2147483647 : Int32)))), .val (.int (own_max (1 : Int32) (p2 &&& (2147483647 : Int32)))), .val (.int ((own_max (1 : Int32) (p1 &&& (2147483647 : Int32))) - (p3 &&& (3 : Int32)))), .val (.ref b5), .unset] [(.int (1 : Int32)), (.int (own_max (1 : Int32) (p1 &&& (2147483647 : Int32)))), (.int ((own_max (1 : Int32) (p1 &&& (2147483647 : Int32))) - (p3 &&& (3 : Int32))))])) _
      refine XS.isub X6.here hx rfl (hb hby at_58) rfl ?_
      exact k)
    by_cases hc59_8 : ((own_max (1 : Int32) (p1 &&& (2147483647 : Int32))) - (1 : Int32)) < ((own_max (1 : Int32) (p1 &&& (2147483647 : Int32))) - (p3 &&& (3 : Int32)))
    · have _ := 0
      obtain ⟨cq9, kq9, q9a, q9b, q9c⟩ := isOf hZ rfl E6c
      obtain ⟨_, _, ⟨T9, L9, k9, n9⟩, -, X9, ⟨Lc9, hQ9, l9, y9, z9⟩, st9⟩ := X6.virtualBack hx (y := (⟨"com/example/steadyhand/steadyhand/run/RerunPolicy", "waitsOnContainer", "(I)Z"⟩ : MethodName)) (z := (⟨"com/example/steadyhand/steadyhand/run/RerunPolicy", "waitsOnContainer", "(I)Z"⟩ : MethodName)) hown (mvT hZ (hw _ (List.mem_of_getElem? (i := 18) rfl))) (mvT hZ (hw _ (List.mem_of_getElem? (i := 19) rfl))) (notFace_of_selects (args := #[]) (mvT hZ (hw _ (List.mem_of_getElem? (i := 21) rfl)))) (mvT hZ (hw _ (List.mem_of_getElem? (i := 21) rfl))) (mvT hZ (hw _ (List.mem_of_getElem? (i := 20) rfl))) (by decide) (backOf (W := 0) (rm_w l Z a0 hw [] b5 ((own_max (1 : Int32) (p1 &&& (2147483647 : Int32))) - (p3 &&& (3 : Int32))) T6.heap n0 (Nat.le_trans Z0 O6.1) (own_max (1 : Int32) (p1 &&& (2147483647 : Int32))) F6c) hZ (hw _ (List.mem_of_getElem? (i := 22) rfl)) (hw _ (List.mem_of_getElem? (i := 7) rfl)) (by decide) (by decide)) q9a q9c (g := (mkF m 73 #[.val (.int p1), .val (.int p2), .val (.int p3), .val (.int p4), .val (.int (own_max (1 : Int32) (p1 &&& (2147483647 : Int32)))), .val (.int (own_max (1 : Int32) (p2 &&& (2147483647 : Int32)))), .val (.int ((own_max (1 : Int32) (p1 &&& (2147483647 : Int32))) - (p3 &&& (3 : Int32)))), .val (.ref b5), .val (.int (0 : Int32))] [(.int ((own_max (1 : Int32) (p1 &&& (2147483647 : Int32))) - (p3 &&& (3 : Int32)))), (.ref b5)])) rfl (by rw [hml]; rfl) (Steps.refl _) (argsL := [(.int ((own_max (1 : Int32) (p1 &&& (2147483647 : Int32))) - (p3 &&& (3 : Int32))))]) (rest := []) (lenOf pd_2 rfl) rfl (by show 2 * 0 + _ ≤ _; exact Nat.le_of_eq rfl) (hb hby at_73) (fun _ _ => ⟨rfl, rfl, (by decide : 1 + 0 ≤ _), (by decide : 2 + 0 ≤ _)⟩)
      dsimp only [Pt.U, Pt.locs, Pt.cells, Pt.slots] at X9 l9 y9 z9 st9 hQ9
      subst l9 y9 z9
      obtain ⟨rfl, N9q, e9⟩ := hQ9
      have N9 := Fr.app N6 N9q
      have pre10 : ∀ t, Steps p.tables e below (T9.setTop (mkF m 86 #[.val (.int p1), .val (.int p2), .val (.int p3), .val (.int p4), .val (.int (own_max (1 : Int32) (p1 &&& (2147483647 : Int32)))), .val (.int (own_max (1 : Int32) (p2 &&& (2147483647 : Int32)))), .val (.int ((own_max (1 : Int32) (p1 &&& (2147483647 : Int32))) - (p3 &&& (3 : Int32)))), .val (.ref b5), .val (.int (0 : Int32))] [(.int (1 : Int32))])) t → Steps p.tables e below (s₁.setTop (entryFrame m #[(.int p1), (.int p2), (.int p3), (.int p4)] maxLocals)) t := fun t k => pre7 t (by
        show Steps p.tables e below (T6.setTop (mkF m 59 #[.val (.int p1), .val (.int p2), .val (.int p3), .val (.int p4), .val (.int (own_max (1 : Int32) (p1 &&& (2147483647 : Int32)))), .val (.int (own_max (1 : Int32) (p2 &&& (2147483647 : Int32)))), .val (.int ((own_max (1 : Int32) (p1 &&& (2147483647 : Int32))) - (p3 &&& (3 : Int32)))), .val (.ref b5), .unset] [(.int ((own_max (1 : Int32) (p1 &&& (2147483647 : Int32))) - (1 : Int32))), (.int ((own_max (1 : Int32) (p1 &&& (2147483647 : Int32))) - (p3 &&& (3 : Int32))))])) _
        refine XS.icmpYes X6.here hx rfl (pc0 := 59) (pc' := 66) rfl (hb hby at_59) rfl (tlt hc59_8).2.2.1 (by decide) (by decide) ?_
        show Steps p.tables e below (T6.setTop (mkF m 66 #[.val (.int p1), .val (.int p2), .val (.int p3), .val (.int p4), .val (.int (own_max (1 : Int32) (p1 &&& (2147483647 : Int32)))), .val (.int (own_max (1 : Int32) (p2 &&& (2147483647 : Int32)))), .val (.int ((own_max (1 : Int32) (p1 &&& (2147483647 : Int32))) - (p3 &&& (3 : Int32)))), .val (.ref b5), .unset] [])) _
        refine XT.iconstV X6.here hx rfl (0 : Int32) (hb hby at_66) (by decide) ?_
        show Steps p.tables e below (T6.setTop (mkF m 67 #[.val (.int p1), .val (.int p2), .val (.int p3), .val (.int p4), .val (.int (own_max (1 : Int32) (p1 &&& (2147483647 : Int32)))), .val (.int (own_max (1 : Int32) (p2 &&& (2147483647 : Int32)))), .val (.int ((own_max (1 : Int32) (p1 &&& (2147483647 : Int32))) - (p3 &&& (3 : Int32)))), .val (.ref b5), .unset] [(.int (0 : Int32))])) _
        refine XS.istore X6.here hx rfl (hb hby at_67) rfl (l' := #[.val (.int p1), .val (.int p2), .val (.int p3), .val (.int p4), .val (.int (own_max (1 : Int32) (p1 &&& (2147483647 : Int32)))), .val (.int (own_max (1 : Int32) (p2 &&& (2147483647 : Int32)))), .val (.int ((own_max (1 : Int32) (p1 &&& (2147483647 : Int32))) - (p3 &&& (3 : Int32)))), .val (.ref b5), .val (.int (0 : Int32))]) rfl ?_
        show Steps p.tables e below (T6.setTop (mkF m 69 #[.val (.int p1), .val (.int p2), .val (.int p3), .val (.int p4), .val (.int (own_max (1 : Int32) (p1 &&& (2147483647 : Int32)))), .val (.int (own_max (1 : Int32) (p2 &&& (2147483647 : Int32)))), .val (.int ((own_max (1 : Int32) (p1 &&& (2147483647 : Int32))) - (p3 &&& (3 : Int32)))), .val (.ref b5), .val (.int (0 : Int32))] [])) _
        refine XS.aload X6.here hx rfl (hb hby at_69) rfl rfl ?_
        show Steps p.tables e below (T6.setTop (mkF m 71 #[.val (.int p1), .val (.int p2), .val (.int p3), .val (.int p4), .val (.int (own_max (1 : Int32) (p1 &&& (2147483647 : Int32)))), .val (.int (own_max (1 : Int32) (p2 &&& (2147483647 : Int32)))), .val (.int ((own_max (1 : Int32) (p1 &&& (2147483647 : Int32))) - (p3 &&& (3 : Int32)))), .val (.ref b5), .val (.int (0 : Int32))] [(.ref b5)])) _
        refine XS.iload X6.here hx rfl (hb hby at_71) rfl ?_
        show Steps p.tables e below (T6.setTop (mkF m 73 #[.val (.int p1), .val (.int p2), .val (.int p3), .val (.int p4), .val (.int (own_max (1 : Int32) (p1 &&& (2147483647 : Int32)))), .val (.int (own_max (1 : Int32) (p2 &&& (2147483647 : Int32)))), .val (.int ((own_max (1 : Int32) (p1 &&& (2147483647 : Int32))) - (p3 &&& (3 : Int32)))), .val (.ref b5), .val (.int (0 : Int32))] [(.int ((own_max (1 : Int32) (p1 &&& (2147483647 : Int32))) - (p3 &&& (3 : Int32)))), (.ref b5)])) _
        refine st9.trans ?_
        show Steps p.tables e below (T9.setTop (mkF m 76 #[.val (.int p1), .val (.int p2), .val (.int p3), .val (.int p4), .val (.int (own_max (1 : Int32) (p1 &&& (2147483647 : Int32)))), .val (.int (own_max (1 : Int32) (p2 &&& (2147483647 : Int32)))), .val (.int ((own_max (1 : Int32) (p1 &&& (2147483647 : Int32))) - (p3 &&& (3 : Int32)))), .val (.ref b5), .val (.int (0 : Int32))] [(.int (own_waits ((own_max (1 : Int32) (p1 &&& (2147483647 : Int32))) - (p3 &&& (3 : Int32))) (own_max (1 : Int32) (p1 &&& (2147483647 : Int32)))))])) _
        refine castTop (g' := (mkF m 76 #[.val (.int p1), .val (.int p2), .val (.int p3), .val (.int p4), .val (.int (own_max (1 : Int32) (p1 &&& (2147483647 : Int32)))), .val (.int (own_max (1 : Int32) (p2 &&& (2147483647 : Int32)))), .val (.int ((own_max (1 : Int32) (p1 &&& (2147483647 : Int32))) - (p3 &&& (3 : Int32)))), .val (.ref b5), .val (.int (0 : Int32))] [(.int (0 : Int32))])) (by rw [own_w0 (own_max1 p1).1 hc59_8]) ?_
        show Steps p.tables e below (T9.setTop (mkF m 76 #[.val (.int p1), .val (.int p2), .val (.int p3), .val (.int p4), .val (.int (own_max (1 : Int32) (p1 &&& (2147483647 : Int32)))), .val (.int (own_max (1 : Int32) (p2 &&& (2147483647 : Int32)))), .val (.int ((own_max (1 : Int32) (p1 &&& (2147483647 : Int32))) - (p3 &&& (3 : Int32)))), .val (.ref b5), .val (.int (0 : Int32))] [(.int (0 : Int32))])) _
        refine XS.iload X9.here hx rfl (hb hby at_76) rfl ?_
        show Steps p.tables e below (T9.setTop (mkF m 78 #[.val (.int p1), .val (.int p2), .val (.int p3), .val (.int p4), .val (.int (own_max (1 : Int32) (p1 &&& (2147483647 : Int32)))), .val (.int (own_max (1 : Int32) (p2 &&& (2147483647 : Int32)))), .val (.int ((own_max (1 : Int32) (p1 &&& (2147483647 : Int32))) - (p3 &&& (3 : Int32)))), .val (.ref b5), .val (.int (0 : Int32))] [(.int (0 : Int32)), (.int (0 : Int32))])) _
        refine XS.icmpNo X9.here hx rfl (hb hby at_78) rfl (teq (by decide : ((0 : Int32) = (0 : Int32)))).2 ?_
        show Steps p.tables e below (T9.setTop (mkF m 81 #[.val (.int p1), .val (.int p2), .val (.int p3), .val (.int p4), .val (.int (own_max (1 : Int32) (p1 &&& (2147483647 : Int32)))), .val (.int (own_max (1 : Int32) (p2 &&& (2147483647 : Int32)))), .val (.int ((own_max (1 : Int32) (p1 &&& (2147483647 : Int32))) - (p3 &&& (3 : Int32)))), .val (.ref b5), .val (.int (0 : Int32))] [])) _
        refine XT.iconstV X9.here hx rfl (1 : Int32) (hb hby at_81) (by decide) ?_
        show Steps p.tables e below (T9.setTop (mkF m 82 #[.val (.int p1), .val (.int p2), .val (.int p3), .val (.int p4), .val (.int (own_max (1 : Int32) (p1 &&& (2147483647 : Int32)))), .val (.int (own_max (1 : Int32) (p2 &&& (2147483647 : Int32)))), .val (.int ((own_max (1 : Int32) (p1 &&& (2147483647 : Int32))) - (p3 &&& (3 : Int32)))), .val (.ref b5), .val (.int (0 : Int32))] [(.int (1 : Int32))])) _
        refine XS.goto X9.here hx rfl (pc0 := 82) (pc' := 86) rfl (hb hby at_82) (by decide) (by decide) ?_
        exact k)
      obtain ⟨fs, hr, hrun, hended, hW, hsame⟩ := X9.leave (v := some (.int (1 : Int32))) (fun h => by rw [Bd.returns] at h; cases h)
      refine ⟨_, _, pre10 _ ?_, hrun, hended, _, _, rfl, ?_, ⟨_, rfl⟩, hW, hsame.mono (by decide) (by decide)⟩
      · show Steps p.tables e below (T9.setTop (mkF m 86 #[.val (.int p1), .val (.int p2), .val (.int p3), .val (.int p4), .val (.int (own_max (1 : Int32) (p1 &&& (2147483647 : Int32)))), .val (.int (own_max (1 : Int32) (p2 &&& (2147483647 : Int32)))), .val (.int ((own_max (1 : Int32) (p1 &&& (2147483647 : Int32))) - (p3 &&& (3 : Int32)))), .val (.ref b5), .val (.int (0 : Int32))] [(.int (1 : Int32))])) _
        exact retOut X9 hx Bd.returns rfl (Or.inl ⟨rfl, by simp, _, rfl⟩) (hb hby at_86) hr
      · show Q0 Z p1 p2 p3 p4  h0 n0 _ T9.heap _
        rw [e9]
        exact ⟨rfl, N9⟩
    · have _ := 0
      obtain ⟨cq11, kq11, q11a, q11b, q11c⟩ := isOf hZ rfl E6c
      obtain ⟨_, _, ⟨T11, L11, k11, n11⟩, -, X11, ⟨Lc11, hQ11, l11, y11, z11⟩, st11⟩ := X6.virtualBack hx (y := (⟨"com/example/steadyhand/steadyhand/run/RerunPolicy", "waitsOnContainer", "(I)Z"⟩ : MethodName)) (z := (⟨"com/example/steadyhand/steadyhand/run/RerunPolicy", "waitsOnContainer", "(I)Z"⟩ : MethodName)) hown (mvT hZ (hw _ (List.mem_of_getElem? (i := 18) rfl))) (mvT hZ (hw _ (List.mem_of_getElem? (i := 19) rfl))) (notFace_of_selects (args := #[]) (mvT hZ (hw _ (List.mem_of_getElem? (i := 21) rfl)))) (mvT hZ (hw _ (List.mem_of_getElem? (i := 21) rfl))) (mvT hZ (hw _ (List.mem_of_getElem? (i := 20) rfl))) (by decide) (backOf (W := 0) (rm_w l Z a0 hw [] b5 ((own_max (1 : Int32) (p1 &&& (2147483647 : Int32))) - (p3 &&& (3 : Int32))) T6.heap n0 (Nat.le_trans Z0 O6.1) (own_max (1 : Int32) (p1 &&& (2147483647 : Int32))) F6c) hZ (hw _ (List.mem_of_getElem? (i := 22) rfl)) (hw _ (List.mem_of_getElem? (i := 7) rfl)) (by decide) (by decide)) q11a q11c (g := (mkF m 73 #[.val (.int p1), .val (.int p2), .val (.int p3), .val (.int p4), .val (.int (own_max (1 : Int32) (p1 &&& (2147483647 : Int32)))), .val (.int (own_max (1 : Int32) (p2 &&& (2147483647 : Int32)))), .val (.int ((own_max (1 : Int32) (p1 &&& (2147483647 : Int32))) - (p3 &&& (3 : Int32)))), .val (.ref b5), .val (.int (1 : Int32))] [(.int ((own_max (1 : Int32) (p1 &&& (2147483647 : Int32))) - (p3 &&& (3 : Int32)))), (.ref b5)])) rfl (by rw [hml]; rfl) (Steps.refl _) (argsL := [(.int ((own_max (1 : Int32) (p1 &&& (2147483647 : Int32))) - (p3 &&& (3 : Int32))))]) (rest := []) (lenOf pd_2 rfl) rfl (by show 2 * 0 + _ ≤ _; exact Nat.le_of_eq rfl) (hb hby at_73) (fun _ _ => ⟨rfl, rfl, (by decide : 1 + 0 ≤ _), (by decide : 2 + 0 ≤ _)⟩)
      dsimp only [Pt.U, Pt.locs, Pt.cells, Pt.slots] at X11 l11 y11 z11 st11 hQ11
      subst l11 y11 z11
      obtain ⟨rfl, N11q, e11⟩ := hQ11
      have N11 := Fr.app N6 N11q
      have pre12 : ∀ t, Steps p.tables e below (T11.setTop (mkF m 86 #[.val (.int p1), .val (.int p2), .val (.int p3), .val (.int p4), .val (.int (own_max (1 : Int32) (p1 &&& (2147483647 : Int32)))), .val (.int (own_max (1 : Int32) (p2 &&& (2147483647 : Int32)))), .val (.int ((own_max (1 : Int32) (p1 &&& (2147483647 : Int32))) - (p3 &&& (3 : Int32)))), .val (.ref b5), .val (.int (1 : Int32))] [(.int (1 : Int32))])) t → Steps p.tables e below (s₁.setTop (entryFrame m #[(.int p1), (.int p2), (.int p3), (.int p4)] maxLocals)) t := fun t k => pre7 t (by
        show Steps p.tables e below (T6.setTop (mkF m 59 #[.val (.int p1), .val (.int p2), .val (.int p3), .val (.int p4), .val (.int (own_max (1 : Int32) (p1 &&& (2147483647 : Int32)))), .val (.int (own_max (1 : Int32) (p2 &&& (2147483647 : Int32)))), .val (.int ((own_max (1 : Int32) (p1 &&& (2147483647 : Int32))) - (p3 &&& (3 : Int32)))), .val (.ref b5), .unset] [(.int ((own_max (1 : Int32) (p1 &&& (2147483647 : Int32))) - (1 : Int32))), (.int ((own_max (1 : Int32) (p1 &&& (2147483647 : Int32))) - (p3 &&& (3 : Int32))))])) _
        refine XS.icmpNo X6.here hx rfl (hb hby at_59) rfl (flt hc59_8).2.2.1 ?_
        show Steps p.tables e below (T6.setTop (mkF m 62 #[.val (.int p1), .val (.int p2), .val (.int p3), .val (.int p4), .val (.int (own_max (1 : Int32) (p1 &&& (2147483647 : Int32)))), .val (.int (own_max (1 : Int32) (p2 &&& (2147483647 : Int32)))), .val (.int ((own_max (1 : Int32) (p1 &&& (2147483647 : Int32))) - (p3 &&& (3 : Int32)))), .val (.ref b5), .unset] [])) _
        refine XT.iconstV X6.here hx rfl (1 : Int32) (hb hby at_62) (by decide) ?_
        show Steps p.tables e below (T6.setTop (mkF m 63 #[.val (.int p1), .val (.int p2), .val (.int p3), .val (.int p4), .val (.int (own_max (1 : Int32) (p1 &&& (2147483647 : Int32)))), .val (.int (own_max (1 : Int32) (p2 &&& (2147483647 : Int32)))), .val (.int ((own_max (1 : Int32) (p1 &&& (2147483647 : Int32))) - (p3 &&& (3 : Int32)))), .val (.ref b5), .unset] [(.int (1 : Int32))])) _
        refine XS.goto X6.here hx rfl (pc0 := 63) (pc' := 67) rfl (hb hby at_63) (by decide) (by decide) ?_
        show Steps p.tables e below (T6.setTop (mkF m 67 #[.val (.int p1), .val (.int p2), .val (.int p3), .val (.int p4), .val (.int (own_max (1 : Int32) (p1 &&& (2147483647 : Int32)))), .val (.int (own_max (1 : Int32) (p2 &&& (2147483647 : Int32)))), .val (.int ((own_max (1 : Int32) (p1 &&& (2147483647 : Int32))) - (p3 &&& (3 : Int32)))), .val (.ref b5), .unset] [(.int (1 : Int32))])) _
        refine XS.istore X6.here hx rfl (hb hby at_67) rfl (l' := #[.val (.int p1), .val (.int p2), .val (.int p3), .val (.int p4), .val (.int (own_max (1 : Int32) (p1 &&& (2147483647 : Int32)))), .val (.int (own_max (1 : Int32) (p2 &&& (2147483647 : Int32)))), .val (.int ((own_max (1 : Int32) (p1 &&& (2147483647 : Int32))) - (p3 &&& (3 : Int32)))), .val (.ref b5), .val (.int (1 : Int32))]) rfl ?_
        show Steps p.tables e below (T6.setTop (mkF m 69 #[.val (.int p1), .val (.int p2), .val (.int p3), .val (.int p4), .val (.int (own_max (1 : Int32) (p1 &&& (2147483647 : Int32)))), .val (.int (own_max (1 : Int32) (p2 &&& (2147483647 : Int32)))), .val (.int ((own_max (1 : Int32) (p1 &&& (2147483647 : Int32))) - (p3 &&& (3 : Int32)))), .val (.ref b5), .val (.int (1 : Int32))] [])) _
        refine XS.aload X6.here hx rfl (hb hby at_69) rfl rfl ?_
        show Steps p.tables e below (T6.setTop (mkF m 71 #[.val (.int p1), .val (.int p2), .val (.int p3), .val (.int p4), .val (.int (own_max (1 : Int32) (p1 &&& (2147483647 : Int32)))), .val (.int (own_max (1 : Int32) (p2 &&& (2147483647 : Int32)))), .val (.int ((own_max (1 : Int32) (p1 &&& (2147483647 : Int32))) - (p3 &&& (3 : Int32)))), .val (.ref b5), .val (.int (1 : Int32))] [(.ref b5)])) _
        refine XS.iload X6.here hx rfl (hb hby at_71) rfl ?_
        show Steps p.tables e below (T6.setTop (mkF m 73 #[.val (.int p1), .val (.int p2), .val (.int p3), .val (.int p4), .val (.int (own_max (1 : Int32) (p1 &&& (2147483647 : Int32)))), .val (.int (own_max (1 : Int32) (p2 &&& (2147483647 : Int32)))), .val (.int ((own_max (1 : Int32) (p1 &&& (2147483647 : Int32))) - (p3 &&& (3 : Int32)))), .val (.ref b5), .val (.int (1 : Int32))] [(.int ((own_max (1 : Int32) (p1 &&& (2147483647 : Int32))) - (p3 &&& (3 : Int32)))), (.ref b5)])) _
        refine st11.trans ?_
        show Steps p.tables e below (T11.setTop (mkF m 76 #[.val (.int p1), .val (.int p2), .val (.int p3), .val (.int p4), .val (.int (own_max (1 : Int32) (p1 &&& (2147483647 : Int32)))), .val (.int (own_max (1 : Int32) (p2 &&& (2147483647 : Int32)))), .val (.int ((own_max (1 : Int32) (p1 &&& (2147483647 : Int32))) - (p3 &&& (3 : Int32)))), .val (.ref b5), .val (.int (1 : Int32))] [(.int (own_waits ((own_max (1 : Int32) (p1 &&& (2147483647 : Int32))) - (p3 &&& (3 : Int32))) (own_max (1 : Int32) (p1 &&& (2147483647 : Int32)))))])) _
        refine castTop (g' := (mkF m 76 #[.val (.int p1), .val (.int p2), .val (.int p3), .val (.int p4), .val (.int (own_max (1 : Int32) (p1 &&& (2147483647 : Int32)))), .val (.int (own_max (1 : Int32) (p2 &&& (2147483647 : Int32)))), .val (.int ((own_max (1 : Int32) (p1 &&& (2147483647 : Int32))) - (p3 &&& (3 : Int32)))), .val (.ref b5), .val (.int (1 : Int32))] [(.int (1 : Int32))])) (by rw [own_w1 (own_max1 p1).1 hc59_8]) ?_
        show Steps p.tables e below (T11.setTop (mkF m 76 #[.val (.int p1), .val (.int p2), .val (.int p3), .val (.int p4), .val (.int (own_max (1 : Int32) (p1 &&& (2147483647 : Int32)))), .val (.int (own_max (1 : Int32) (p2 &&& (2147483647 : Int32)))), .val (.int ((own_max (1 : Int32) (p1 &&& (2147483647 : Int32))) - (p3 &&& (3 : Int32)))), .val (.ref b5), .val (.int (1 : Int32))] [(.int (1 : Int32))])) _
        refine XS.iload X11.here hx rfl (hb hby at_76) rfl ?_
        show Steps p.tables e below (T11.setTop (mkF m 78 #[.val (.int p1), .val (.int p2), .val (.int p3), .val (.int p4), .val (.int (own_max (1 : Int32) (p1 &&& (2147483647 : Int32)))), .val (.int (own_max (1 : Int32) (p2 &&& (2147483647 : Int32)))), .val (.int ((own_max (1 : Int32) (p1 &&& (2147483647 : Int32))) - (p3 &&& (3 : Int32)))), .val (.ref b5), .val (.int (1 : Int32))] [(.int (1 : Int32)), (.int (1 : Int32))])) _
        refine XS.icmpNo X11.here hx rfl (hb hby at_78) rfl (teq (by decide : ((1 : Int32) = (1 : Int32)))).2 ?_
        show Steps p.tables e below (T11.setTop (mkF m 81 #[.val (.int p1), .val (.int p2), .val (.int p3), .val (.int p4), .val (.int (own_max (1 : Int32) (p1 &&& (2147483647 : Int32)))), .val (.int (own_max (1 : Int32) (p2 &&& (2147483647 : Int32)))), .val (.int ((own_max (1 : Int32) (p1 &&& (2147483647 : Int32))) - (p3 &&& (3 : Int32)))), .val (.ref b5), .val (.int (1 : Int32))] [])) _
        refine XT.iconstV X11.here hx rfl (1 : Int32) (hb hby at_81) (by decide) ?_
        show Steps p.tables e below (T11.setTop (mkF m 82 #[.val (.int p1), .val (.int p2), .val (.int p3), .val (.int p4), .val (.int (own_max (1 : Int32) (p1 &&& (2147483647 : Int32)))), .val (.int (own_max (1 : Int32) (p2 &&& (2147483647 : Int32)))), .val (.int ((own_max (1 : Int32) (p1 &&& (2147483647 : Int32))) - (p3 &&& (3 : Int32)))), .val (.ref b5), .val (.int (1 : Int32))] [(.int (1 : Int32))])) _
        refine XS.goto X11.here hx rfl (pc0 := 82) (pc' := 86) rfl (hb hby at_82) (by decide) (by decide) ?_
        exact k)
      obtain ⟨fs, hr, hrun, hended, hW, hsame⟩ := X11.leave (v := some (.int (1 : Int32))) (fun h => by rw [Bd.returns] at h; cases h)
      refine ⟨_, _, pre12 _ ?_, hrun, hended, _, _, rfl, ?_, ⟨_, rfl⟩, hW, hsame.mono (by decide) (by decide)⟩
      · show Steps p.tables e below (T11.setTop (mkF m 86 #[.val (.int p1), .val (.int p2), .val (.int p3), .val (.int p4), .val (.int (own_max (1 : Int32) (p1 &&& (2147483647 : Int32)))), .val (.int (own_max (1 : Int32) (p2 &&& (2147483647 : Int32)))), .val (.int ((own_max (1 : Int32) (p1 &&& (2147483647 : Int32))) - (p3 &&& (3 : Int32)))), .val (.ref b5), .val (.int (1 : Int32))] [(.int (1 : Int32))])) _
        exact retOut X11 hx Bd.returns rfl (Or.inl ⟨rfl, by simp, _, rfl⟩) (hb hby at_86) hr
      · show Q0 Z p1 p2 p3 p4  h0 n0 _ T11.heap _
        rw [e11]
        exact ⟨rfl, N11⟩
  · have _ := 0
    have O0 := own_ext_refl h0
    obtain ⟨T13, h13, X13, e13, E13, A13, D13, -, st13⟩ := newO X2 hx hZ hown (hw _ (List.mem_of_getElem? (i := 5) rfl)) (hw _ (List.mem_of_getElem? (i := 6) rfl)) (hw _ (List.mem_of_getElem? (i := 7) rfl)) e2 (g := (mkF m 40 #[.val (.int p1), .val (.int p2), .val (.int p3), .val (.int p4), .val (.int (own_max (1 : Int32) (p1 &&& (2147483647 : Int32)))), .val (.int (own_max (1 : Int32) (p2 &&& (2147483647 : Int32)))), .val (.int p3), .unset, .unset] [])) rfl (hb hby at_40) (by decide) (by decide)
    obtain ⟨b13, g13⟩ : ∃ z, z = h0.size := ⟨_, rfl⟩
    rw [← g13] at A13 D13 st13
    have z_b13 : h0.size ≤ b13 := Nat.le_trans O0.1 (Nat.le_of_eq g13.symm)
    have g_b13 : n0 ≤ b13 := Nat.le_trans Z0 z_b13
    have O13 := own_ext_trans O0 E13
    have F13_b13_maxRuns : Fld Z h13 b13 "com/example/steadyhand/steadyhand/run/RerunPolicy" "maxRuns" "I" (.int (0 : Int32)) := D13 (Or.inr (hw _ (List.mem_of_getElem? (i := 15) rfl))) (ty := .int) (by decide)
    have F13_b13_minPasses : Fld Z h13 b13 "com/example/steadyhand/steadyhand/run/RerunPolicy" "minPasses" "I" (.int (0 : Int32)) := D13 (Or.inr (hw _ (List.mem_of_getElem? (i := 17) rfl))) (ty := .int) (by decide)
    obtain ⟨_, _, ⟨T14, L14, k14, n14⟩, -, X14, ⟨Lc14, hQ14, l14, y14, z14⟩, st14⟩ := X13.specialBack hx (y := (⟨"com/example/steadyhand/steadyhand/run/RerunPolicy", "<init>", "(II)V"⟩ : MethodName)) rfl hown (mvT hZ (hw _ (List.mem_of_getElem? (i := 8) rfl))) (mvT hZ (hw _ (List.mem_of_getElem? (i := 9) rfl))) (mvT hZ (hw _ (List.mem_of_getElem? (i := 10) rfl))) (by decide) (backOf (W := 1) (rm_init l Z a0 hw [] b13 (own_max (1 : Int32) (p1 &&& (2147483647 : Int32))) (own_max (1 : Int32) (p2 &&& (2147483647 : Int32))) h13 n0 (Nat.le_trans Z0 O13.1) A13 F13_b13_maxRuns F13_b13_minPasses g_b13 (own_max1 p1).2 (own_max1 p2).2) hZ (hw _ (List.mem_of_getElem? (i := 10) rfl)) (hw _ (List.mem_of_getElem? (i := 7) rfl)) (by decide) (by decide)) (g := (mkF m 48 #[.val (.int p1), .val (.int p2), .val (.int p3), .val (.int p4), .val (.int (own_max (1 : Int32) (p1 &&& (2147483647 : Int32)))), .val (.int (own_max (1 : Int32) (p2 &&& (2147483647 : Int32)))), .val (.int p3), .unset, .unset] [(.int (own_max (1 : Int32) (p2 &&& (2147483647 : Int32)))), (.int (own_max (1 : Int32) (p1 &&& (2147483647 : Int32)))), (.ref b13), (.ref b13)])) rfl (by rw [hml]; rfl) (Steps.refl _) (a := b13) (argsL := [(.int (own_max (1 : Int32) (p1 &&& (2147483647 : Int32)))), (.int (own_max (1 : Int32) (p2 &&& (2147483647 : Int32))))]) (rest := [(.ref b13)]) (lenOf pd_1 rfl) rfl (by show 2 * 0 + _ ≤ _; exact Nat.le_of_eq rfl) (hb hby at_48) (fun _ _ => ⟨rfl, e13, (by decide : 1 + 0 ≤ _), (by decide : 2 + 0 ≤ _)⟩)
    dsimp only [Pt.U, Pt.locs, Pt.cells, Pt.slots] at X14 l14 y14 z14 st14 hQ14
    subst l14 y14 z14
    obtain ⟨rfl, N14q, K14c, E14c, F14c⟩ := hQ14
    have N14 := Fr.app N2 N14q
    have E14_b13 := A13.keep K14c
    have O14 := own_ext_keep O13 K14c (allS z_b13 all0)
    have pre15 : ∀ t, Steps p.tables e below (T14.setTop (mkF m 59 #[.val (.int p1), .val (.int p2), .val (.int p3), .val (.int p4), .val (.int (own_max (1 : Int32) (p1 &&& (2147483647 : Int32)))), .val (.int (own_max (1 : Int32) (p2 &&& (2147483647 : Int32)))), .val (.int p3), .val (.ref b13), .unset] [(.int ((own_max (1 : Int32) (p1 &&& (2147483647 : Int32))) - (1 : Int32))), (.int p3)])) t → Steps p.tables e below (s₁.setTop (entryFrame m #[(.int p1), (.int p2), (.int p3), (.int p4)] maxLocals)) t := fun t k => pre3 t (by
      show Steps p.tables e below (T2.setTop (mkF m 23 #[.val (.int p1), .val (.int p2), .val (.int p3), .val (.int p4), .val (.int (own_max (1 : Int32) (p1 &&& (2147483647 : Int32)))), .val (.int (own_max (1 : Int32) (p2 &&& (2147483647 : Int32)))), .unset, .unset, .unset] [(.int (p4 &&& (1 : Int32)))])) _
      refine XS.ifNo X2.here hx rfl (hb hby at_23) rfl ((if0 _ _).trans (feq hc23_4).1) ?_
      show Steps p.tables e below (T2.setTop (mkF m 26 #[.val (.int p1), .val (.int p2), .val (.int p3), .val (.int p4), .val (.int (own_max (1 : Int32) (p1 &&& (2147483647 : Int32)))), .val (.int (own_max (1 : Int32) (p2 &&& (2147483647 : Int32)))), .unset, .unset, .unset] [])) _
      refine XS.iloadN X2.here hx rfl (hb hby at_26) rfl ?_
      show Steps p.tables e below (T2.setTop (mkF m 27 #[.val (.int p1), .val (.int p2), .val (.int p3), .val (.int p4), .val (.int (own_max (1 : Int32) (p1 &&& (2147483647 : Int32)))), .val (.int (own_max (1 : Int32) (p2 &&& (2147483647 : Int32)))), .unset, .unset, .unset] [(.int p3)])) _
      refine XS.istore X2.here hx rfl (hb hby at_27) rfl (l' := #[.val (.int p1), .val (.int p2), .val (.int p3), .val (.int p4), .val (.int (own_max (1 : Int32) (p1 &&& (2147483647 : Int32)))), .val (.int (own_max (1 : Int32) (p2 &&& (2147483647 : Int32)))), .val (.int p3), .unset, .unset]) rfl ?_
      show Steps p.tables e below (T2.setTop (mkF m 29 #[.val (.int p1), .val (.int p2), .val (.int p3), .val (.int p4), .val (.int (own_max (1 : Int32) (p1 &&& (2147483647 : Int32)))), .val (.int (own_max (1 : Int32) (p2 &&& (2147483647 : Int32)))), .val (.int p3), .unset, .unset] [])) _
      refine XS.goto X2.here hx rfl (pc0 := 29) (pc' := 40) rfl (hb hby at_29) (by decide) (by decide) ?_
      show Steps p.tables e below (T2.setTop (mkF m 40 #[.val (.int p1), .val (.int p2), .val (.int p3), .val (.int p4), .val (.int (own_max (1 : Int32) (p1 &&& (2147483647 : Int32)))), .val (.int (own_max (1 : Int32) (p2 &&& (2147483647 : Int32)))), .val (.int p3), .unset, .unset] [])) _
      refine st13 _ ?_
      show Steps p.tables e below (T13.setTop (mkF m 43 #[.val (.int p1), .val (.int p2), .val (.int p3), .val (.int p4), .val (.int (own_max (1 : Int32) (p1 &&& (2147483647 : Int32)))), .val (.int (own_max (1 : Int32) (p2 &&& (2147483647 : Int32)))), .val (.int p3), .unset, .unset] [(.ref b13)])) _
      refine XS.dup X13.here hx rfl (hb hby at_43) rfl rfl ?_
      show Steps p.tables e below (T13.setTop (mkF m 44 #[.val (.int p1), .val (.int p2), .val (.int p3), .val (.int p4), .val (.int (own_max (1 : Int32) (p1 &&& (2147483647 : Int32)))), .val (.int (own_max (1 : Int32) (p2 &&& (2147483647 : Int32)))), .val (.int p3), .unset, .unset] [(.ref b13), (.ref b13)])) _
      refine XS.iload X13.here hx rfl (hb hby at_44) rfl ?_
      show Steps p.tables e below (T13.setTop (mkF m 46 #[.val (.int p1), .val (.int p2), .val (.int p3), .val (.int p4), .val (.int (own_max (1 : Int32) (p1 &&& (2147483647 : Int32)))), .val (.int (own_max (1 : Int32) (p2 &&& (2147483647 : Int32)))), .val (.int p3), .unset, .unset] [(.int (own_max (1 : Int32) (p1 &&& (2147483647 : Int32)))), (.ref b13), (.ref b13)])) _
      refine XS.iload X13.here hx rfl (hb hby at_46) rfl ?_
      show Steps p.tables e below (T13.setTop (mkF m 48 #[.val (.int p1), .val (.int p2), .val (.int p3), .val (.int p4), .val (.int (own_max (1 : Int32) (p1 &&& (2147483647 : Int32)))), .val (.int (own_max (1 : Int32) (p2 &&& (2147483647 : Int32)))), .val (.int p3), .unset, .unset] [(.int (own_max (1 : Int32) (p2 &&& (2147483647 : Int32)))), (.int (own_max (1 : Int32) (p1 &&& (2147483647 : Int32)))), (.ref b13), (.ref b13)])) _
      refine st14.trans ?_
      show Steps p.tables e below (T14.setTop (mkF m 51 #[.val (.int p1), .val (.int p2), .val (.int p3), .val (.int p4), .val (.int (own_max (1 : Int32) (p1 &&& (2147483647 : Int32)))), .val (.int (own_max (1 : Int32) (p2 &&& (2147483647 : Int32)))), .val (.int p3), .unset, .unset] [(.ref b13)])) _
      refine XS.astore X14.here hx rfl (hb hby at_51) rfl rfl (l' := #[.val (.int p1), .val (.int p2), .val (.int p3), .val (.int p4), .val (.int (own_max (1 : Int32) (p1 &&& (2147483647 : Int32)))), .val (.int (own_max (1 : Int32) (p2 &&& (2147483647 : Int32)))), .val (.int p3), .val (.ref b13), .unset]) rfl ?_
      show Steps p.tables e below (T14.setTop (mkF m 53 #[.val (.int p1), .val (.int p2), .val (.int p3), .val (.int p4), .val (.int (own_max (1 : Int32) (p1 &&& (2147483647 : Int32)))), .val (.int (own_max (1 : Int32) (p2 &&& (2147483647 : Int32)))), .val (.int p3), .val (.ref b13), .unset] [])) _
      refine XS.iload X14.here hx rfl (hb hby at_53) rfl ?_
      show Steps p.tables e below (T14.setTop (mkF m 55 #[.val (.int p1), .val (.int p2), .val (.int p3), .val (.int p4), .val (.int (own_max (1 : Int32) (p1 &&& (2147483647 : Int32)))), .val (.int (own_max (1 : Int32) (p2 &&& (2147483647 : Int32)))), .val (.int p3), .val (.ref b13), .unset] [(.int p3)])) _
      refine XS.iload X14.here hx rfl (hb hby at_55) rfl ?_
      show Steps p.tables e below (T14.setTop (mkF m 57 #[.val (.int p1), .val (.int p2), .val (.int p3), .val (.int p4), .val (.int (own_max (1 : Int32) (p1 &&& (2147483647 : Int32)))), .val (.int (own_max (1 : Int32) (p2 &&& (2147483647 : Int32)))), .val (.int p3), .val (.ref b13), .unset] [(.int (own_max (1 : Int32) (p1 &&& (2147483647 : Int32)))), (.int p3)])) _
      refine XT.iconstV X14.here hx rfl (1 : Int32) (hb hby at_57) (by decide) ?_
      show Steps p.tables e below (T14.setTop (mkF m 58 #[.val (.int p1), .val (.int p2), .val (.int p3), .val (.int p4), .val (.int (own_max (1 : Int32) (p1 &&& (2147483647 : Int32)))), .val (.int (own_max (1 : Int32) (p2 &&& (2147483647 : Int32)))), .val (.int p3), .val (.ref b13), .unset] [(.int (1 : Int32)), (.int (own_max (1 : Int32) (p1 &&& (2147483647 : Int32)))), (.int p3)])) _
      refine XS.isub X14.here hx rfl (hb hby at_58) rfl ?_
      exact k)
    by_cases hc59_16 : ((own_max (1 : Int32) (p1 &&& (2147483647 : Int32))) - (1 : Int32)) < p3
    · have _ := 0
      obtain ⟨cq17, kq17, q17a, q17b, q17c⟩ := isOf hZ rfl E14c
      obtain ⟨_, _, ⟨T17, L17, k17, n17⟩, -, X17, ⟨Lc17, hQ17, l17, y17, z17⟩, st17⟩ := X14.virtualBack hx (y := (⟨"com/example/steadyhand/steadyhand/run/RerunPolicy", "waitsOnContainer", "(I)Z"⟩ : MethodName)) (z := (⟨"com/example/steadyhand/steadyhand/run/RerunPolicy", "waitsOnContainer", "(I)Z"⟩ : MethodName)) hown (mvT hZ (hw _ (List.mem_of_getElem? (i := 18) rfl))) (mvT hZ (hw _ (List.mem_of_getElem? (i := 19) rfl))) (notFace_of_selects (args := #[]) (mvT hZ (hw _ (List.mem_of_getElem? (i := 21) rfl)))) (mvT hZ (hw _ (List.mem_of_getElem? (i := 21) rfl))) (mvT hZ (hw _ (List.mem_of_getElem? (i := 20) rfl))) (by decide) (backOf (W := 0) (rm_w l Z a0 hw [] b13 p3 T14.heap n0 (Nat.le_trans Z0 O14.1) (own_max (1 : Int32) (p1 &&& (2147483647 : Int32))) F14c) hZ (hw _ (List.mem_of_getElem? (i := 22) rfl)) (hw _ (List.mem_of_getElem? (i := 7) rfl)) (by decide) (by decide)) q17a q17c (g := (mkF m 73 #[.val (.int p1), .val (.int p2), .val (.int p3), .val (.int p4), .val (.int (own_max (1 : Int32) (p1 &&& (2147483647 : Int32)))), .val (.int (own_max (1 : Int32) (p2 &&& (2147483647 : Int32)))), .val (.int p3), .val (.ref b13), .val (.int (0 : Int32))] [(.int p3), (.ref b13)])) rfl (by rw [hml]; rfl) (Steps.refl _) (argsL := [(.int p3)]) (rest := []) (lenOf pd_2 rfl) rfl (by show 2 * 0 + _ ≤ _; exact Nat.le_of_eq rfl) (hb hby at_73) (fun _ _ => ⟨rfl, rfl, (by decide : 1 + 0 ≤ _), (by decide : 2 + 0 ≤ _)⟩)
      dsimp only [Pt.U, Pt.locs, Pt.cells, Pt.slots] at X17 l17 y17 z17 st17 hQ17
      subst l17 y17 z17
      obtain ⟨rfl, N17q, e17⟩ := hQ17
      have N17 := Fr.app N14 N17q
      have pre18 : ∀ t, Steps p.tables e below (T17.setTop (mkF m 86 #[.val (.int p1), .val (.int p2), .val (.int p3), .val (.int p4), .val (.int (own_max (1 : Int32) (p1 &&& (2147483647 : Int32)))), .val (.int (own_max (1 : Int32) (p2 &&& (2147483647 : Int32)))), .val (.int p3), .val (.ref b13), .val (.int (0 : Int32))] [(.int (1 : Int32))])) t → Steps p.tables e below (s₁.setTop (entryFrame m #[(.int p1), (.int p2), (.int p3), (.int p4)] maxLocals)) t := fun t k => pre15 t (by
        show Steps p.tables e below (T14.setTop (mkF m 59 #[.val (.int p1), .val (.int p2), .val (.int p3), .val (.int p4), .val (.int (own_max (1 : Int32) (p1 &&& (2147483647 : Int32)))), .val (.int (own_max (1 : Int32) (p2 &&& (2147483647 : Int32)))), .val (.int p3), .val (.ref b13), .unset] [(.int ((own_max (1 : Int32) (p1 &&& (2147483647 : Int32))) - (1 : Int32))), (.int p3)])) _
        refine XS.icmpYes X14.here hx rfl (pc0 := 59) (pc' := 66) rfl (hb hby at_59) rfl (tlt hc59_16).2.2.1 (by decide) (by decide) ?_
        show Steps p.tables e below (T14.setTop (mkF m 66 #[.val (.int p1), .val (.int p2), .val (.int p3), .val (.int p4), .val (.int (own_max (1 : Int32) (p1 &&& (2147483647 : Int32)))), .val (.int (own_max (1 : Int32) (p2 &&& (2147483647 : Int32)))), .val (.int p3), .val (.ref b13), .unset] [])) _
        refine XT.iconstV X14.here hx rfl (0 : Int32) (hb hby at_66) (by decide) ?_
        show Steps p.tables e below (T14.setTop (mkF m 67 #[.val (.int p1), .val (.int p2), .val (.int p3), .val (.int p4), .val (.int (own_max (1 : Int32) (p1 &&& (2147483647 : Int32)))), .val (.int (own_max (1 : Int32) (p2 &&& (2147483647 : Int32)))), .val (.int p3), .val (.ref b13), .unset] [(.int (0 : Int32))])) _
        refine XS.istore X14.here hx rfl (hb hby at_67) rfl (l' := #[.val (.int p1), .val (.int p2), .val (.int p3), .val (.int p4), .val (.int (own_max (1 : Int32) (p1 &&& (2147483647 : Int32)))), .val (.int (own_max (1 : Int32) (p2 &&& (2147483647 : Int32)))), .val (.int p3), .val (.ref b13), .val (.int (0 : Int32))]) rfl ?_
        show Steps p.tables e below (T14.setTop (mkF m 69 #[.val (.int p1), .val (.int p2), .val (.int p3), .val (.int p4), .val (.int (own_max (1 : Int32) (p1 &&& (2147483647 : Int32)))), .val (.int (own_max (1 : Int32) (p2 &&& (2147483647 : Int32)))), .val (.int p3), .val (.ref b13), .val (.int (0 : Int32))] [])) _
        refine XS.aload X14.here hx rfl (hb hby at_69) rfl rfl ?_
        show Steps p.tables e below (T14.setTop (mkF m 71 #[.val (.int p1), .val (.int p2), .val (.int p3), .val (.int p4), .val (.int (own_max (1 : Int32) (p1 &&& (2147483647 : Int32)))), .val (.int (own_max (1 : Int32) (p2 &&& (2147483647 : Int32)))), .val (.int p3), .val (.ref b13), .val (.int (0 : Int32))] [(.ref b13)])) _
        refine XS.iload X14.here hx rfl (hb hby at_71) rfl ?_
        show Steps p.tables e below (T14.setTop (mkF m 73 #[.val (.int p1), .val (.int p2), .val (.int p3), .val (.int p4), .val (.int (own_max (1 : Int32) (p1 &&& (2147483647 : Int32)))), .val (.int (own_max (1 : Int32) (p2 &&& (2147483647 : Int32)))), .val (.int p3), .val (.ref b13), .val (.int (0 : Int32))] [(.int p3), (.ref b13)])) _
        refine st17.trans ?_
        show Steps p.tables e below (T17.setTop (mkF m 76 #[.val (.int p1), .val (.int p2), .val (.int p3), .val (.int p4), .val (.int (own_max (1 : Int32) (p1 &&& (2147483647 : Int32)))), .val (.int (own_max (1 : Int32) (p2 &&& (2147483647 : Int32)))), .val (.int p3), .val (.ref b13), .val (.int (0 : Int32))] [(.int (own_waits p3 (own_max (1 : Int32) (p1 &&& (2147483647 : Int32)))))])) _
        refine castTop (g' := (mkF m 76 #[.val (.int p1), .val (.int p2), .val (.int p3), .val (.int p4), .val (.int (own_max (1 : Int32) (p1 &&& (2147483647 : Int32)))), .val (.int (own_max (1 : Int32) (p2 &&& (2147483647 : Int32)))), .val (.int p3), .val (.ref b13), .val (.int (0 : Int32))] [(.int (0 : Int32))])) (by rw [own_w0 (own_max1 p1).1 hc59_16]) ?_
        show Steps p.tables e below (T17.setTop (mkF m 76 #[.val (.int p1), .val (.int p2), .val (.int p3), .val (.int p4), .val (.int (own_max (1 : Int32) (p1 &&& (2147483647 : Int32)))), .val (.int (own_max (1 : Int32) (p2 &&& (2147483647 : Int32)))), .val (.int p3), .val (.ref b13), .val (.int (0 : Int32))] [(.int (0 : Int32))])) _
        refine XS.iload X17.here hx rfl (hb hby at_76) rfl ?_
        show Steps p.tables e below (T17.setTop (mkF m 78 #[.val (.int p1), .val (.int p2), .val (.int p3), .val (.int p4), .val (.int (own_max (1 : Int32) (p1 &&& (2147483647 : Int32)))), .val (.int (own_max (1 : Int32) (p2 &&& (2147483647 : Int32)))), .val (.int p3), .val (.ref b13), .val (.int (0 : Int32))] [(.int (0 : Int32)), (.int (0 : Int32))])) _
        refine XS.icmpNo X17.here hx rfl (hb hby at_78) rfl (teq (by decide : ((0 : Int32) = (0 : Int32)))).2 ?_
        show Steps p.tables e below (T17.setTop (mkF m 81 #[.val (.int p1), .val (.int p2), .val (.int p3), .val (.int p4), .val (.int (own_max (1 : Int32) (p1 &&& (2147483647 : Int32)))), .val (.int (own_max (1 : Int32) (p2 &&& (2147483647 : Int32)))), .val (.int p3), .val (.ref b13), .val (.int (0 : Int32))] [])) _
        refine XT.iconstV X17.here hx rfl (1 : Int32) (hb hby at_81) (by decide) ?_
        show Steps p.tables e below (T17.setTop (mkF m 82 #[.val (.int p1), .val (.int p2), .val (.int p3), .val (.int p4), .val (.int (own_max (1 : Int32) (p1 &&& (2147483647 : Int32)))), .val (.int (own_max (1 : Int32) (p2 &&& (2147483647 : Int32)))), .val (.int p3), .val (.ref b13), .val (.int (0 : Int32))] [(.int (1 : Int32))])) _
        refine XS.goto X17.here hx rfl (pc0 := 82) (pc' := 86) rfl (hb hby at_82) (by decide) (by decide) ?_
        exact k)
      obtain ⟨fs, hr, hrun, hended, hW, hsame⟩ := X17.leave (v := some (.int (1 : Int32))) (fun h => by rw [Bd.returns] at h; cases h)
      refine ⟨_, _, pre18 _ ?_, hrun, hended, _, _, rfl, ?_, ⟨_, rfl⟩, hW, hsame.mono (by decide) (by decide)⟩
      · show Steps p.tables e below (T17.setTop (mkF m 86 #[.val (.int p1), .val (.int p2), .val (.int p3), .val (.int p4), .val (.int (own_max (1 : Int32) (p1 &&& (2147483647 : Int32)))), .val (.int (own_max (1 : Int32) (p2 &&& (2147483647 : Int32)))), .val (.int p3), .val (.ref b13), .val (.int (0 : Int32))] [(.int (1 : Int32))])) _
        exact retOut X17 hx Bd.returns rfl (Or.inl ⟨rfl, by simp, _, rfl⟩) (hb hby at_86) hr
      · show Q0 Z p1 p2 p3 p4  h0 n0 _ T17.heap _
        rw [e17]
        exact ⟨rfl, N17⟩
    · have _ := 0
      obtain ⟨cq19, kq19, q19a, q19b, q19c⟩ := isOf hZ rfl E14c
      obtain ⟨_, _, ⟨T19, L19, k19, n19⟩, -, X19, ⟨Lc19, hQ19, l19, y19, z19⟩, st19⟩ := X14.virtualBack hx (y := (⟨"com/example/steadyhand/steadyhand/run/RerunPolicy", "waitsOnContainer", "(I)Z"⟩ : MethodName)) (z := (⟨"com/example/steadyhand/steadyhand/run/RerunPolicy", "waitsOnContainer", "(I)Z"⟩ : MethodName)) hown (mvT hZ (hw _ (List.mem_of_getElem? (i := 18) rfl))) (mvT hZ (hw _ (List.mem_of_getElem? (i := 19) rfl))) (notFace_of_selects (args := #[]) (mvT hZ (hw _ (List.mem_of_getElem? (i := 21) rfl)))) (mvT hZ (hw _ (List.mem_of_getElem? (i := 21) rfl))) (mvT hZ (hw _ (List.mem_of_getElem? (i := 20) rfl))) (by decide) (backOf (W := 0) (rm_w l Z a0 hw [] b13 p3 T14.heap n0 (Nat.le_trans Z0 O14.1) (own_max (1 : Int32) (p1 &&& (2147483647 : Int32))) F14c) hZ (hw _ (List.mem_of_getElem? (i := 22) rfl)) (hw _ (List.mem_of_getElem? (i := 7) rfl)) (by decide) (by decide)) q19a q19c (g := (mkF m 73 #[.val (.int p1), .val (.int p2), .val (.int p3), .val (.int p4), .val (.int (own_max (1 : Int32) (p1 &&& (2147483647 : Int32)))), .val (.int (own_max (1 : Int32) (p2 &&& (2147483647 : Int32)))), .val (.int p3), .val (.ref b13), .val (.int (1 : Int32))] [(.int p3), (.ref b13)])) rfl (by rw [hml]; rfl) (Steps.refl _) (argsL := [(.int p3)]) (rest := []) (lenOf pd_2 rfl) rfl (by show 2 * 0 + _ ≤ _; exact Nat.le_of_eq rfl) (hb hby at_73) (fun _ _ => ⟨rfl, rfl, (by decide : 1 + 0 ≤ _), (by decide : 2 + 0 ≤ _)⟩)
      dsimp only [Pt.U, Pt.locs, Pt.cells, Pt.slots] at X19 l19 y19 z19 st19 hQ19
      subst l19 y19 z19
      obtain ⟨rfl, N19q, e19⟩ := hQ19
      have N19 := Fr.app N14 N19q
      have pre20 : ∀ t, Steps p.tables e below (T19.setTop (mkF m 86 #[.val (.int p1), .val (.int p2), .val (.int p3), .val (.int p4), .val (.int (own_max (1 : Int32) (p1 &&& (2147483647 : Int32)))), .val (.int (own_max (1 : Int32) (p2 &&& (2147483647 : Int32)))), .val (.int p3), .val (.ref b13), .val (.int (1 : Int32))] [(.int (1 : Int32))])) t → Steps p.tables e below (s₁.setTop (entryFrame m #[(.int p1), (.int p2), (.int p3), (.int p4)] maxLocals)) t := fun t k => pre15 t (by
        show Steps p.tables e below (T14.setTop (mkF m 59 #[.val (.int p1), .val (.int p2), .val (.int p3), .val (.int p4), .val (.int (own_max (1 : Int32) (p1 &&& (2147483647 : Int32)))), .val (.int (own_max (1 : Int32) (p2 &&& (2147483647 : Int32)))), .val (.int p3), .val (.ref b13), .unset] [(.int ((own_max (1 : Int32) (p1 &&& (2147483647 : Int32))) - (1 : Int32))), (.int p3)])) _
        refine XS.icmpNo X14.here hx rfl (hb hby at_59) rfl (flt hc59_16).2.2.1 ?_
        show Steps p.tables e below (T14.setTop (mkF m 62 #[.val (.int p1), .val (.int p2), .val (.int p3), .val (.int p4), .val (.int (own_max (1 : Int32) (p1 &&& (2147483647 : Int32)))), .val (.int (own_max (1 : Int32) (p2 &&& (2147483647 : Int32)))), .val (.int p3), .val (.ref b13), .unset] [])) _
        refine XT.iconstV X14.here hx rfl (1 : Int32) (hb hby at_62) (by decide) ?_
        show Steps p.tables e below (T14.setTop (mkF m 63 #[.val (.int p1), .val (.int p2), .val (.int p3), .val (.int p4), .val (.int (own_max (1 : Int32) (p1 &&& (2147483647 : Int32)))), .val (.int (own_max (1 : Int32) (p2 &&& (2147483647 : Int32)))), .val (.int p3), .val (.ref b13), .unset] [(.int (1 : Int32))])) _
        refine XS.goto X14.here hx rfl (pc0 := 63) (pc' := 67) rfl (hb hby at_63) (by decide) (by decide) ?_
        show Steps p.tables e below (T14.setTop (mkF m 67 #[.val (.int p1), .val (.int p2), .val (.int p3), .val (.int p4), .val (.int (own_max (1 : Int32) (p1 &&& (2147483647 : Int32)))), .val (.int (own_max (1 : Int32) (p2 &&& (2147483647 : Int32)))), .val (.int p3), .val (.ref b13), .unset] [(.int (1 : Int32))])) _
        refine XS.istore X14.here hx rfl (hb hby at_67) rfl (l' := #[.val (.int p1), .val (.int p2), .val (.int p3), .val (.int p4), .val (.int (own_max (1 : Int32) (p1 &&& (2147483647 : Int32)))), .val (.int (own_max (1 : Int32) (p2 &&& (2147483647 : Int32)))), .val (.int p3), .val (.ref b13), .val (.int (1 : Int32))]) rfl ?_
        show Steps p.tables e below (T14.setTop (mkF m 69 #[.val (.int p1), .val (.int p2), .val (.int p3), .val (.int p4), .val (.int (own_max (1 : Int32) (p1 &&& (2147483647 : Int32)))), .val (.int (own_max (1 : Int32) (p2 &&& (2147483647 : Int32)))), .val (.int p3), .val (.ref b13), .val (.int (1 : Int32))] [])) _
        refine XS.aload X14.here hx rfl (hb hby at_69) rfl rfl ?_
        show Steps p.tables e below (T14.setTop (mkF m 71 #[.val (.int p1), .val (.int p2), .val (.int p3), .val (.int p4), .val (.int (own_max (1 : Int32) (p1 &&& (2147483647 : Int32)))), .val (.int (own_max (1 : Int32) (p2 &&& (2147483647 : Int32)))), .val (.int p3), .val (.ref b13), .val (.int (1 : Int32))] [(.ref b13)])) _
        refine XS.iload X14.here hx rfl (hb hby at_71) rfl ?_
        show Steps p.tables e below (T14.setTop (mkF m 73 #[.val (.int p1), .val (.int p2), .val (.int p3), .val (.int p4), .val (.int (own_max (1 : Int32) (p1 &&& (2147483647 : Int32)))), .val (.int (own_max (1 : Int32) (p2 &&& (2147483647 : Int32)))), .val (.int p3), .val (.ref b13), .val (.int (1 : Int32))] [(.int p3), (.ref b13)])) _
        refine st19.trans ?_
        show Steps p.tables e below (T19.setTop (mkF m 76 #[.val (.int p1), .val (.int p2), .val (.int p3), .val (.int p4), .val (.int (own_max (1 : Int32) (p1 &&& (2147483647 : Int32)))), .val (.int (own_max (1 : Int32) (p2 &&& (2147483647 : Int32)))), .val (.int p3), .val (.ref b13), .val (.int (1 : Int32))] [(.int (own_waits p3 (own_max (1 : Int32) (p1 &&& (2147483647 : Int32)))))])) _
        refine castTop (g' := (mkF m 76 #[.val (.int p1), .val (.int p2), .val (.int p3), .val (.int p4), .val (.int (own_max (1 : Int32) (p1 &&& (2147483647 : Int32)))), .val (.int (own_max (1 : Int32) (p2 &&& (2147483647 : Int32)))), .val (.int p3), .val (.ref b13), .val (.int (1 : Int32))] [(.int (1 : Int32))])) (by rw [own_w1 (own_max1 p1).1 hc59_16]) ?_
        show Steps p.tables e below (T19.setTop (mkF m 76 #[.val (.int p1), .val (.int p2), .val (.int p3), .val (.int p4), .val (.int (own_max (1 : Int32) (p1 &&& (2147483647 : Int32)))), .val (.int (own_max (1 : Int32) (p2 &&& (2147483647 : Int32)))), .val (.int p3), .val (.ref b13), .val (.int (1 : Int32))] [(.int (1 : Int32))])) _
        refine XS.iload X19.here hx rfl (hb hby at_76) rfl ?_
        show Steps p.tables e below (T19.setTop (mkF m 78 #[.val (.int p1), .val (.int p2), .val (.int p3), .val (.int p4), .val (.int (own_max (1 : Int32) (p1 &&& (2147483647 : Int32)))), .val (.int (own_max (1 : Int32) (p2 &&& (2147483647 : Int32)))), .val (.int p3), .val (.ref b13), .val (.int (1 : Int32))] [(.int (1 : Int32)), (.int (1 : Int32))])) _
        refine XS.icmpNo X19.here hx rfl (hb hby at_78) rfl (teq (by decide : ((1 : Int32) = (1 : Int32)))).2 ?_
        show Steps p.tables e below (T19.setTop (mkF m 81 #[.val (.int p1), .val (.int p2), .val (.int p3), .val (.int p4), .val (.int (own_max (1 : Int32) (p1 &&& (2147483647 : Int32)))), .val (.int (own_max (1 : Int32) (p2 &&& (2147483647 : Int32)))), .val (.int p3), .val (.ref b13), .val (.int (1 : Int32))] [])) _
        refine XT.iconstV X19.here hx rfl (1 : Int32) (hb hby at_81) (by decide) ?_
        show Steps p.tables e below (T19.setTop (mkF m 82 #[.val (.int p1), .val (.int p2), .val (.int p3), .val (.int p4), .val (.int (own_max (1 : Int32) (p1 &&& (2147483647 : Int32)))), .val (.int (own_max (1 : Int32) (p2 &&& (2147483647 : Int32)))), .val (.int p3), .val (.ref b13), .val (.int (1 : Int32))] [(.int (1 : Int32))])) _
        refine XS.goto X19.here hx rfl (pc0 := 82) (pc' := 86) rfl (hb hby at_82) (by decide) (by decide) ?_
        exact k)
      obtain ⟨fs, hr, hrun, hended, hW, hsame⟩ := X19.leave (v := some (.int (1 : Int32))) (fun h => by rw [Bd.returns] at h; cases h)
      refine ⟨_, _, pre20 _ ?_, hrun, hended, _, _, rfl, ?_, ⟨_, rfl⟩, hW, hsame.mono (by decide) (by decide)⟩
      · show Steps p.tables e below (T19.setTop (mkF m 86 #[.val (.int p1), .val (.int p2), .val (.int p3), .val (.int p4), .val (.int (own_max (1 : Int32) (p1 &&& (2147483647 : Int32)))), .val (.int (own_max (1 : Int32) (p2 &&& (2147483647 : Int32)))), .val (.int p3), .val (.ref b13), .val (.int (1 : Int32))] [(.int (1 : Int32))])) _
        exact retOut X19 hx Bd.returns rfl (Or.inl ⟨rfl, by simp, _, rfl⟩) (hb hby at_86) hr
      · show Q0 Z p1 p2 p3 p4  h0 n0 _ T19.heap _
        rw [e19]
        exact ⟨rfl, N19⟩
set_option maxRecDepth 65536 in
set_option maxHeartbeats 40000000 in
theorem comes_1 {Post : Tables → Env → Array Value → State → Outcome → State → Prop} (hpost : ∀ tb e args s v u, (limb_1_1.after args s (.returned v) u = true ∧ limb_1_2.after args s (.returned v) u = true ∧ True) → FrameEnd s (.returned v) u (Jvm.fieldLocs frame_1_writes args s ++ Jvm.arrayLocs frame_1_arrays args s ++ Jvm.staticLocs frame_1_statics s) 16 128 → Post tb e args s (.returned v) u) :
    ArmFor flags0 classFile x code maxLocals ret World_1 tables_1 room_1 Calls_1 rest_1 Pre_1 Post := by
  intro l hfl _ _ p e ha hc hk s m args below hf hA hF happ hP
  obtain ⟨hcalls, hrest, hpre⟩ := hP
  obtain ⟨-, -, -, hnamed, -, -, -, hat⟩ := (Spec.applies_iff hf).mp happ
  obtain ⟨hg, hn⟩ := and_e (Cond.before_iff.mp (show (Jvm.Cond.and given_1 narrow_1).before args s = true from hpre))
  obtain ⟨gc, gr0⟩ := and_e hg
  obtain ⟨ga0, gr1⟩ := and_e gr0
  obtain ⟨ga1, gr2⟩ := and_e gr1
  obtain ⟨ga2, gr3⟩ := and_e gr2
  obtain ⟨w0, w1, w2, w3, rfl⟩ : ∃ w0 w1 w2 w3 : Value, args = #[w0, w1, w2, w3] := by
    have hs : args.size = 4 := by simpa [Cond.value, given_1] using gc
    obtain ⟨L⟩ := args
    match L, hs with
    | [w0, w1, w2, w3], _ => exact ⟨w0, w1, w2, w3, rfl⟩
  have hw := fun d (hd : d ∈ tables_1) => atoms_spec (ws := Jvm.Cond.code x code maxLocals ret :: tables_1) hat d (List.mem_cons_of_mem _ hd)
  have hfit : Fit s := fun {y c} hc i hi => by
    obtain ⟨ha, rfl⟩ := Array.getElem?_eq_some_iff.mp hc
    have q := List.all_eq_true.mp ((Array.all_eq_true_iff_forall_mem.mp hF) _ (Array.getElem_mem ha)) i (List.mem_range.mpr hi)
    simpa [Array.getElem?_eq_getElem hi] using q
  obtain ⟨i0, ei0⟩ := is_v ga0
  obtain rfl : w0 = (.int i0) := Option.some.inj ei0
  obtain ⟨i1, ei1⟩ := is_v ga1
  obtain rfl : w1 = (.int i1) := Option.some.inj ei1
  obtain ⟨i2, ei2⟩ := is_v ga2
  obtain rfl : w2 = (.int i2) := Option.some.inj ei2
  obtain ⟨i3, ei3⟩ := is_v gr3
  obtain rfl : w3 = (.int i3) := Option.some.inj ei3
  obtain ⟨n, o, h1, h2, h3, _, L, rfl, ⟨rfl, N⟩, hq⟩ := rm0 l s _ hw tables_1 i0 i1 i2 i3 s.heap s.heap.size (Nat.le_refl _)  p e ha hc hk s m _ below hf ((Spec.applies_iff_loose hf).mp happ).1 ⟨rfl, State.Warmed39.refl s, rfl⟩ trivial
  exact ⟨n, _, h1, h2, h3, hpost _ _ _ _ _ _ ⟨Cond.after_iff.mpr rfl, Cond.after_iff.mpr (eq_i res_at (Term.int_eval (1)) rfl), trivial⟩ ⟨hq.1, hq.2.1, (hq.2.2.sift fun y hy => Or.inr (N y hy)).mono (by decide) (by decide)⟩⟩
theorem main_1_1 : Claimed_1_1 := comes_1 fun _ _ _ _ _ _ h hF => ⟨h.1, hF⟩
theorem main_1_2 : Claimed_1_2 := comes_1 fun _ _ _ _ _ _ h hF => ⟨h.2.1, hF⟩
end Jvm.Pilot.@@N@@
namespace Jvm.Pilot.@@N@@
open Jvm Jvm.ClassFile Sem Op Lib Jvm.Free Jvm.Stand Jvm.Pilot.@@N@@.Jvm.D
/-! MADE BY PROGRAM (witnessworld.py) out of the Statement's table words and the real class files: 8 classes; the members and pool entries that the words name. The judged class is class 1, her method 1. -/
namespace start1
open Jvm.ClassFile
def u (s : String) : CpInfo := .utf8 (stringToUtf16 s)
/-- a pool by its gaps: so many unusable entries, then the entry; so many at the end -/
def gap : Nat → List CpInfo → List CpInfo
  | 0, r => r
  | n + 1, r => .unusable :: gap n r
def poolList (es : List (Nat × CpInfo)) (last : Nat) : List CpInfo := es.foldr (fun e r => gap e.1 (e.2 :: r)) (gap last [])
def pool (es : List (Nat × CpInfo)) (last : Nat) : Array CpInfo := ⟨poolList es last⟩
def fileOf (pool : Array CpInfo) (this : Nat) (attrs : Array Attribute := #[]) (ms : Array MethodInfo := #[]) (fl : Nat := 33) (sup : Nat := 0) (ifs : Array Nat := #[]) (fds : Array FieldInfo := #[]) : ClassFile where
  minorVersion := 0
  majorVersion := 65
  constantPool := pool
  accessFlags := fl
  thisClass := this
  superClass := sup
  interfaces := ifs
  fields := fds
  methods := ms
  attributes := attrs
def plain (name : String) (sup : Option ClassId) : Class where
  name := name
  kind := .ordinary
  loader := none
  accessFlags := 33
  super := sup
  interfaces := #[]
  cf := none
  fields := #[]
  methods := #[]
  instanceTypes := #[]
  staticTypes := #[]
  resolved := #[]
  callSites := []
  init := .initialized
  statics := none
  mirror := none

def pool0 : Array CpInfo := pool [(5, u "<init>"), (0, u "()V"), (1, .class_ 10), (1, u "java/lang/Object")] 113

def k0c0 : Code := { maxStack := 0, maxLocals := 1, code := object_method_1_code, exceptionTable := #[], attributes := #[] }
def k0m0 : Method := { name := "<init>", desc := "()V", sig := { parameters := [], returnType := none }, accessFlags := 1, code := some k0c0 }
/-- java/lang/Object -/
def k0 : Class := { plain "java/lang/Object" none with
  accessFlags := 33
  interfaces := #[]
  cf := some (fileOf pool0 8 #[] #[{ accessFlags := 1, nameIndex := 5, descriptorIndex := 6, attributes := #[] }] 33 0 #[] #[])
  fields := #[]
  methods := #[k0m0]
  instanceTypes := #[]
  staticTypes := #[]
  resolved := Array.replicate 124 none
  statics := none }

def pool1 : Array CpInfo := pool [(2, .class_ 4), (1, u "java/lang/Object"), (0, u "<init>"), (0, u "()V"), (0, .integer 2147483647), (0, .methodref 9 10), (0, .class_ 11), (0, .nameAndType 12 13), (0, u "java/lang/Math"), (0, u "max"), (0, u "(II)I"), (0, .class_ 15), (0, u "com/example/steadyhand/steadyhand/run/RerunPolicy"), (0, .methodref 14 17), (0, .nameAndType 5 18), (0, u "(II)V"), (0, .methodref 14 20), (0, .nameAndType 21 22), (0, u "waitsOnContainer"), (0, u "(I)Z"), (0, .class_ 24), (0, u "com/example/steadyhand/steadyhand/run/RerunPolicyWaitsOnContainerPinLaw"), (2, u "law"), (0, u "(IIII)Z")] 3

def k1m0 : Method := { name := "<init>", desc := "()V", sig := { parameters := [], returnType := none }, accessFlags := 2, code := none }
def k1c1 : Code := { maxStack := 4, maxLocals := 9, code := code, exceptionTable := #[], attributes := #[] }
def k1m1 : Method := { name := "law", desc := "(IIII)Z", sig := { parameters := [.int, .int, .int, .int], returnType := some .boolean }, accessFlags := 9, code := some k1c1 }
/-- com/example/steadyhand/steadyhand/run/RerunPolicyWaitsOnContainerPinLaw -/
def k1 : Class := { plain "com/example/steadyhand/steadyhand/run/RerunPolicyWaitsOnContainerPinLaw" (some 0) with
  accessFlags := 49
  interfaces := #[]
  cf := some (fileOf pool1 23 #[] #[{ accessFlags := 2, nameIndex := 5, descriptorIndex := 6, attributes := #[] }, { accessFlags := 9, nameIndex := 27, descriptorIndex := 28, attributes := #[] }] 49 2 #[] #[])
  fields := #[]
  methods := #[k1m0, k1m1]
  instanceTypes := #[]
  staticTypes := #[]
  resolved := Array.replicate 32 none
  statics := none }

def pool2 : Array CpInfo := pool [(1, .class_ 2), (0, u "java/lang/Math"), (1, .class_ 6), (1, u "java/lang/Object"), (0, u "<init>"), (0, u "()V"), (89, .class_ 100), (1, u "java/lang/Math$RandomNumberGeneratorHolder"), (71, u "negativeZeroFloatBits"), (0, u "J"), (2, u "negativeZeroDoubleBits"), (21, u "max"), (46, u "$assertionsDisabled"), (0, u "Z"), (88, u "(II)I"), (2, u "twoToTheDoubleScaleDown"), (0, u "D"), (4, u "twoToTheDoubleScaleUp"), (9, u "E"), (3, u "PI"), (2, u "TAU"), (2, u "DEGREES_TO_RADIANS"), (0, u "RADIANS_TO_DEGREES")] 94

def k2m0 : Method := { name := "<init>", desc := "()V", sig := { parameters := [], returnType := none }, accessFlags := 2, code := none }
def k2c1 : Code := { maxStack := 2, maxLocals := 2, code := jdk_29_method_65_code, exceptionTable := #[], attributes := #[] }
def k2m1 : Method := { name := "max", desc := "(II)I", sig := { parameters := [.int, .int], returnType := some .int }, accessFlags := 9, code := some k2c1 }
/-- java/lang/Math -/
def k2 : Class := { plain "java/lang/Math" (some 0) with
  accessFlags := 49
  interfaces := #[]
  cf := some (fileOf pool2 1 #[.nestMembers #[98]] #[{ accessFlags := 2, nameIndex := 7, descriptorIndex := 8, attributes := #[] }, { accessFlags := 9, nameIndex := 198, descriptorIndex := 335, attributes := #[] }] 49 4 #[] #[{ accessFlags := 25, nameIndex := 354, descriptorIndex := 339, attributes := #[] }, { accessFlags := 25, nameIndex := 358, descriptorIndex := 339, attributes := #[] }, { accessFlags := 25, nameIndex := 361, descriptorIndex := 339, attributes := #[] }, { accessFlags := 26, nameIndex := 364, descriptorIndex := 339, attributes := #[] }, { accessFlags := 26, nameIndex := 365, descriptorIndex := 339, attributes := #[] }, { accessFlags := 26, nameIndex := 172, descriptorIndex := 173, attributes := #[] }, { accessFlags := 26, nameIndex := 176, descriptorIndex := 173, attributes := #[] }, { accessFlags := 8, nameIndex := 344, descriptorIndex := 339, attributes := #[] }, { accessFlags := 8, nameIndex := 338, descriptorIndex := 339, attributes := #[] }, { accessFlags := 4120, nameIndex := 245, descriptorIndex := 246, attributes := #[] }])
  fields := #[{ name := "E", type := .double, accessFlags := 25, slot := 0, constantValue := 0 }, { name := "PI", type := .double, accessFlags := 25, slot := 1, constantValue := 0 }, { name := "TAU", type := .double, accessFlags := 25, slot := 2, constantValue := 0 }, { name := "DEGREES_TO_RADIANS", type := .double, accessFlags := 26, slot := 3, constantValue := 0 }, { name := "RADIANS_TO_DEGREES", type := .double, accessFlags := 26, slot := 4, constantValue := 0 }, { name := "negativeZeroFloatBits", type := .long, accessFlags := 26, slot := 5, constantValue := 0 }, { name := "negativeZeroDoubleBits", type := .long, accessFlags := 26, slot := 6, constantValue := 0 }, { name := "twoToTheDoubleScaleUp", type := .double, accessFlags := 8, slot := 7, constantValue := 0 }, { name := "twoToTheDoubleScaleDown", type := .double, accessFlags := 8, slot := 8, constantValue := 0 }, { name := "$assertionsDisabled", type := .boolean, accessFlags := 4120, slot := 9, constantValue := 0 }]
  methods := #[k2m0, k2m1]
  instanceTypes := #[]
  staticTypes := #[.double, .double, .double, .double, .double, .long, .long, .double, .double, .boolean]
  resolved := Array.replicate 460 none
  statics := none }

def pool3 : Array CpInfo := pool [(1, .methodref 2 3), (0, .class_ 4), (0, .nameAndType 5 6), (0, u "java/lang/Object"), (0, u "<init>"), (0, u "()V"), (9, .fieldref 17 18), (0, .class_ 19), (0, .nameAndType 20 21), (0, u "com/example/steadyhand/steadyhand/run/RerunPolicy"), (0, u "maxRuns"), (0, u "I"), (0, .fieldref 17 23), (0, .nameAndType 24 21), (0, u "minPasses"), (55, u "(II)V"), (7, u "waitsOnContainer"), (0, u "(I)Z")] 35

def k3c0 : Code := { maxStack := 4, maxLocals := 3, code := prog_46_method_1_code, exceptionTable := #[], attributes := #[] }
def k3m0 : Method := { name := "<init>", desc := "(II)V", sig := { parameters := [.int, .int], returnType := none }, accessFlags := 1, code := some k3c0 }
def k3c1 : Code := { maxStack := 2, maxLocals := 2, code := prog_46_method_4_code, exceptionTable := #[], attributes := #[] }
def k3m1 : Method := { name := "waitsOnContainer", desc := "(I)Z", sig := { parameters := [.int], returnType := some .boolean }, accessFlags := 0, code := some k3c1 }
/-- com/example/steadyhand/steadyhand/run/RerunPolicy -/
def k3 : Class := { plain "com/example/steadyhand/steadyhand/run/RerunPolicy" (some 0) with
  accessFlags := 49
  interfaces := #[]
  cf := some (fileOf pool3 17 #[] #[{ accessFlags := 1, nameIndex := 5, descriptorIndex := 80, attributes := #[] }, { accessFlags := 0, nameIndex := 88, descriptorIndex := 89, attributes := #[] }] 49 2 #[] #[{ accessFlags := 18, nameIndex := 20, descriptorIndex := 21, attributes := #[] }, { accessFlags := 18, nameIndex := 24, descriptorIndex := 21, attributes := #[] }])
  fields := #[{ name := "maxRuns", type := .int, accessFlags := 18, slot := 0, constantValue := 0 }, { name := "minPasses", type := .int, accessFlags := 18, slot := 1, constantValue := 0 }]
  methods := #[k3m0, k3m1]
  instanceTypes := #[.int, .int]
  staticTypes := #[]
  resolved := Array.replicate 125 none
  statics := none }

def pool4 : Array CpInfo := pool [(1, u "java/lang/Cloneable"), (0, .class_ 1), (0, u "java/lang/Object"), (0, .class_ 3)] 3

/-- java/lang/Cloneable -/
def k4 : Class := { plain "java/lang/Cloneable" (some 0) with
  accessFlags := 1537
  interfaces := #[]
  cf := some (fileOf pool4 2 #[] #[] 1537 4 #[] #[])
  fields := #[]
  methods := #[]
  instanceTypes := #[]
  staticTypes := #[]
  resolved := Array.replicate 8 none
  statics := none }

def pool5 : Array CpInfo := pool [(1, u "java/io/Serializable"), (0, .class_ 1), (0, u "java/lang/Object"), (0, .class_ 3)] 3

/-- java/io/Serializable -/
def k5 : Class := { plain "java/io/Serializable" (some 0) with
  accessFlags := 1537
  interfaces := #[]
  cf := some (fileOf pool5 2 #[] #[] 1537 4 #[] #[])
  fields := #[]
  methods := #[]
  instanceTypes := #[]
  staticTypes := #[]
  resolved := Array.replicate 8 none
  statics := none }

/-- the primitive byte -/
def k6 : Class := { plain "byte" none with kind := .primitive 'B', accessFlags := 0x411 }
/-- [B -/
def k7 : Class := { plain "[B" (some 0) with kind := .array 6 .byte, interfaces := #[4, 5], accessFlags := 1041 }

def heap : Heap := #[]
def classes : Array Class := #[k0, k1, k2, k3, k4, k5, k6, k7]
def interned : List (Array UInt16 × Addr) := []
def slotsUsed : Nat := 0
def theMethod : MethodId := ⟨1, 1⟩
def args0 : Array Value := #[.int 5, .int 7, .int 1, .int 1]
def aboutOver (below : List Frame) : State where
  vm := { classes := classes, interned := interned.toArray }
  heap := heap
  slotsUsed := slotsUsed
  threads := #[{ frames := .invoking theMethod args0 :: below }]
def below0 : List Frame := [.native { method := ⟨0, 0⟩, args := #[] }]
def about1 : State := aboutOver below0
def p0 : Program := .bare "" "" ""
def e0 : Env := launch0.env 0 0 0
theorem w_frames : about1.frames = Frame.invoking theMethod args0 :: below0 := rfl
set_option maxRecDepth 65536 in
theorem w_args : argsFit about1.vm theMethod args0 = true := by decide +kernel
set_option maxRecDepth 65536 in
theorem w_heap : heapFits about1 = true := by decide +kernel
set_option maxRecDepth 65536 in
theorem w_runnable : about1.curStatus? = some .runnable := by decide +kernel
set_option maxRecDepth 65536 in
theorem w_alone : about1.alone = true := by decide +kernel
set_option maxRecDepth 65536 in
theorem w_named : about1.methodNamed? x = some theMethod := by decide +kernel
set_option maxRecDepth 65536 in
theorem w_hears : about1.hears theMethod below0 = true := by decide +kernel
set_option maxRecDepth 65536 in
theorem w_ripe : about1.ripe theMethod args0 below0 = true := by decide +kernel
theorem w_running : about1.status = .running := rfl
set_option maxRecDepth 65536 in
theorem w_room : about1.hasRoom e0.platform room_1 = true :=
  launch0.hasRoom_least _ room_1 (by decide +kernel) (by decide +kernel) (by decide +kernel) (by decide +kernel) (by decide +kernel) (by decide +kernel)
theorem allAtoms_all (ts : List Jvm.Cond) (a : Array Jvm.Value) (st : Jvm.State) : (allAtoms ts).before a st = ts.all (fun c => c.before a st) := by
  induction ts with
  | nil => rfl
  | cons c t ih =>
    show (Jvm.Cond.and c (allAtoms t)).before a st = _
    rw [Jvm.Cond.before_and, ih, List.all_cons]
def words1 : List Jvm.Cond := Jvm.Cond.code x code maxLocals ret :: tables_1
/-- a 'code' word, met by the world's own term for the bytes: nothing is compared byte by byte -/
theorem code_word {y : MethodName} {bytes : ByteArray} {mx : Nat} {rt : Option FieldType} {a : Array Value} {s : State} {m : MethodId} {meth : Method} {c : Code} (h1 : s.methodNamed? y = some m) (h2 : s.vm.method? m = some meth) (h3 : meth.code = some c) (h4 : c.code = bytes)
    (h5 : (c.maxLocals == mx && c.exceptionTable.isEmpty && decide (c.maxStack ≤ mostOperands) && decide (meth.sig.returnType = rt) && !meth.locks && decide (parseMethodDescriptor y.desc = some meth.sig)) = true) : (Jvm.Cond.code y bytes mx rt).before a s = true := by
  simp only [Bool.and_eq_true, beq_iff_eq, Bool.not_eq_true', decide_eq_true_eq] at h5
  obtain ⟨⟨⟨⟨⟨g1, g2⟩, g3⟩, g4⟩, g5⟩, g6⟩ := h5
  simp [Cond.before, Cond.holds, Cond.value, h1, h2, h3, h4, g1, g2, g3, g4, g5, g6]
def isCode : Jvm.Cond → Bool
  | .code _ _ _ _ => true
  | _ => false
theorem all_split {L : List Jvm.Cond} {P : Jvm.Cond → Bool} (h1 : L.all (fun c => isCode c || P c) = true) (h2 : ∀ c ∈ L.filter isCode, P c = true) : L.all P = true := by
  refine List.all_eq_true.mpr fun c hc => ?_
  have h := List.all_eq_true.mp h1 c hc
  rcases Bool.eq_false_or_eq_true (isCode c) with hi | hi
  · exact h2 c (List.mem_filter.mpr ⟨hc, hi⟩)
  · simpa [hi] using h
set_option maxRecDepth 65536 in
theorem w_c0 : (Jvm.Cond.code x code maxLocals ret).before args0 about1 = true := code_word (m := ⟨1, 1⟩) (meth := k1m1) (c := k1c1) (by decide +kernel) rfl rfl rfl (by decide +kernel)
set_option maxRecDepth 65536 in
theorem w_c1 : (Jvm.Cond.code ({ cls := "java/lang/Math", name := "max", desc := "(II)I" } : Jvm.MethodName) jdk_29_method_65_code (2 : Nat) (Option.some Jvm.ClassFile.FieldType.int)).before args0 about1 = true := code_word (m := ⟨2, 1⟩) (meth := k2m1) (c := k2c1) (by decide +kernel) rfl rfl rfl (by decide +kernel)
set_option maxRecDepth 65536 in
theorem w_c2 : (Jvm.Cond.code ({ cls := "com/example/steadyhand/steadyhand/run/RerunPolicy", name := "<init>", desc := "(II)V" } : Jvm.MethodName) prog_46_method_1_code (3 : Nat) (Option.none : Option Jvm.ClassFile.FieldType)).before args0 about1 = true := code_word (m := ⟨3, 0⟩) (meth := k3m0) (c := k3c0) (by decide +kernel) rfl rfl rfl (by decide +kernel)
set_option maxRecDepth 65536 in
theorem w_c3 : (Jvm.Cond.code ({ cls := "java/lang/Object", name := "<init>", desc := "()V" } : Jvm.MethodName) object_method_1_code (1 : Nat) (Option.none : Option Jvm.ClassFile.FieldType)).before args0 about1 = true := code_word (m := ⟨0, 0⟩) (meth := k0m0) (c := k0c0) (by decide +kernel) rfl rfl rfl (by decide +kernel)
set_option maxRecDepth 65536 in
theorem w_c4 : (Jvm.Cond.code ({ cls := "com/example/steadyhand/steadyhand/run/RerunPolicy", name := "waitsOnContainer", desc := "(I)Z" } : Jvm.MethodName) prog_46_method_4_code (2 : Nat) (Option.some Jvm.ClassFile.FieldType.boolean)).before args0 about1 = true := code_word (m := ⟨3, 1⟩) (meth := k3m1) (c := k3c1) (by decide +kernel) rfl rfl rfl (by decide +kernel)
def codes1 : List Jvm.Cond := [Jvm.Cond.code x code maxLocals ret, Jvm.Cond.code ({ cls := "java/lang/Math", name := "max", desc := "(II)I" } : Jvm.MethodName) jdk_29_method_65_code (2 : Nat) (Option.some Jvm.ClassFile.FieldType.int), Jvm.Cond.code ({ cls := "com/example/steadyhand/steadyhand/run/RerunPolicy", name := "<init>", desc := "(II)V" } : Jvm.MethodName) prog_46_method_1_code (3 : Nat) (Option.none : Option Jvm.ClassFile.FieldType), Jvm.Cond.code ({ cls := "java/lang/Object", name := "<init>", desc := "()V" } : Jvm.MethodName) object_method_1_code (1 : Nat) (Option.none : Option Jvm.ClassFile.FieldType), Jvm.Cond.code ({ cls := "com/example/steadyhand/steadyhand/run/RerunPolicy", name := "waitsOnContainer", desc := "(I)Z" } : Jvm.MethodName) prog_46_method_4_code (2 : Nat) (Option.some Jvm.ClassFile.FieldType.boolean)]
set_option maxRecDepth 65536 in
theorem codes_eq : words1.filter isCode = codes1 := rfl
theorem w_codes : ∀ c ∈ words1.filter isCode, c.before args0 about1 = true := by
  rw [codes_eq]
  intro c hc
  simp only [codes1, List.mem_cons, List.not_mem_nil, or_false] at hc
  rcases hc with rfl | rfl | rfl | rfl | rfl
  · exact w_c0
  · exact w_c1
  · exact w_c2
  · exact w_c3
  · exact w_c4
set_option maxRecDepth 65536 in
theorem w_t1 : words1.all (fun c => isCode c || c.before args0 about1) = true := by decide +kernel
theorem w_tables : (allAtoms (Jvm.Cond.code x code maxLocals ret :: tables_1)).before args0 about1 = true := by
  rw [allAtoms_all]
  show words1.all (fun c => c.before args0 about1) = true
  refine all_split ?_ w_codes
  rw [w_t1]
set_option maxRecDepth 65536 in
theorem w_case : (Jvm.Cond.and given_1 narrow_1).before args0 about1 = true := by decide +kernel
theorem w_applies : (headSpec (Jvm.Cond.code x code maxLocals ret :: tables_1) room_1).applies x e0.platform about1 = true :=
  (Spec.applies_iff w_frames).mpr ⟨w_running, w_runnable, w_alone, w_named, w_hears, w_ripe, w_room, w_tables⟩
theorem atStart : AtStart classFile x code maxLocals ret World_1 tables_1 room_1 Calls_1 rest_1 Pre_1 launch0 p0 e0 about1 theMethod args0 below0 :=
  ⟨lists_1, trivial, launch0.admits_env _ _ _, launch0.least_env, fairChoices_fair.cas, fairChoices_fair.clock, w_frames, w_args, w_heap, w_applies, trivial, trivial, w_case⟩
end start1
theorem witness_1 : WitnessClaimed_1 := ⟨start1.p0, start1.e0, start1.about1, start1.theMethod, start1.args0, start1.below0, start1.atStart⟩
end Jvm.Pilot.@@N@@
