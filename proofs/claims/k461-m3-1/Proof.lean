import JvmDerived
import JvmDerived.Pilot.@@N@@Statement
import JvmDerived.Pilot.@@N@@Code
set_option linter.unusedVariables false
set_option linter.unusedSimpArgs false
namespace Jvm.Pilot.@@N@@
open Jvm Jvm.ClassFile Sem Op Lib Jvm.Free Jvm.Stand Jvm.LawKit Jvm.RoadKit Bundle Jvm.Pilot.@@N@@.Jvm.D
theorem pd_0 : parseMethodDescriptor "(I)Lorg/beanpath/expr/Axis;" = some ⟨[.int], some (.object "org/beanpath/expr/Axis")⟩ := by decide +kernel
theorem pd_1 : parseMethodDescriptor "()Z" = some ⟨[], some .boolean⟩ := by decide +kernel
theorem pd_2 : parseMethodDescriptor "(I)Z" = some ⟨[.int], some .boolean⟩ := by decide +kernel
theorem own_fldpin {t : Term} {C n d : String} {k : Int32} {a : Addr} {args : Array Value} {s : State} (ev : t.eval args s none [] s = some (.ref a)) (h : (Cond.eq (.field t C n d) (.int k)).value args s none s [] = some true) : Fld s s.heap a C n d (.int k) := by
  refine Fld.start ?_
  have e1 : (Term.field t C n d).eval args s none [] s = s.fieldOf? a C n d := fld_at ev
  cases hf : s.fieldOf? a C n d with
  | none => rw [hf] at e1; simp [Cond.value, e1] at h
  | some v =>
    rw [hf] at e1
    have e2 : (Term.int k).eval args s none [] s = some (.int k) := rfl
    cases v <;> simp [Cond.value, e1, e2] at h ⊢
    exact h
theorem d1_0 : decode method_3_code 0 = .ok (.iload_n 0, 1) := by decide +kernel
theorem d1_1 : decode method_3_code 1 = .ok (.ifCond .ne 7, 3) := by decide +kernel
theorem d1_4 : decode method_3_code 4 = .ok (.getstatic 24, 3) := by decide +kernel
theorem d1_7 : decode method_3_code 7 = .ok (.areturn, 1) := by decide +kernel
theorem d1_8 : decode method_3_code 8 = .ok (.iload_n 0, 1) := by decide +kernel
theorem d1_9 : decode method_3_code 9 = .ok (.iconst 1, 1) := by decide +kernel
theorem d1_10 : decode method_3_code 10 = .ok (.if_icmp .ne 7, 3) := by decide +kernel
theorem d1_13 : decode method_3_code 13 = .ok (.getstatic 28, 3) := by decide +kernel
theorem d1_16 : decode method_3_code 16 = .ok (.areturn, 1) := by decide +kernel
theorem d1_17 : decode method_3_code 17 = .ok (.iload_n 0, 1) := by decide +kernel
theorem d1_18 : decode method_3_code 18 = .ok (.iconst 2, 1) := by decide +kernel
theorem d1_19 : decode method_3_code 19 = .ok (.if_icmp .ne 7, 3) := by decide +kernel
theorem d1_22 : decode method_3_code 22 = .ok (.getstatic 31, 3) := by decide +kernel
theorem d1_25 : decode method_3_code 25 = .ok (.areturn, 1) := by decide +kernel
theorem d1_26 : decode method_3_code 26 = .ok (.iload_n 0, 1) := by decide +kernel
theorem d1_27 : decode method_3_code 27 = .ok (.iconst 3, 1) := by decide +kernel
theorem d1_28 : decode method_3_code 28 = .ok (.if_icmp .ne 7, 3) := by decide +kernel
theorem d1_31 : decode method_3_code 31 = .ok (.getstatic 34, 3) := by decide +kernel
theorem d1_34 : decode method_3_code 34 = .ok (.areturn, 1) := by decide +kernel
theorem d1_35 : decode method_3_code 35 = .ok (.iload_n 0, 1) := by decide +kernel
theorem d1_36 : decode method_3_code 36 = .ok (.iconst 4, 1) := by decide +kernel
theorem d1_37 : decode method_3_code 37 = .ok (.if_icmp .ne 7, 3) := by decide +kernel
theorem d1_40 : decode method_3_code 40 = .ok (.getstatic 37, 3) := by decide +kernel
theorem d1_43 : decode method_3_code 43 = .ok (.areturn, 1) := by decide +kernel
theorem d1_44 : decode method_3_code 44 = .ok (.iload_n 0, 1) := by decide +kernel
theorem d1_45 : decode method_3_code 45 = .ok (.iconst 5, 1) := by decide +kernel
theorem d1_46 : decode method_3_code 46 = .ok (.if_icmp .ne 7, 3) := by decide +kernel
theorem d1_49 : decode method_3_code 49 = .ok (.getstatic 40, 3) := by decide +kernel
theorem d1_52 : decode method_3_code 52 = .ok (.areturn, 1) := by decide +kernel
theorem d1_53 : decode method_3_code 53 = .ok (.iload_n 0, 1) := by decide +kernel
theorem d1_54 : decode method_3_code 54 = .ok (.bipush 6, 2) := by decide +kernel
theorem d1_56 : decode method_3_code 56 = .ok (.if_icmp .ne 7, 3) := by decide +kernel
theorem d1_59 : decode method_3_code 59 = .ok (.getstatic 43, 3) := by decide +kernel
theorem d1_62 : decode method_3_code 62 = .ok (.areturn, 1) := by decide +kernel
theorem d1_63 : decode method_3_code 63 = .ok (.iload_n 0, 1) := by decide +kernel
theorem d1_64 : decode method_3_code 64 = .ok (.bipush 7, 2) := by decide +kernel
theorem d1_66 : decode method_3_code 66 = .ok (.if_icmp .ne 7, 3) := by decide +kernel
theorem d1_69 : decode method_3_code 69 = .ok (.getstatic 46, 3) := by decide +kernel
theorem d1_72 : decode method_3_code 72 = .ok (.areturn, 1) := by decide +kernel
theorem d1_73 : decode method_3_code 73 = .ok (.iload_n 0, 1) := by decide +kernel
theorem d1_74 : decode method_3_code 74 = .ok (.bipush 8, 2) := by decide +kernel
theorem d1_76 : decode method_3_code 76 = .ok (.if_icmp .ne 7, 3) := by decide +kernel
theorem d1_79 : decode method_3_code 79 = .ok (.getstatic 49, 3) := by decide +kernel
theorem d1_82 : decode method_3_code 82 = .ok (.areturn, 1) := by decide +kernel
theorem d1_83 : decode method_3_code 83 = .ok (.iload_n 0, 1) := by decide +kernel
theorem d1_84 : decode method_3_code 84 = .ok (.bipush 9, 2) := by decide +kernel
theorem d1_86 : decode method_3_code 86 = .ok (.if_icmp .ne 7, 3) := by decide +kernel
theorem d1_89 : decode method_3_code 89 = .ok (.getstatic 52, 3) := by decide +kernel
theorem d1_92 : decode method_3_code 92 = .ok (.areturn, 1) := by decide +kernel
theorem d1_93 : decode method_3_code 93 = .ok (.iload_n 0, 1) := by decide +kernel
theorem d1_94 : decode method_3_code 94 = .ok (.bipush 10, 2) := by decide +kernel
theorem d1_96 : decode method_3_code 96 = .ok (.if_icmp .ne 7, 3) := by decide +kernel
theorem d1_99 : decode method_3_code 99 = .ok (.getstatic 55, 3) := by decide +kernel
theorem d1_102 : decode method_3_code 102 = .ok (.areturn, 1) := by decide +kernel
theorem d1_103 : decode method_3_code 103 = .ok (.iload_n 0, 1) := by decide +kernel
theorem d1_104 : decode method_3_code 104 = .ok (.bipush 11, 2) := by decide +kernel
theorem d1_106 : decode method_3_code 106 = .ok (.if_icmp .ne 7, 3) := by decide +kernel
theorem d1_109 : decode method_3_code 109 = .ok (.getstatic 58, 3) := by decide +kernel
theorem d1_112 : decode method_3_code 112 = .ok (.areturn, 1) := by decide +kernel
theorem d1_113 : decode method_3_code 113 = .ok (.getstatic 61, 3) := by decide +kernel
theorem d1_116 : decode method_3_code 116 = .ok (.areturn, 1) := by decide +kernel
theorem d2_0 : decode prog_14_method_11_code 0 = .ok (.aload_n 0, 1) := by decide +kernel
theorem d2_1 : decode prog_14_method_11_code 1 = .ok (.getstatic 13, 3) := by decide +kernel
theorem d2_4 : decode prog_14_method_11_code 4 = .ok (.if_acmp .eq 24, 3) := by decide +kernel
theorem d2_7 : decode prog_14_method_11_code 7 = .ok (.aload_n 0, 1) := by decide +kernel
theorem d2_8 : decode prog_14_method_11_code 8 = .ok (.getstatic 16, 3) := by decide +kernel
theorem d2_11 : decode prog_14_method_11_code 11 = .ok (.if_acmp .eq 17, 3) := by decide +kernel
theorem d2_14 : decode prog_14_method_11_code 14 = .ok (.aload_n 0, 1) := by decide +kernel
theorem d2_15 : decode prog_14_method_11_code 15 = .ok (.getstatic 10, 3) := by decide +kernel
theorem d2_18 : decode prog_14_method_11_code 18 = .ok (.if_acmp .eq 10, 3) := by decide +kernel
theorem d2_21 : decode prog_14_method_11_code 21 = .ok (.aload_n 0, 1) := by decide +kernel
theorem d2_22 : decode prog_14_method_11_code 22 = .ok (.getstatic 28, 3) := by decide +kernel
theorem d2_25 : decode prog_14_method_11_code 25 = .ok (.if_acmp .ne 7, 3) := by decide +kernel
theorem d2_28 : decode prog_14_method_11_code 28 = .ok (.iconst 1, 1) := by decide +kernel
theorem d2_29 : decode prog_14_method_11_code 29 = .ok (.goto 4, 3) := by decide +kernel
theorem d2_32 : decode prog_14_method_11_code 32 = .ok (.iconst 0, 1) := by decide +kernel
theorem d2_33 : decode prog_14_method_11_code 33 = .ok (.ireturn, 1) := by decide +kernel
theorem d3_0 : decode method_4_code 0 = .ok (.iload_n 0, 1) := by decide +kernel
theorem d3_1 : decode method_4_code 1 = .ok (.ifCond .ne 5, 3) := by decide +kernel
theorem d3_4 : decode method_4_code 4 = .ok (.iconst 0, 1) := by decide +kernel
theorem d3_5 : decode method_4_code 5 = .ok (.ireturn, 1) := by decide +kernel
theorem d3_6 : decode method_4_code 6 = .ok (.iload_n 0, 1) := by decide +kernel
theorem d3_7 : decode method_4_code 7 = .ok (.iconst 1, 1) := by decide +kernel
theorem d3_8 : decode method_4_code 8 = .ok (.if_icmp .ne 5, 3) := by decide +kernel
theorem d3_11 : decode method_4_code 11 = .ok (.iconst 0, 1) := by decide +kernel
theorem d3_12 : decode method_4_code 12 = .ok (.ireturn, 1) := by decide +kernel
theorem d3_13 : decode method_4_code 13 = .ok (.iload_n 0, 1) := by decide +kernel
theorem d3_14 : decode method_4_code 14 = .ok (.iconst 2, 1) := by decide +kernel
theorem d3_15 : decode method_4_code 15 = .ok (.if_icmp .ne 5, 3) := by decide +kernel
theorem d3_18 : decode method_4_code 18 = .ok (.iconst 1, 1) := by decide +kernel
theorem d3_19 : decode method_4_code 19 = .ok (.ireturn, 1) := by decide +kernel
theorem d3_20 : decode method_4_code 20 = .ok (.iload_n 0, 1) := by decide +kernel
theorem d3_21 : decode method_4_code 21 = .ok (.iconst 3, 1) := by decide +kernel
theorem d3_22 : decode method_4_code 22 = .ok (.if_icmp .ne 5, 3) := by decide +kernel
theorem d3_25 : decode method_4_code 25 = .ok (.iconst 1, 1) := by decide +kernel
theorem d3_26 : decode method_4_code 26 = .ok (.ireturn, 1) := by decide +kernel
theorem d3_27 : decode method_4_code 27 = .ok (.iload_n 0, 1) := by decide +kernel
theorem d3_28 : decode method_4_code 28 = .ok (.iconst 4, 1) := by decide +kernel
theorem d3_29 : decode method_4_code 29 = .ok (.if_icmp .ne 5, 3) := by decide +kernel
theorem d3_32 : decode method_4_code 32 = .ok (.iconst 1, 1) := by decide +kernel
theorem d3_33 : decode method_4_code 33 = .ok (.ireturn, 1) := by decide +kernel
theorem d3_34 : decode method_4_code 34 = .ok (.iload_n 0, 1) := by decide +kernel
theorem d3_35 : decode method_4_code 35 = .ok (.iconst 5, 1) := by decide +kernel
theorem d3_36 : decode method_4_code 36 = .ok (.if_icmp .ne 5, 3) := by decide +kernel
theorem d3_39 : decode method_4_code 39 = .ok (.iconst 0, 1) := by decide +kernel
theorem d3_40 : decode method_4_code 40 = .ok (.ireturn, 1) := by decide +kernel
theorem d3_41 : decode method_4_code 41 = .ok (.iload_n 0, 1) := by decide +kernel
theorem d3_42 : decode method_4_code 42 = .ok (.bipush 6, 2) := by decide +kernel
theorem d3_44 : decode method_4_code 44 = .ok (.if_icmp .ne 5, 3) := by decide +kernel
theorem d3_47 : decode method_4_code 47 = .ok (.iconst 0, 1) := by decide +kernel
theorem d3_48 : decode method_4_code 48 = .ok (.ireturn, 1) := by decide +kernel
theorem d3_49 : decode method_4_code 49 = .ok (.iload_n 0, 1) := by decide +kernel
theorem d3_50 : decode method_4_code 50 = .ok (.bipush 7, 2) := by decide +kernel
theorem d3_52 : decode method_4_code 52 = .ok (.if_icmp .ne 5, 3) := by decide +kernel
theorem d3_55 : decode method_4_code 55 = .ok (.iconst 0, 1) := by decide +kernel
theorem d3_56 : decode method_4_code 56 = .ok (.ireturn, 1) := by decide +kernel
theorem d3_57 : decode method_4_code 57 = .ok (.iload_n 0, 1) := by decide +kernel
theorem d3_58 : decode method_4_code 58 = .ok (.bipush 8, 2) := by decide +kernel
theorem d3_60 : decode method_4_code 60 = .ok (.if_icmp .ne 5, 3) := by decide +kernel
theorem d3_63 : decode method_4_code 63 = .ok (.iconst 1, 1) := by decide +kernel
theorem d3_64 : decode method_4_code 64 = .ok (.ireturn, 1) := by decide +kernel
theorem d3_65 : decode method_4_code 65 = .ok (.iload_n 0, 1) := by decide +kernel
theorem d3_66 : decode method_4_code 66 = .ok (.bipush 9, 2) := by decide +kernel
theorem d3_68 : decode method_4_code 68 = .ok (.if_icmp .ne 5, 3) := by decide +kernel
theorem d3_71 : decode method_4_code 71 = .ok (.iconst 0, 1) := by decide +kernel
theorem d3_72 : decode method_4_code 72 = .ok (.ireturn, 1) := by decide +kernel
theorem d3_73 : decode method_4_code 73 = .ok (.iload_n 0, 1) := by decide +kernel
theorem d3_74 : decode method_4_code 74 = .ok (.bipush 10, 2) := by decide +kernel
theorem d3_76 : decode method_4_code 76 = .ok (.if_icmp .ne 5, 3) := by decide +kernel
theorem d3_79 : decode method_4_code 79 = .ok (.iconst 0, 1) := by decide +kernel
theorem d3_80 : decode method_4_code 80 = .ok (.ireturn, 1) := by decide +kernel
theorem d3_81 : decode method_4_code 81 = .ok (.iload_n 0, 1) := by decide +kernel
theorem d3_82 : decode method_4_code 82 = .ok (.bipush 11, 2) := by decide +kernel
theorem d3_84 : decode method_4_code 84 = .ok (.if_icmp .ne 5, 3) := by decide +kernel
theorem d3_87 : decode method_4_code 87 = .ok (.iconst 0, 1) := by decide +kernel
theorem d3_88 : decode method_4_code 88 = .ok (.ireturn, 1) := by decide +kernel
theorem d3_89 : decode method_4_code 89 = .ok (.iconst 0, 1) := by decide +kernel
theorem d3_90 : decode method_4_code 90 = .ok (.ireturn, 1) := by decide +kernel
def own_pick (p : Int32) (a_ANCESTOR a_ANCESTOR_OR_SELF a_ATTRIBUTE a_CHILD a_DESCENDANT a_DESCENDANT_OR_SELF a_FOLLOWING a_FOLLOWING_SIBLING a_NAMESPACE a_PARENT a_PRECEDING a_PRECEDING_SIBLING a_SELF : Addr) : Addr := if p = (0 : Int32) then a_ANCESTOR else if p = (1 : Int32) then a_ANCESTOR_OR_SELF else if p = (2 : Int32) then a_ATTRIBUTE else if p = (3 : Int32) then a_CHILD else if p = (4 : Int32) then a_DESCENDANT else if p = (5 : Int32) then a_DESCENDANT_OR_SELF else if p = (6 : Int32) then a_FOLLOWING else if p = (7 : Int32) then a_FOLLOWING_SIBLING else if p = (8 : Int32) then a_NAMESPACE else if p = (9 : Int32) then a_PARENT else if p = (10 : Int32) then a_PRECEDING else if p = (11 : Int32) then a_PRECEDING_SIBLING else a_SELF
def Qpick (Z : State) (p1 : Int32) (res : Addr) (h0 : Heap) (n0 : Nat) (v : Option Value) (h : Heap) (L : List Loc) : Prop := v = some (.ref res) ∧ Fr n0 L ∧ h = h0
theorem pn_1 : plainName "org/beanpath/expr/AxisIsEmptyFromTextPinLaw" = true := by first | (simp [plainName, overriddenIn]; done) | decide +kernel
theorem ef_rm_pick (m : MethodId) (x0 : Int32) : entryFrame m #[(.int x0)] 1 = mkF m 0 #[.val (.int x0)] [] := by first | (simp [entryFrame, mkF, argsToLocals, Value.category]; done) | rfl
set_option maxRecDepth 65536 in
set_option maxHeartbeats 40000000 in
theorem rm_pick (l : Launch) (Z : State) (a0 : Array Value) (hw : ∀ d ∈ tables_1, d.before a0 Z = true) (ws : List Jvm.Cond) (p1 : Int32) (h0 : Heap) (n0 : Nat) (Z0 : n0 ≤ h0.size) (a_ANCESTOR : Addr) (S_ANCESTOR : Sta Z h0 "org/beanpath/expr/Axis" "ANCESTOR" "Lorg/beanpath/expr/Axis;" (.ref a_ANCESTOR)) (a_ANCESTOR_OR_SELF : Addr) (S_ANCESTOR_OR_SELF : Sta Z h0 "org/beanpath/expr/Axis" "ANCESTOR_OR_SELF" "Lorg/beanpath/expr/Axis;" (.ref a_ANCESTOR_OR_SELF)) (a_ATTRIBUTE : Addr) (S_ATTRIBUTE : Sta Z h0 "org/beanpath/expr/Axis" "ATTRIBUTE" "Lorg/beanpath/expr/Axis;" (.ref a_ATTRIBUTE)) (a_CHILD : Addr) (S_CHILD : Sta Z h0 "org/beanpath/expr/Axis" "CHILD" "Lorg/beanpath/expr/Axis;" (.ref a_CHILD)) (a_DESCENDANT : Addr) (S_DESCENDANT : Sta Z h0 "org/beanpath/expr/Axis" "DESCENDANT" "Lorg/beanpath/expr/Axis;" (.ref a_DESCENDANT)) (a_DESCENDANT_OR_SELF : Addr) (S_DESCENDANT_OR_SELF : Sta Z h0 "org/beanpath/expr/Axis" "DESCENDANT_OR_SELF" "Lorg/beanpath/expr/Axis;" (.ref a_DESCENDANT_OR_SELF)) (a_FOLLOWING : Addr) (S_FOLLOWING : Sta Z h0 "org/beanpath/expr/Axis" "FOLLOWING" "Lorg/beanpath/expr/Axis;" (.ref a_FOLLOWING)) (a_FOLLOWING_SIBLING : Addr) (S_FOLLOWING_SIBLING : Sta Z h0 "org/beanpath/expr/Axis" "FOLLOWING_SIBLING" "Lorg/beanpath/expr/Axis;" (.ref a_FOLLOWING_SIBLING)) (a_NAMESPACE : Addr) (S_NAMESPACE : Sta Z h0 "org/beanpath/expr/Axis" "NAMESPACE" "Lorg/beanpath/expr/Axis;" (.ref a_NAMESPACE)) (a_PARENT : Addr) (S_PARENT : Sta Z h0 "org/beanpath/expr/Axis" "PARENT" "Lorg/beanpath/expr/Axis;" (.ref a_PARENT)) (a_PRECEDING : Addr) (S_PRECEDING : Sta Z h0 "org/beanpath/expr/Axis" "PRECEDING" "Lorg/beanpath/expr/Axis;" (.ref a_PRECEDING)) (a_PRECEDING_SIBLING : Addr) (S_PRECEDING_SIBLING : Sta Z h0 "org/beanpath/expr/Axis" "PRECEDING_SIBLING" "Lorg/beanpath/expr/Axis;" (.ref a_PRECEDING_SIBLING)) (a_SELF : Addr) (S_SELF : Sta Z h0 "org/beanpath/expr/Axis" "SELF" "Lorg/beanpath/expr/Axis;" (.ref a_SELF)) (res : Addr) (hres : own_pick p1 a_ANCESTOR a_ANCESTOR_OR_SELF a_ATTRIBUTE a_CHILD a_DESCENDANT a_DESCENDANT_OR_SELF a_FOLLOWING a_FOLLOWING_SIBLING a_NAMESPACE a_PARENT a_PRECEDING a_PRECEDING_SIBLING a_SELF = res) :
    MetFree l (⟨"org/beanpath/expr/AxisIsEmptyFromTextPinLaw", "axisAt", "(I)Lorg/beanpath/expr/Axis;"⟩ : MethodName) (head1 (Jvm.Cond.code (⟨"org/beanpath/expr/AxisIsEmptyFromTextPinLaw", "axisAt", "(I)Lorg/beanpath/expr/Axis;"⟩ : MethodName) method_3_code 1 (some (.object "org/beanpath/expr/Axis")) :: ws) ({ frames := 0, cells := 0, slots := 0, locals := 0 } : Room)) (fun a U => a = #[(.int p1)] ∧ Z.Warmed39 U.vm ∧ U.heap = h0) (fun _ _ _ _ _ => True) (fun _ U o U' => ∃ v L, o = .returned v ∧ Qpick Z p1 res h0 n0 v U'.heap L ∧ FrameEnd U o U' L ({ frames := 0, cells := 0, slots := 0, locals := 0 } : Room).cells ({ frames := 0, cells := 0, slots := 0, locals := 0 } : Room).slots) := by
  refine MetFree.of_bodySF (plainFor_of_name pn_1) hisR ?_
  intro p e s m args below meth c s₁ Bd hml0 hP hK
  obtain ⟨rfl, hZ, hh⟩ := hP
  have hx := Bd.exec
  have hby := Bd.bytes
  have hml : c.maxLocals = 1 := hml0
  have hown : s.vm.findClass "org/beanpath/expr/AxisIsEmptyFromTextPinLaw" = some m.cls := findClass_of_methodNamed Bd.named
  have hnm := (name_of_methodNamed Bd.named Bd.method).1
  have X0 : Stand p l e ({ frames := 0, cells := 0, slots := 0, locals := 0 } : Room) s m #[(.int p1)] below meth c s₁ [] 0 0 := Stand.of_body Bd
  have e0 : s₁.heap = h0 := by rw [← hh, Bd.state]; rfl
  have N0 := Fr.nil n0
  have pre0 : ∀ t, Steps p.tables e below (s₁.setTop (mkF m 0 #[.val (.int p1)] [])) t → Steps p.tables e below (s₁.setTop (entryFrame m #[(.int p1)] 1)) t := fun t k => castTop (ef_rm_pick m p1) k
  have pre1 : ∀ t, Steps p.tables e below (s₁.setTop (mkF m 1 #[.val (.int p1)] [(.int p1)])) t → Steps p.tables e below (s₁.setTop (entryFrame m #[(.int p1)] 1)) t := fun t k => pre0 t (by
    show Steps p.tables e below (s₁.setTop (mkF m 0 #[.val (.int p1)] [])) _
    refine XS.iloadN X0.here hx rfl (hb hby d1_0) rfl ?_
    exact k)
  by_cases hc1_2 : p1 = (0 : Int32)
  · have _ := 0
    obtain ⟨T3, X3, e3, st3⟩ := getS2 X0 hx hZ hown (host := "") (Or.inl (hw _ (List.mem_of_getElem? (i := 5) rfl))) Via.refl e0 S_ANCESTOR (g := (mkF m 4 #[.val (.int p1)] [])) rfl (hb hby d1_4)
    have pre4 : ∀ t, Steps p.tables e below (T3.setTop (mkF m 7 #[.val (.int p1)] [(.ref a_ANCESTOR)])) t → Steps p.tables e below (s₁.setTop (entryFrame m #[(.int p1)] 1)) t := fun t k => pre1 t (by
      show Steps p.tables e below (s₁.setTop (mkF m 1 #[.val (.int p1)] [(.int p1)])) _
      refine XS.ifNo X0.here hx rfl (hb hby d1_1) rfl ((if0 _ _).trans (teq hc1_2).2) ?_
      show Steps p.tables e below (s₁.setTop (mkF m 4 #[.val (.int p1)] [])) _
      refine st3 _ ?_
      exact k)
    obtain ⟨fs, hr, hrun, hended, hW, hsame⟩ := X3.leave (v := some (.ref a_ANCESTOR)) (fun h => by rw [Bd.returns] at h; cases h)
    refine ⟨_, _, pre4 _ ?_, hrun, hended, _, _, rfl, ?_, ⟨_, rfl⟩, hW, hsame.mono (by decide) (by decide)⟩
    · show Steps p.tables e below (T3.setTop (mkF m 7 #[.val (.int p1)] [(.ref a_ANCESTOR)])) _
      exact retOut X3 hx Bd.returns rfl (Or.inr (Or.inr (Or.inr (Or.inr ⟨rfl, rfl, rfl⟩)))) (hb hby d1_7) hr
    · show Qpick Z p1 res h0 n0 _ T3.heap _
      rw [e3]
      exact ⟨by rw [← hres]; simp [own_pick, hc1_2], N0, rfl⟩
  · have _ := 0
    have pre5 : ∀ t, Steps p.tables e below (s₁.setTop (mkF m 10 #[.val (.int p1)] [(.int (1 : Int32)), (.int p1)])) t → Steps p.tables e below (s₁.setTop (entryFrame m #[(.int p1)] 1)) t := fun t k => pre1 t (by
      show Steps p.tables e below (s₁.setTop (mkF m 1 #[.val (.int p1)] [(.int p1)])) _
      refine XS.ifYes X0.here hx rfl (pc0 := 1) (pc' := 8) rfl (hb hby d1_1) rfl ((if0 _ _).trans (feq hc1_2).2) (by decide) (by decide) ?_
      show Steps p.tables e below (s₁.setTop (mkF m 8 #[.val (.int p1)] [])) _
      refine XS.iloadN X0.here hx rfl (hb hby d1_8) rfl ?_
      show Steps p.tables e below (s₁.setTop (mkF m 9 #[.val (.int p1)] [(.int p1)])) _
      refine XT.iconstV X0.here hx rfl (1 : Int32) (hb hby d1_9) (by decide) ?_
      exact k)
    by_cases hc10_6 : p1 = (1 : Int32)
    · have _ := 0
      obtain ⟨T7, X7, e7, st7⟩ := getS2 X0 hx hZ hown (host := "") (Or.inl (hw _ (List.mem_of_getElem? (i := 43) rfl))) Via.refl e0 S_ANCESTOR_OR_SELF (g := (mkF m 13 #[.val (.int p1)] [])) rfl (hb hby d1_13)
      have pre8 : ∀ t, Steps p.tables e below (T7.setTop (mkF m 16 #[.val (.int p1)] [(.ref a_ANCESTOR_OR_SELF)])) t → Steps p.tables e below (s₁.setTop (entryFrame m #[(.int p1)] 1)) t := fun t k => pre5 t (by
        show Steps p.tables e below (s₁.setTop (mkF m 10 #[.val (.int p1)] [(.int (1 : Int32)), (.int p1)])) _
        refine XS.icmpNo X0.here hx rfl (hb hby d1_10) rfl (teq hc10_6).2 ?_
        show Steps p.tables e below (s₁.setTop (mkF m 13 #[.val (.int p1)] [])) _
        refine st7 _ ?_
        exact k)
      obtain ⟨fs, hr, hrun, hended, hW, hsame⟩ := X7.leave (v := some (.ref a_ANCESTOR_OR_SELF)) (fun h => by rw [Bd.returns] at h; cases h)
      refine ⟨_, _, pre8 _ ?_, hrun, hended, _, _, rfl, ?_, ⟨_, rfl⟩, hW, hsame.mono (by decide) (by decide)⟩
      · show Steps p.tables e below (T7.setTop (mkF m 16 #[.val (.int p1)] [(.ref a_ANCESTOR_OR_SELF)])) _
        exact retOut X7 hx Bd.returns rfl (Or.inr (Or.inr (Or.inr (Or.inr ⟨rfl, rfl, rfl⟩)))) (hb hby d1_16) hr
      · show Qpick Z p1 res h0 n0 _ T7.heap _
        rw [e7]
        exact ⟨by rw [← hres]; simp [own_pick, hc1_2, hc10_6], N0, rfl⟩
    · have _ := 0
      have pre9 : ∀ t, Steps p.tables e below (s₁.setTop (mkF m 19 #[.val (.int p1)] [(.int (2 : Int32)), (.int p1)])) t → Steps p.tables e below (s₁.setTop (entryFrame m #[(.int p1)] 1)) t := fun t k => pre5 t (by
        show Steps p.tables e below (s₁.setTop (mkF m 10 #[.val (.int p1)] [(.int (1 : Int32)), (.int p1)])) _
        refine XS.icmpYes X0.here hx rfl (pc0 := 10) (pc' := 17) rfl (hb hby d1_10) rfl (feq hc10_6).2 (by decide) (by decide) ?_
        show Steps p.tables e below (s₁.setTop (mkF m 17 #[.val (.int p1)] [])) _
        refine XS.iloadN X0.here hx rfl (hb hby d1_17) rfl ?_
        show Steps p.tables e below (s₁.setTop (mkF m 18 #[.val (.int p1)] [(.int p1)])) _
        refine XT.iconstV X0.here hx rfl (2 : Int32) (hb hby d1_18) (by decide) ?_
        exact k)
      by_cases hc19_10 : p1 = (2 : Int32)
      · have _ := 0
        obtain ⟨T11, X11, e11, st11⟩ := getS2 X0 hx hZ hown (host := "") (Or.inl (hw _ (List.mem_of_getElem? (i := 38) rfl))) Via.refl e0 S_ATTRIBUTE (g := (mkF m 22 #[.val (.int p1)] [])) rfl (hb hby d1_22)
        have pre12 : ∀ t, Steps p.tables e below (T11.setTop (mkF m 25 #[.val (.int p1)] [(.ref a_ATTRIBUTE)])) t → Steps p.tables e below (s₁.setTop (entryFrame m #[(.int p1)] 1)) t := fun t k => pre9 t (by
          show Steps p.tables e below (s₁.setTop (mkF m 19 #[.val (.int p1)] [(.int (2 : Int32)), (.int p1)])) _
          refine XS.icmpNo X0.here hx rfl (hb hby d1_19) rfl (teq hc19_10).2 ?_
          show Steps p.tables e below (s₁.setTop (mkF m 22 #[.val (.int p1)] [])) _
          refine st11 _ ?_
          exact k)
        obtain ⟨fs, hr, hrun, hended, hW, hsame⟩ := X11.leave (v := some (.ref a_ATTRIBUTE)) (fun h => by rw [Bd.returns] at h; cases h)
        refine ⟨_, _, pre12 _ ?_, hrun, hended, _, _, rfl, ?_, ⟨_, rfl⟩, hW, hsame.mono (by decide) (by decide)⟩
        · show Steps p.tables e below (T11.setTop (mkF m 25 #[.val (.int p1)] [(.ref a_ATTRIBUTE)])) _
          exact retOut X11 hx Bd.returns rfl (Or.inr (Or.inr (Or.inr (Or.inr ⟨rfl, rfl, rfl⟩)))) (hb hby d1_25) hr
        · show Qpick Z p1 res h0 n0 _ T11.heap _
          rw [e11]
          exact ⟨by rw [← hres]; simp [own_pick, hc1_2, hc10_6, hc19_10], N0, rfl⟩
      · have _ := 0
        have pre13 : ∀ t, Steps p.tables e below (s₁.setTop (mkF m 28 #[.val (.int p1)] [(.int (3 : Int32)), (.int p1)])) t → Steps p.tables e below (s₁.setTop (entryFrame m #[(.int p1)] 1)) t := fun t k => pre9 t (by
          show Steps p.tables e below (s₁.setTop (mkF m 19 #[.val (.int p1)] [(.int (2 : Int32)), (.int p1)])) _
          refine XS.icmpYes X0.here hx rfl (pc0 := 19) (pc' := 26) rfl (hb hby d1_19) rfl (feq hc19_10).2 (by decide) (by decide) ?_
          show Steps p.tables e below (s₁.setTop (mkF m 26 #[.val (.int p1)] [])) _
          refine XS.iloadN X0.here hx rfl (hb hby d1_26) rfl ?_
          show Steps p.tables e below (s₁.setTop (mkF m 27 #[.val (.int p1)] [(.int p1)])) _
          refine XT.iconstV X0.here hx rfl (3 : Int32) (hb hby d1_27) (by decide) ?_
          exact k)
        by_cases hc28_14 : p1 = (3 : Int32)
        · have _ := 0
          obtain ⟨T15, X15, e15, st15⟩ := getS2 X0 hx hZ hown (host := "") (Or.inl (hw _ (List.mem_of_getElem? (i := 24) rfl))) Via.refl e0 S_CHILD (g := (mkF m 31 #[.val (.int p1)] [])) rfl (hb hby d1_31)
          have pre16 : ∀ t, Steps p.tables e below (T15.setTop (mkF m 34 #[.val (.int p1)] [(.ref a_CHILD)])) t → Steps p.tables e below (s₁.setTop (entryFrame m #[(.int p1)] 1)) t := fun t k => pre13 t (by
            show Steps p.tables e below (s₁.setTop (mkF m 28 #[.val (.int p1)] [(.int (3 : Int32)), (.int p1)])) _
            refine XS.icmpNo X0.here hx rfl (hb hby d1_28) rfl (teq hc28_14).2 ?_
            show Steps p.tables e below (s₁.setTop (mkF m 31 #[.val (.int p1)] [])) _
            refine st15 _ ?_
            exact k)
          obtain ⟨fs, hr, hrun, hended, hW, hsame⟩ := X15.leave (v := some (.ref a_CHILD)) (fun h => by rw [Bd.returns] at h; cases h)
          refine ⟨_, _, pre16 _ ?_, hrun, hended, _, _, rfl, ?_, ⟨_, rfl⟩, hW, hsame.mono (by decide) (by decide)⟩
          · show Steps p.tables e below (T15.setTop (mkF m 34 #[.val (.int p1)] [(.ref a_CHILD)])) _
            exact retOut X15 hx Bd.returns rfl (Or.inr (Or.inr (Or.inr (Or.inr ⟨rfl, rfl, rfl⟩)))) (hb hby d1_34) hr
          · show Qpick Z p1 res h0 n0 _ T15.heap _
            rw [e15]
            exact ⟨by rw [← hres]; simp [own_pick, hc1_2, hc10_6, hc19_10, hc28_14], N0, rfl⟩
        · have _ := 0
          have pre17 : ∀ t, Steps p.tables e below (s₁.setTop (mkF m 37 #[.val (.int p1)] [(.int (4 : Int32)), (.int p1)])) t → Steps p.tables e below (s₁.setTop (entryFrame m #[(.int p1)] 1)) t := fun t k => pre13 t (by
            show Steps p.tables e below (s₁.setTop (mkF m 28 #[.val (.int p1)] [(.int (3 : Int32)), (.int p1)])) _
            refine XS.icmpYes X0.here hx rfl (pc0 := 28) (pc' := 35) rfl (hb hby d1_28) rfl (feq hc28_14).2 (by decide) (by decide) ?_
            show Steps p.tables e below (s₁.setTop (mkF m 35 #[.val (.int p1)] [])) _
            refine XS.iloadN X0.here hx rfl (hb hby d1_35) rfl ?_
            show Steps p.tables e below (s₁.setTop (mkF m 36 #[.val (.int p1)] [(.int p1)])) _
            refine XT.iconstV X0.here hx rfl (4 : Int32) (hb hby d1_36) (by decide) ?_
            exact k)
          by_cases hc37_18 : p1 = (4 : Int32)
          · have _ := 0
            obtain ⟨T19, X19, e19, st19⟩ := getS2 X0 hx hZ hown (host := "") (Or.inl (hw _ (List.mem_of_getElem? (i := 54) rfl))) Via.refl e0 S_DESCENDANT (g := (mkF m 40 #[.val (.int p1)] [])) rfl (hb hby d1_40)
            have pre20 : ∀ t, Steps p.tables e below (T19.setTop (mkF m 43 #[.val (.int p1)] [(.ref a_DESCENDANT)])) t → Steps p.tables e below (s₁.setTop (entryFrame m #[(.int p1)] 1)) t := fun t k => pre17 t (by
              show Steps p.tables e below (s₁.setTop (mkF m 37 #[.val (.int p1)] [(.int (4 : Int32)), (.int p1)])) _
              refine XS.icmpNo X0.here hx rfl (hb hby d1_37) rfl (teq hc37_18).2 ?_
              show Steps p.tables e below (s₁.setTop (mkF m 40 #[.val (.int p1)] [])) _
              refine st19 _ ?_
              exact k)
            obtain ⟨fs, hr, hrun, hended, hW, hsame⟩ := X19.leave (v := some (.ref a_DESCENDANT)) (fun h => by rw [Bd.returns] at h; cases h)
            refine ⟨_, _, pre20 _ ?_, hrun, hended, _, _, rfl, ?_, ⟨_, rfl⟩, hW, hsame.mono (by decide) (by decide)⟩
            · show Steps p.tables e below (T19.setTop (mkF m 43 #[.val (.int p1)] [(.ref a_DESCENDANT)])) _
              exact retOut X19 hx Bd.returns rfl (Or.inr (Or.inr (Or.inr (Or.inr ⟨rfl, rfl, rfl⟩)))) (hb hby d1_43) hr
            · show Qpick Z p1 res h0 n0 _ T19.heap _
              rw [e19]
              exact ⟨by rw [← hres]; simp [own_pick, hc1_2, hc10_6, hc19_10, hc28_14, hc37_18], N0, rfl⟩
          · have _ := 0
            have pre21 : ∀ t, Steps p.tables e below (s₁.setTop (mkF m 46 #[.val (.int p1)] [(.int (5 : Int32)), (.int p1)])) t → Steps p.tables e below (s₁.setTop (entryFrame m #[(.int p1)] 1)) t := fun t k => pre17 t (by
              show Steps p.tables e below (s₁.setTop (mkF m 37 #[.val (.int p1)] [(.int (4 : Int32)), (.int p1)])) _
              refine XS.icmpYes X0.here hx rfl (pc0 := 37) (pc' := 44) rfl (hb hby d1_37) rfl (feq hc37_18).2 (by decide) (by decide) ?_
              show Steps p.tables e below (s₁.setTop (mkF m 44 #[.val (.int p1)] [])) _
              refine XS.iloadN X0.here hx rfl (hb hby d1_44) rfl ?_
              show Steps p.tables e below (s₁.setTop (mkF m 45 #[.val (.int p1)] [(.int p1)])) _
              refine XT.iconstV X0.here hx rfl (5 : Int32) (hb hby d1_45) (by decide) ?_
              exact k)
            by_cases hc46_22 : p1 = (5 : Int32)
            · have _ := 0
              obtain ⟨T23, X23, e23, st23⟩ := getS2 X0 hx hZ hown (host := "") (Or.inl (hw _ (List.mem_of_getElem? (i := 29) rfl))) Via.refl e0 S_DESCENDANT_OR_SELF (g := (mkF m 49 #[.val (.int p1)] [])) rfl (hb hby d1_49)
              have pre24 : ∀ t, Steps p.tables e below (T23.setTop (mkF m 52 #[.val (.int p1)] [(.ref a_DESCENDANT_OR_SELF)])) t → Steps p.tables e below (s₁.setTop (entryFrame m #[(.int p1)] 1)) t := fun t k => pre21 t (by
                show Steps p.tables e below (s₁.setTop (mkF m 46 #[.val (.int p1)] [(.int (5 : Int32)), (.int p1)])) _
                refine XS.icmpNo X0.here hx rfl (hb hby d1_46) rfl (teq hc46_22).2 ?_
                show Steps p.tables e below (s₁.setTop (mkF m 49 #[.val (.int p1)] [])) _
                refine st23 _ ?_
                exact k)
              obtain ⟨fs, hr, hrun, hended, hW, hsame⟩ := X23.leave (v := some (.ref a_DESCENDANT_OR_SELF)) (fun h => by rw [Bd.returns] at h; cases h)
              refine ⟨_, _, pre24 _ ?_, hrun, hended, _, _, rfl, ?_, ⟨_, rfl⟩, hW, hsame.mono (by decide) (by decide)⟩
              · show Steps p.tables e below (T23.setTop (mkF m 52 #[.val (.int p1)] [(.ref a_DESCENDANT_OR_SELF)])) _
                exact retOut X23 hx Bd.returns rfl (Or.inr (Or.inr (Or.inr (Or.inr ⟨rfl, rfl, rfl⟩)))) (hb hby d1_52) hr
              · show Qpick Z p1 res h0 n0 _ T23.heap _
                rw [e23]
                exact ⟨by rw [← hres]; simp [own_pick, hc1_2, hc10_6, hc19_10, hc28_14, hc37_18, hc46_22], N0, rfl⟩
            · have _ := 0
              have pre25 : ∀ t, Steps p.tables e below (s₁.setTop (mkF m 56 #[.val (.int p1)] [(.int (6 : Int32)), (.int p1)])) t → Steps p.tables e below (s₁.setTop (entryFrame m #[(.int p1)] 1)) t := fun t k => pre21 t (by
                show Steps p.tables e below (s₁.setTop (mkF m 46 #[.val (.int p1)] [(.int (5 : Int32)), (.int p1)])) _
                refine XS.icmpYes X0.here hx rfl (pc0 := 46) (pc' := 53) rfl (hb hby d1_46) rfl (feq hc46_22).2 (by decide) (by decide) ?_
                show Steps p.tables e below (s₁.setTop (mkF m 53 #[.val (.int p1)] [])) _
                refine XS.iloadN X0.here hx rfl (hb hby d1_53) rfl ?_
                show Steps p.tables e below (s₁.setTop (mkF m 54 #[.val (.int p1)] [(.int p1)])) _
                refine XT.bipushV X0.here hx rfl (6 : Int32) (hb hby d1_54) (by decide) ?_
                exact k)
              by_cases hc56_26 : p1 = (6 : Int32)
              · have _ := 0
                obtain ⟨T27, X27, e27, st27⟩ := getS2 X0 hx hZ hown (host := "") (Or.inl (hw _ (List.mem_of_getElem? (i := 26) rfl))) Via.refl e0 S_FOLLOWING (g := (mkF m 59 #[.val (.int p1)] [])) rfl (hb hby d1_59)
                have pre28 : ∀ t, Steps p.tables e below (T27.setTop (mkF m 62 #[.val (.int p1)] [(.ref a_FOLLOWING)])) t → Steps p.tables e below (s₁.setTop (entryFrame m #[(.int p1)] 1)) t := fun t k => pre25 t (by
                  show Steps p.tables e below (s₁.setTop (mkF m 56 #[.val (.int p1)] [(.int (6 : Int32)), (.int p1)])) _
                  refine XS.icmpNo X0.here hx rfl (hb hby d1_56) rfl (teq hc56_26).2 ?_
                  show Steps p.tables e below (s₁.setTop (mkF m 59 #[.val (.int p1)] [])) _
                  refine st27 _ ?_
                  exact k)
                obtain ⟨fs, hr, hrun, hended, hW, hsame⟩ := X27.leave (v := some (.ref a_FOLLOWING)) (fun h => by rw [Bd.returns] at h; cases h)
                refine ⟨_, _, pre28 _ ?_, hrun, hended, _, _, rfl, ?_, ⟨_, rfl⟩, hW, hsame.mono (by decide) (by decide)⟩
                · show Steps p.tables e below (T27.setTop (mkF m 62 #[.val (.int p1)] [(.ref a_FOLLOWING)])) _
                  exact retOut X27 hx Bd.returns rfl (Or.inr (Or.inr (Or.inr (Or.inr ⟨rfl, rfl, rfl⟩)))) (hb hby d1_62) hr
                · show Qpick Z p1 res h0 n0 _ T27.heap _
                  rw [e27]
                  exact ⟨by rw [← hres]; simp [own_pick, hc1_2, hc10_6, hc19_10, hc28_14, hc37_18, hc46_22, hc56_26], N0, rfl⟩
              · have _ := 0
                have pre29 : ∀ t, Steps p.tables e below (s₁.setTop (mkF m 66 #[.val (.int p1)] [(.int (7 : Int32)), (.int p1)])) t → Steps p.tables e below (s₁.setTop (entryFrame m #[(.int p1)] 1)) t := fun t k => pre25 t (by
                  show Steps p.tables e below (s₁.setTop (mkF m 56 #[.val (.int p1)] [(.int (6 : Int32)), (.int p1)])) _
                  refine XS.icmpYes X0.here hx rfl (pc0 := 56) (pc' := 63) rfl (hb hby d1_56) rfl (feq hc56_26).2 (by decide) (by decide) ?_
                  show Steps p.tables e below (s₁.setTop (mkF m 63 #[.val (.int p1)] [])) _
                  refine XS.iloadN X0.here hx rfl (hb hby d1_63) rfl ?_
                  show Steps p.tables e below (s₁.setTop (mkF m 64 #[.val (.int p1)] [(.int p1)])) _
                  refine XT.bipushV X0.here hx rfl (7 : Int32) (hb hby d1_64) (by decide) ?_
                  exact k)
                by_cases hc66_30 : p1 = (7 : Int32)
                · have _ := 0
                  obtain ⟨T31, X31, e31, st31⟩ := getS2 X0 hx hZ hown (host := "") (Or.inl (hw _ (List.mem_of_getElem? (i := 32) rfl))) Via.refl e0 S_FOLLOWING_SIBLING (g := (mkF m 69 #[.val (.int p1)] [])) rfl (hb hby d1_69)
                  have pre32 : ∀ t, Steps p.tables e below (T31.setTop (mkF m 72 #[.val (.int p1)] [(.ref a_FOLLOWING_SIBLING)])) t → Steps p.tables e below (s₁.setTop (entryFrame m #[(.int p1)] 1)) t := fun t k => pre29 t (by
                    show Steps p.tables e below (s₁.setTop (mkF m 66 #[.val (.int p1)] [(.int (7 : Int32)), (.int p1)])) _
                    refine XS.icmpNo X0.here hx rfl (hb hby d1_66) rfl (teq hc66_30).2 ?_
                    show Steps p.tables e below (s₁.setTop (mkF m 69 #[.val (.int p1)] [])) _
                    refine st31 _ ?_
                    exact k)
                  obtain ⟨fs, hr, hrun, hended, hW, hsame⟩ := X31.leave (v := some (.ref a_FOLLOWING_SIBLING)) (fun h => by rw [Bd.returns] at h; cases h)
                  refine ⟨_, _, pre32 _ ?_, hrun, hended, _, _, rfl, ?_, ⟨_, rfl⟩, hW, hsame.mono (by decide) (by decide)⟩
                  · show Steps p.tables e below (T31.setTop (mkF m 72 #[.val (.int p1)] [(.ref a_FOLLOWING_SIBLING)])) _
                    exact retOut X31 hx Bd.returns rfl (Or.inr (Or.inr (Or.inr (Or.inr ⟨rfl, rfl, rfl⟩)))) (hb hby d1_72) hr
                  · show Qpick Z p1 res h0 n0 _ T31.heap _
                    rw [e31]
                    exact ⟨by rw [← hres]; simp [own_pick, hc1_2, hc10_6, hc19_10, hc28_14, hc37_18, hc46_22, hc56_26, hc66_30], N0, rfl⟩
                · have _ := 0
                  have pre33 : ∀ t, Steps p.tables e below (s₁.setTop (mkF m 76 #[.val (.int p1)] [(.int (8 : Int32)), (.int p1)])) t → Steps p.tables e below (s₁.setTop (entryFrame m #[(.int p1)] 1)) t := fun t k => pre29 t (by
                    show Steps p.tables e below (s₁.setTop (mkF m 66 #[.val (.int p1)] [(.int (7 : Int32)), (.int p1)])) _
                    refine XS.icmpYes X0.here hx rfl (pc0 := 66) (pc' := 73) rfl (hb hby d1_66) rfl (feq hc66_30).2 (by decide) (by decide) ?_
                    show Steps p.tables e below (s₁.setTop (mkF m 73 #[.val (.int p1)] [])) _
                    refine XS.iloadN X0.here hx rfl (hb hby d1_73) rfl ?_
                    show Steps p.tables e below (s₁.setTop (mkF m 74 #[.val (.int p1)] [(.int p1)])) _
                    refine XT.bipushV X0.here hx rfl (8 : Int32) (hb hby d1_74) (by decide) ?_
                    exact k)
                  by_cases hc76_34 : p1 = (8 : Int32)
                  · have _ := 0
                    obtain ⟨T35, X35, e35, st35⟩ := getS2 X0 hx hZ hown (host := "") (Or.inl (hw _ (List.mem_of_getElem? (i := 46) rfl))) Via.refl e0 S_NAMESPACE (g := (mkF m 79 #[.val (.int p1)] [])) rfl (hb hby d1_79)
                    have pre36 : ∀ t, Steps p.tables e below (T35.setTop (mkF m 82 #[.val (.int p1)] [(.ref a_NAMESPACE)])) t → Steps p.tables e below (s₁.setTop (entryFrame m #[(.int p1)] 1)) t := fun t k => pre33 t (by
                      show Steps p.tables e below (s₁.setTop (mkF m 76 #[.val (.int p1)] [(.int (8 : Int32)), (.int p1)])) _
                      refine XS.icmpNo X0.here hx rfl (hb hby d1_76) rfl (teq hc76_34).2 ?_
                      show Steps p.tables e below (s₁.setTop (mkF m 79 #[.val (.int p1)] [])) _
                      refine st35 _ ?_
                      exact k)
                    obtain ⟨fs, hr, hrun, hended, hW, hsame⟩ := X35.leave (v := some (.ref a_NAMESPACE)) (fun h => by rw [Bd.returns] at h; cases h)
                    refine ⟨_, _, pre36 _ ?_, hrun, hended, _, _, rfl, ?_, ⟨_, rfl⟩, hW, hsame.mono (by decide) (by decide)⟩
                    · show Steps p.tables e below (T35.setTop (mkF m 82 #[.val (.int p1)] [(.ref a_NAMESPACE)])) _
                      exact retOut X35 hx Bd.returns rfl (Or.inr (Or.inr (Or.inr (Or.inr ⟨rfl, rfl, rfl⟩)))) (hb hby d1_82) hr
                    · show Qpick Z p1 res h0 n0 _ T35.heap _
                      rw [e35]
                      exact ⟨by rw [← hres]; simp [own_pick, hc1_2, hc10_6, hc19_10, hc28_14, hc37_18, hc46_22, hc56_26, hc66_30, hc76_34], N0, rfl⟩
                  · have _ := 0
                    have pre37 : ∀ t, Steps p.tables e below (s₁.setTop (mkF m 86 #[.val (.int p1)] [(.int (9 : Int32)), (.int p1)])) t → Steps p.tables e below (s₁.setTop (entryFrame m #[(.int p1)] 1)) t := fun t k => pre33 t (by
                      show Steps p.tables e below (s₁.setTop (mkF m 76 #[.val (.int p1)] [(.int (8 : Int32)), (.int p1)])) _
                      refine XS.icmpYes X0.here hx rfl (pc0 := 76) (pc' := 83) rfl (hb hby d1_76) rfl (feq hc76_34).2 (by decide) (by decide) ?_
                      show Steps p.tables e below (s₁.setTop (mkF m 83 #[.val (.int p1)] [])) _
                      refine XS.iloadN X0.here hx rfl (hb hby d1_83) rfl ?_
                      show Steps p.tables e below (s₁.setTop (mkF m 84 #[.val (.int p1)] [(.int p1)])) _
                      refine XT.bipushV X0.here hx rfl (9 : Int32) (hb hby d1_84) (by decide) ?_
                      exact k)
                    by_cases hc86_38 : p1 = (9 : Int32)
                    · have _ := 0
                      obtain ⟨T39, X39, e39, st39⟩ := getS2 X0 hx hZ hown (host := "") (Or.inl (hw _ (List.mem_of_getElem? (i := 35) rfl))) Via.refl e0 S_PARENT (g := (mkF m 89 #[.val (.int p1)] [])) rfl (hb hby d1_89)
                      have pre40 : ∀ t, Steps p.tables e below (T39.setTop (mkF m 92 #[.val (.int p1)] [(.ref a_PARENT)])) t → Steps p.tables e below (s₁.setTop (entryFrame m #[(.int p1)] 1)) t := fun t k => pre37 t (by
                        show Steps p.tables e below (s₁.setTop (mkF m 86 #[.val (.int p1)] [(.int (9 : Int32)), (.int p1)])) _
                        refine XS.icmpNo X0.here hx rfl (hb hby d1_86) rfl (teq hc86_38).2 ?_
                        show Steps p.tables e below (s₁.setTop (mkF m 89 #[.val (.int p1)] [])) _
                        refine st39 _ ?_
                        exact k)
                      obtain ⟨fs, hr, hrun, hended, hW, hsame⟩ := X39.leave (v := some (.ref a_PARENT)) (fun h => by rw [Bd.returns] at h; cases h)
                      refine ⟨_, _, pre40 _ ?_, hrun, hended, _, _, rfl, ?_, ⟨_, rfl⟩, hW, hsame.mono (by decide) (by decide)⟩
                      · show Steps p.tables e below (T39.setTop (mkF m 92 #[.val (.int p1)] [(.ref a_PARENT)])) _
                        exact retOut X39 hx Bd.returns rfl (Or.inr (Or.inr (Or.inr (Or.inr ⟨rfl, rfl, rfl⟩)))) (hb hby d1_92) hr
                      · show Qpick Z p1 res h0 n0 _ T39.heap _
                        rw [e39]
                        exact ⟨by rw [← hres]; simp [own_pick, hc1_2, hc10_6, hc19_10, hc28_14, hc37_18, hc46_22, hc56_26, hc66_30, hc76_34, hc86_38], N0, rfl⟩
                    · have _ := 0
                      have pre41 : ∀ t, Steps p.tables e below (s₁.setTop (mkF m 96 #[.val (.int p1)] [(.int (10 : Int32)), (.int p1)])) t → Steps p.tables e below (s₁.setTop (entryFrame m #[(.int p1)] 1)) t := fun t k => pre37 t (by
                        show Steps p.tables e below (s₁.setTop (mkF m 86 #[.val (.int p1)] [(.int (9 : Int32)), (.int p1)])) _
                        refine XS.icmpYes X0.here hx rfl (pc0 := 86) (pc' := 93) rfl (hb hby d1_86) rfl (feq hc86_38).2 (by decide) (by decide) ?_
                        show Steps p.tables e below (s₁.setTop (mkF m 93 #[.val (.int p1)] [])) _
                        refine XS.iloadN X0.here hx rfl (hb hby d1_93) rfl ?_
                        show Steps p.tables e below (s₁.setTop (mkF m 94 #[.val (.int p1)] [(.int p1)])) _
                        refine XT.bipushV X0.here hx rfl (10 : Int32) (hb hby d1_94) (by decide) ?_
                        exact k)
                      by_cases hc96_42 : p1 = (10 : Int32)
                      · have _ := 0
                        obtain ⟨T43, X43, e43, st43⟩ := getS2 X0 hx hZ hown (host := "") (Or.inl (hw _ (List.mem_of_getElem? (i := 48) rfl))) Via.refl e0 S_PRECEDING (g := (mkF m 99 #[.val (.int p1)] [])) rfl (hb hby d1_99)
                        have pre44 : ∀ t, Steps p.tables e below (T43.setTop (mkF m 102 #[.val (.int p1)] [(.ref a_PRECEDING)])) t → Steps p.tables e below (s₁.setTop (entryFrame m #[(.int p1)] 1)) t := fun t k => pre41 t (by
                          show Steps p.tables e below (s₁.setTop (mkF m 96 #[.val (.int p1)] [(.int (10 : Int32)), (.int p1)])) _
                          refine XS.icmpNo X0.here hx rfl (hb hby d1_96) rfl (teq hc96_42).2 ?_
                          show Steps p.tables e below (s₁.setTop (mkF m 99 #[.val (.int p1)] [])) _
                          refine st43 _ ?_
                          exact k)
                        obtain ⟨fs, hr, hrun, hended, hW, hsame⟩ := X43.leave (v := some (.ref a_PRECEDING)) (fun h => by rw [Bd.returns] at h; cases h)
                        refine ⟨_, _, pre44 _ ?_, hrun, hended, _, _, rfl, ?_, ⟨_, rfl⟩, hW, hsame.mono (by decide) (by decide)⟩
                        · show Steps p.tables e below (T43.setTop (mkF m 102 #[.val (.int p1)] [(.ref a_PRECEDING)])) _
                          exact retOut X43 hx Bd.returns rfl (Or.inr (Or.inr (Or.inr (Or.inr ⟨rfl, rfl, rfl⟩)))) (hb hby d1_102) hr
                        · show Qpick Z p1 res h0 n0 _ T43.heap _
                          rw [e43]
                          exact ⟨by rw [← hres]; simp [own_pick, hc1_2, hc10_6, hc19_10, hc28_14, hc37_18, hc46_22, hc56_26, hc66_30, hc76_34, hc86_38, hc96_42], N0, rfl⟩
                      · have _ := 0
                        have pre45 : ∀ t, Steps p.tables e below (s₁.setTop (mkF m 106 #[.val (.int p1)] [(.int (11 : Int32)), (.int p1)])) t → Steps p.tables e below (s₁.setTop (entryFrame m #[(.int p1)] 1)) t := fun t k => pre41 t (by
                          show Steps p.tables e below (s₁.setTop (mkF m 96 #[.val (.int p1)] [(.int (10 : Int32)), (.int p1)])) _
                          refine XS.icmpYes X0.here hx rfl (pc0 := 96) (pc' := 103) rfl (hb hby d1_96) rfl (feq hc96_42).2 (by decide) (by decide) ?_
                          show Steps p.tables e below (s₁.setTop (mkF m 103 #[.val (.int p1)] [])) _
                          refine XS.iloadN X0.here hx rfl (hb hby d1_103) rfl ?_
                          show Steps p.tables e below (s₁.setTop (mkF m 104 #[.val (.int p1)] [(.int p1)])) _
                          refine XT.bipushV X0.here hx rfl (11 : Int32) (hb hby d1_104) (by decide) ?_
                          exact k)
                        by_cases hc106_46 : p1 = (11 : Int32)
                        · have _ := 0
                          obtain ⟨T47, X47, e47, st47⟩ := getS2 X0 hx hZ hown (host := "") (Or.inl (hw _ (List.mem_of_getElem? (i := 40) rfl))) Via.refl e0 S_PRECEDING_SIBLING (g := (mkF m 109 #[.val (.int p1)] [])) rfl (hb hby d1_109)
                          have pre48 : ∀ t, Steps p.tables e below (T47.setTop (mkF m 112 #[.val (.int p1)] [(.ref a_PRECEDING_SIBLING)])) t → Steps p.tables e below (s₁.setTop (entryFrame m #[(.int p1)] 1)) t := fun t k => pre45 t (by
                            show Steps p.tables e below (s₁.setTop (mkF m 106 #[.val (.int p1)] [(.int (11 : Int32)), (.int p1)])) _
                            refine XS.icmpNo X0.here hx rfl (hb hby d1_106) rfl (teq hc106_46).2 ?_
                            show Steps p.tables e below (s₁.setTop (mkF m 109 #[.val (.int p1)] [])) _
                            refine st47 _ ?_
                            exact k)
                          obtain ⟨fs, hr, hrun, hended, hW, hsame⟩ := X47.leave (v := some (.ref a_PRECEDING_SIBLING)) (fun h => by rw [Bd.returns] at h; cases h)
                          refine ⟨_, _, pre48 _ ?_, hrun, hended, _, _, rfl, ?_, ⟨_, rfl⟩, hW, hsame.mono (by decide) (by decide)⟩
                          · show Steps p.tables e below (T47.setTop (mkF m 112 #[.val (.int p1)] [(.ref a_PRECEDING_SIBLING)])) _
                            exact retOut X47 hx Bd.returns rfl (Or.inr (Or.inr (Or.inr (Or.inr ⟨rfl, rfl, rfl⟩)))) (hb hby d1_112) hr
                          · show Qpick Z p1 res h0 n0 _ T47.heap _
                            rw [e47]
                            exact ⟨by rw [← hres]; simp [own_pick, hc1_2, hc10_6, hc19_10, hc28_14, hc37_18, hc46_22, hc56_26, hc66_30, hc76_34, hc86_38, hc96_42, hc106_46], N0, rfl⟩
                        · have _ := 0
                          obtain ⟨T49, X49, e49, st49⟩ := getS2 X0 hx hZ hown (host := "") (Or.inl (hw _ (List.mem_of_getElem? (i := 51) rfl))) Via.refl e0 S_SELF (g := (mkF m 113 #[.val (.int p1)] [])) rfl (hb hby d1_113)
                          have pre50 : ∀ t, Steps p.tables e below (T49.setTop (mkF m 116 #[.val (.int p1)] [(.ref a_SELF)])) t → Steps p.tables e below (s₁.setTop (entryFrame m #[(.int p1)] 1)) t := fun t k => pre45 t (by
                            show Steps p.tables e below (s₁.setTop (mkF m 106 #[.val (.int p1)] [(.int (11 : Int32)), (.int p1)])) _
                            refine XS.icmpYes X0.here hx rfl (pc0 := 106) (pc' := 113) rfl (hb hby d1_106) rfl (feq hc106_46).2 (by decide) (by decide) ?_
                            show Steps p.tables e below (s₁.setTop (mkF m 113 #[.val (.int p1)] [])) _
                            refine st49 _ ?_
                            exact k)
                          obtain ⟨fs, hr, hrun, hended, hW, hsame⟩ := X49.leave (v := some (.ref a_SELF)) (fun h => by rw [Bd.returns] at h; cases h)
                          refine ⟨_, _, pre50 _ ?_, hrun, hended, _, _, rfl, ?_, ⟨_, rfl⟩, hW, hsame.mono (by decide) (by decide)⟩
                          · show Steps p.tables e below (T49.setTop (mkF m 116 #[.val (.int p1)] [(.ref a_SELF)])) _
                            exact retOut X49 hx Bd.returns rfl (Or.inr (Or.inr (Or.inr (Or.inr ⟨rfl, rfl, rfl⟩)))) (hb hby d1_116) hr
                          · show Qpick Z p1 res h0 n0 _ T49.heap _
                            rw [e49]
                            exact ⟨by rw [← hres]; simp [own_pick, hc1_2, hc10_6, hc19_10, hc28_14, hc37_18, hc46_22, hc56_26, hc66_30, hc76_34, hc86_38, hc96_42, hc106_46], N0, rfl⟩
def own_fin (a b0 b1 b2 b3 : Addr) : Int32 := if a = b0 then (1 : Int32) else if a = b1 then (1 : Int32) else if a = b2 then (1 : Int32) else if a = b3 then (1 : Int32) else (0 : Int32)
def Qfin (Z : State) (r1 : Addr) (res : Int32) (h0 : Heap) (n0 : Nat) (v : Option Value) (h : Heap) (L : List Loc) : Prop := v = some (.int res) ∧ Fr n0 L ∧ h = h0
theorem pn_2 : plainName "org/beanpath/expr/Axis" = true := by first | (simp [plainName, overriddenIn]; done) | decide +kernel
theorem ef_rm_fin (m : MethodId) (x0 : Addr) : entryFrame m #[(.ref x0)] 1 = mkF m 0 #[.val (.ref x0)] [] := by first | (simp [entryFrame, mkF, argsToLocals, Value.category]; done) | rfl
set_option maxRecDepth 65536 in
set_option maxHeartbeats 40000000 in
theorem rm_fin (l : Launch) (Z : State) (a0 : Array Value) (hw : ∀ d ∈ tables_1, d.before a0 Z = true) (ws : List Jvm.Cond) (r1 : Addr) (h0 : Heap) (n0 : Nat) (Z0 : n0 ≤ h0.size) (a_CHILD : Addr) (S_CHILD : Sta Z h0 "org/beanpath/expr/Axis" "CHILD" "Lorg/beanpath/expr/Axis;" (.ref a_CHILD)) (a_DESCENDANT : Addr) (S_DESCENDANT : Sta Z h0 "org/beanpath/expr/Axis" "DESCENDANT" "Lorg/beanpath/expr/Axis;" (.ref a_DESCENDANT)) (a_ATTRIBUTE : Addr) (S_ATTRIBUTE : Sta Z h0 "org/beanpath/expr/Axis" "ATTRIBUTE" "Lorg/beanpath/expr/Axis;" (.ref a_ATTRIBUTE)) (a_NAMESPACE : Addr) (S_NAMESPACE : Sta Z h0 "org/beanpath/expr/Axis" "NAMESPACE" "Lorg/beanpath/expr/Axis;" (.ref a_NAMESPACE)) (res : Int32) (hres : own_fin r1 a_CHILD a_DESCENDANT a_ATTRIBUTE a_NAMESPACE = res) :
    MetFree l (⟨"org/beanpath/expr/Axis", "isEmptyFromText", "()Z"⟩ : MethodName) (head1 (Jvm.Cond.code (⟨"org/beanpath/expr/Axis", "isEmptyFromText", "()Z"⟩ : MethodName) prog_14_method_11_code 1 (some .boolean) :: ws) ({ frames := 0, cells := 0, slots := 0, locals := 0 } : Room)) (fun a U => a = #[(.ref r1)] ∧ Z.Warmed39 U.vm ∧ U.heap = h0) (fun _ _ _ _ _ => True) (fun _ U o U' => ∃ v L, o = .returned v ∧ Qfin Z r1 res h0 n0 v U'.heap L ∧ FrameEnd U o U' L ({ frames := 0, cells := 0, slots := 0, locals := 0 } : Room).cells ({ frames := 0, cells := 0, slots := 0, locals := 0 } : Room).slots) := by
  refine MetFree.of_bodySF (plainFor_of_name pn_2) hisR ?_
  intro p e s m args below meth c s₁ Bd hml0 hP hK
  obtain ⟨rfl, hZ, hh⟩ := hP
  have hx := Bd.exec
  have hby := Bd.bytes
  have hml : c.maxLocals = 1 := hml0
  have hown : s.vm.findClass "org/beanpath/expr/Axis" = some m.cls := findClass_of_methodNamed Bd.named
  have hnm := (name_of_methodNamed Bd.named Bd.method).1
  have X0 : Stand p l e ({ frames := 0, cells := 0, slots := 0, locals := 0 } : Room) s m #[(.ref r1)] below meth c s₁ [] 0 0 := Stand.of_body Bd
  have e0 : s₁.heap = h0 := by rw [← hh, Bd.state]; rfl
  have N0 := Fr.nil n0
  have pre0 : ∀ t, Steps p.tables e below (s₁.setTop (mkF m 0 #[.val (.ref r1)] [])) t → Steps p.tables e below (s₁.setTop (entryFrame m #[(.ref r1)] 1)) t := fun t k => castTop (ef_rm_fin m r1) k
  obtain ⟨T1, X1, e1, st1⟩ := getS2 X0 hx hZ hown (host := "") (Or.inl (hw _ (List.mem_of_getElem? (i := 13) rfl))) Via.refl e0 S_CHILD (g := (mkF m 1 #[.val (.ref r1)] [(.ref r1)])) rfl (hb hby d2_1)
  have pre2 : ∀ t, Steps p.tables e below (T1.setTop (mkF m 4 #[.val (.ref r1)] [(.ref a_CHILD), (.ref r1)])) t → Steps p.tables e below (s₁.setTop (entryFrame m #[(.ref r1)] 1)) t := fun t k => pre0 t (by
    show Steps p.tables e below (s₁.setTop (mkF m 0 #[.val (.ref r1)] [])) _
    refine XS.aloadN X0.here hx rfl (hb hby d2_0) rfl rfl ?_
    show Steps p.tables e below (s₁.setTop (mkF m 1 #[.val (.ref r1)] [(.ref r1)])) _
    refine st1 _ ?_
    exact k)
  by_cases ha4_3 : r1 = a_CHILD
  · have _ := 0
    have pre4 : ∀ t, Steps p.tables e below (T1.setTop (mkF m 33 #[.val (.ref r1)] [(.int (1 : Int32))])) t → Steps p.tables e below (s₁.setTop (entryFrame m #[(.ref r1)] 1)) t := fun t k => pre2 t (by
      show Steps p.tables e below (T1.setTop (mkF m 4 #[.val (.ref r1)] [(.ref a_CHILD), (.ref r1)])) _
      refine Jvm.RoadKit.acmp (g := (mkF m 4 #[.val (.ref r1)] [(.ref a_CHILD), (.ref r1)])) X1 hx rfl rfl rfl (pc0 := 4) (pc' := 28) (same := true) rfl (hb hby d2_4) rfl (decide_eq_true (congrArg Value.ref ha4_3)) (by decide) (by decide) ?_
      show Steps p.tables e below (T1.setTop (mkF m 28 #[.val (.ref r1)] [])) _
      refine XT.iconstV X1.here hx rfl (1 : Int32) (hb hby d2_28) (by decide) ?_
      show Steps p.tables e below (T1.setTop (mkF m 29 #[.val (.ref r1)] [(.int (1 : Int32))])) _
      refine XS.goto X1.here hx rfl (pc0 := 29) (pc' := 33) rfl (hb hby d2_29) (by decide) (by decide) ?_
      exact k)
    obtain ⟨fs, hr, hrun, hended, hW, hsame⟩ := X1.leave (v := some (.int (1 : Int32))) (fun h => by rw [Bd.returns] at h; cases h)
    refine ⟨_, _, pre4 _ ?_, hrun, hended, _, _, rfl, ?_, ⟨_, rfl⟩, hW, hsame.mono (by decide) (by decide)⟩
    · show Steps p.tables e below (T1.setTop (mkF m 33 #[.val (.ref r1)] [(.int (1 : Int32))])) _
      exact retOut X1 hx Bd.returns rfl (Or.inl ⟨rfl, by simp, _, rfl⟩) (hb hby d2_33) hr
    · show Qfin Z r1 res h0 n0 _ T1.heap _
      rw [e1]
      exact ⟨by rw [← hres]; simp [own_fin, ha4_3], N0, rfl⟩
  · have _ := 0
    obtain ⟨T5, X5, e5, st5⟩ := getS2 X1 hx hZ hown (host := "") (Or.inl (hw _ (List.mem_of_getElem? (i := 15) rfl))) Via.refl e1 S_DESCENDANT (g := (mkF m 8 #[.val (.ref r1)] [(.ref r1)])) rfl (hb hby d2_8)
    have pre6 : ∀ t, Steps p.tables e below (T5.setTop (mkF m 11 #[.val (.ref r1)] [(.ref a_DESCENDANT), (.ref r1)])) t → Steps p.tables e below (s₁.setTop (entryFrame m #[(.ref r1)] 1)) t := fun t k => pre2 t (by
      show Steps p.tables e below (T1.setTop (mkF m 4 #[.val (.ref r1)] [(.ref a_CHILD), (.ref r1)])) _
      refine Jvm.RoadKit.acmp (g := (mkF m 4 #[.val (.ref r1)] [(.ref a_CHILD), (.ref r1)])) X1 hx rfl rfl rfl (pc0 := 4) (pc' := 7) (same := false) rfl (hb hby d2_4) rfl (decide_eq_false fun qh_ => ha4_3 (Value.ref.inj qh_)) (by decide) (by decide) ?_
      show Steps p.tables e below (T1.setTop (mkF m 7 #[.val (.ref r1)] [])) _
      refine XS.aloadN X1.here hx rfl (hb hby d2_7) rfl rfl ?_
      show Steps p.tables e below (T1.setTop (mkF m 8 #[.val (.ref r1)] [(.ref r1)])) _
      refine st5 _ ?_
      exact k)
    by_cases ha11_7 : r1 = a_DESCENDANT
    · have _ := 0
      have pre8 : ∀ t, Steps p.tables e below (T5.setTop (mkF m 33 #[.val (.ref r1)] [(.int (1 : Int32))])) t → Steps p.tables e below (s₁.setTop (entryFrame m #[(.ref r1)] 1)) t := fun t k => pre6 t (by
        show Steps p.tables e below (T5.setTop (mkF m 11 #[.val (.ref r1)] [(.ref a_DESCENDANT), (.ref r1)])) _
        refine Jvm.RoadKit.acmp (g := (mkF m 11 #[.val (.ref r1)] [(.ref a_DESCENDANT), (.ref r1)])) X5 hx rfl rfl rfl (pc0 := 11) (pc' := 28) (same := true) rfl (hb hby d2_11) rfl (decide_eq_true (congrArg Value.ref ha11_7)) (by decide) (by decide) ?_
        show Steps p.tables e below (T5.setTop (mkF m 28 #[.val (.ref r1)] [])) _
        refine XT.iconstV X5.here hx rfl (1 : Int32) (hb hby d2_28) (by decide) ?_
        show Steps p.tables e below (T5.setTop (mkF m 29 #[.val (.ref r1)] [(.int (1 : Int32))])) _
        refine XS.goto X5.here hx rfl (pc0 := 29) (pc' := 33) rfl (hb hby d2_29) (by decide) (by decide) ?_
        exact k)
      obtain ⟨fs, hr, hrun, hended, hW, hsame⟩ := X5.leave (v := some (.int (1 : Int32))) (fun h => by rw [Bd.returns] at h; cases h)
      refine ⟨_, _, pre8 _ ?_, hrun, hended, _, _, rfl, ?_, ⟨_, rfl⟩, hW, hsame.mono (by decide) (by decide)⟩
      · show Steps p.tables e below (T5.setTop (mkF m 33 #[.val (.ref r1)] [(.int (1 : Int32))])) _
        exact retOut X5 hx Bd.returns rfl (Or.inl ⟨rfl, by simp, _, rfl⟩) (hb hby d2_33) hr
      · show Qfin Z r1 res h0 n0 _ T5.heap _
        rw [e5]
        exact ⟨by rw [← hres]; simp [own_fin, ha4_3, ha11_7], N0, rfl⟩
    · have _ := 0
      obtain ⟨T9, X9, e9, st9⟩ := getS2 X5 hx hZ hown (host := "") (Or.inl (hw _ (List.mem_of_getElem? (i := 17) rfl))) Via.refl e5 S_ATTRIBUTE (g := (mkF m 15 #[.val (.ref r1)] [(.ref r1)])) rfl (hb hby d2_15)
      have pre10 : ∀ t, Steps p.tables e below (T9.setTop (mkF m 18 #[.val (.ref r1)] [(.ref a_ATTRIBUTE), (.ref r1)])) t → Steps p.tables e below (s₁.setTop (entryFrame m #[(.ref r1)] 1)) t := fun t k => pre6 t (by
        show Steps p.tables e below (T5.setTop (mkF m 11 #[.val (.ref r1)] [(.ref a_DESCENDANT), (.ref r1)])) _
        refine Jvm.RoadKit.acmp (g := (mkF m 11 #[.val (.ref r1)] [(.ref a_DESCENDANT), (.ref r1)])) X5 hx rfl rfl rfl (pc0 := 11) (pc' := 14) (same := false) rfl (hb hby d2_11) rfl (decide_eq_false fun qh_ => ha11_7 (Value.ref.inj qh_)) (by decide) (by decide) ?_
        show Steps p.tables e below (T5.setTop (mkF m 14 #[.val (.ref r1)] [])) _
        refine XS.aloadN X5.here hx rfl (hb hby d2_14) rfl rfl ?_
        show Steps p.tables e below (T5.setTop (mkF m 15 #[.val (.ref r1)] [(.ref r1)])) _
        refine st9 _ ?_
        exact k)
      by_cases ha18_11 : r1 = a_ATTRIBUTE
      · have _ := 0
        have pre12 : ∀ t, Steps p.tables e below (T9.setTop (mkF m 33 #[.val (.ref r1)] [(.int (1 : Int32))])) t → Steps p.tables e below (s₁.setTop (entryFrame m #[(.ref r1)] 1)) t := fun t k => pre10 t (by
          show Steps p.tables e below (T9.setTop (mkF m 18 #[.val (.ref r1)] [(.ref a_ATTRIBUTE), (.ref r1)])) _
          refine Jvm.RoadKit.acmp (g := (mkF m 18 #[.val (.ref r1)] [(.ref a_ATTRIBUTE), (.ref r1)])) X9 hx rfl rfl rfl (pc0 := 18) (pc' := 28) (same := true) rfl (hb hby d2_18) rfl (decide_eq_true (congrArg Value.ref ha18_11)) (by decide) (by decide) ?_
          show Steps p.tables e below (T9.setTop (mkF m 28 #[.val (.ref r1)] [])) _
          refine XT.iconstV X9.here hx rfl (1 : Int32) (hb hby d2_28) (by decide) ?_
          show Steps p.tables e below (T9.setTop (mkF m 29 #[.val (.ref r1)] [(.int (1 : Int32))])) _
          refine XS.goto X9.here hx rfl (pc0 := 29) (pc' := 33) rfl (hb hby d2_29) (by decide) (by decide) ?_
          exact k)
        obtain ⟨fs, hr, hrun, hended, hW, hsame⟩ := X9.leave (v := some (.int (1 : Int32))) (fun h => by rw [Bd.returns] at h; cases h)
        refine ⟨_, _, pre12 _ ?_, hrun, hended, _, _, rfl, ?_, ⟨_, rfl⟩, hW, hsame.mono (by decide) (by decide)⟩
        · show Steps p.tables e below (T9.setTop (mkF m 33 #[.val (.ref r1)] [(.int (1 : Int32))])) _
          exact retOut X9 hx Bd.returns rfl (Or.inl ⟨rfl, by simp, _, rfl⟩) (hb hby d2_33) hr
        · show Qfin Z r1 res h0 n0 _ T9.heap _
          rw [e9]
          exact ⟨by rw [← hres]; simp [own_fin, ha4_3, ha11_7, ha18_11], N0, rfl⟩
      · have _ := 0
        obtain ⟨T13, X13, e13, st13⟩ := getS2 X9 hx hZ hown (host := "") (Or.inl (hw _ (List.mem_of_getElem? (i := 19) rfl))) Via.refl e9 S_NAMESPACE (g := (mkF m 22 #[.val (.ref r1)] [(.ref r1)])) rfl (hb hby d2_22)
        have pre14 : ∀ t, Steps p.tables e below (T13.setTop (mkF m 25 #[.val (.ref r1)] [(.ref a_NAMESPACE), (.ref r1)])) t → Steps p.tables e below (s₁.setTop (entryFrame m #[(.ref r1)] 1)) t := fun t k => pre10 t (by
          show Steps p.tables e below (T9.setTop (mkF m 18 #[.val (.ref r1)] [(.ref a_ATTRIBUTE), (.ref r1)])) _
          refine Jvm.RoadKit.acmp (g := (mkF m 18 #[.val (.ref r1)] [(.ref a_ATTRIBUTE), (.ref r1)])) X9 hx rfl rfl rfl (pc0 := 18) (pc' := 21) (same := false) rfl (hb hby d2_18) rfl (decide_eq_false fun qh_ => ha18_11 (Value.ref.inj qh_)) (by decide) (by decide) ?_
          show Steps p.tables e below (T9.setTop (mkF m 21 #[.val (.ref r1)] [])) _
          refine XS.aloadN X9.here hx rfl (hb hby d2_21) rfl rfl ?_
          show Steps p.tables e below (T9.setTop (mkF m 22 #[.val (.ref r1)] [(.ref r1)])) _
          refine st13 _ ?_
          exact k)
        by_cases ha25_15 : r1 = a_NAMESPACE
        · have _ := 0
          have pre16 : ∀ t, Steps p.tables e below (T13.setTop (mkF m 33 #[.val (.ref r1)] [(.int (1 : Int32))])) t → Steps p.tables e below (s₁.setTop (entryFrame m #[(.ref r1)] 1)) t := fun t k => pre14 t (by
            show Steps p.tables e below (T13.setTop (mkF m 25 #[.val (.ref r1)] [(.ref a_NAMESPACE), (.ref r1)])) _
            refine Jvm.RoadKit.acmp (g := (mkF m 25 #[.val (.ref r1)] [(.ref a_NAMESPACE), (.ref r1)])) X13 hx rfl rfl rfl (pc0 := 25) (pc' := 28) (same := true) rfl (hb hby d2_25) rfl (decide_eq_true (congrArg Value.ref ha25_15)) (by decide) (by decide) ?_
            show Steps p.tables e below (T13.setTop (mkF m 28 #[.val (.ref r1)] [])) _
            refine XT.iconstV X13.here hx rfl (1 : Int32) (hb hby d2_28) (by decide) ?_
            show Steps p.tables e below (T13.setTop (mkF m 29 #[.val (.ref r1)] [(.int (1 : Int32))])) _
            refine XS.goto X13.here hx rfl (pc0 := 29) (pc' := 33) rfl (hb hby d2_29) (by decide) (by decide) ?_
            exact k)
          obtain ⟨fs, hr, hrun, hended, hW, hsame⟩ := X13.leave (v := some (.int (1 : Int32))) (fun h => by rw [Bd.returns] at h; cases h)
          refine ⟨_, _, pre16 _ ?_, hrun, hended, _, _, rfl, ?_, ⟨_, rfl⟩, hW, hsame.mono (by decide) (by decide)⟩
          · show Steps p.tables e below (T13.setTop (mkF m 33 #[.val (.ref r1)] [(.int (1 : Int32))])) _
            exact retOut X13 hx Bd.returns rfl (Or.inl ⟨rfl, by simp, _, rfl⟩) (hb hby d2_33) hr
          · show Qfin Z r1 res h0 n0 _ T13.heap _
            rw [e13]
            exact ⟨by rw [← hres]; simp [own_fin, ha4_3, ha11_7, ha18_11, ha25_15], N0, rfl⟩
        · have _ := 0
          have pre17 : ∀ t, Steps p.tables e below (T13.setTop (mkF m 33 #[.val (.ref r1)] [(.int (0 : Int32))])) t → Steps p.tables e below (s₁.setTop (entryFrame m #[(.ref r1)] 1)) t := fun t k => pre14 t (by
            show Steps p.tables e below (T13.setTop (mkF m 25 #[.val (.ref r1)] [(.ref a_NAMESPACE), (.ref r1)])) _
            refine Jvm.RoadKit.acmp (g := (mkF m 25 #[.val (.ref r1)] [(.ref a_NAMESPACE), (.ref r1)])) X13 hx rfl rfl rfl (pc0 := 25) (pc' := 32) (same := false) rfl (hb hby d2_25) rfl (decide_eq_false fun qh_ => ha25_15 (Value.ref.inj qh_)) (by decide) (by decide) ?_
            show Steps p.tables e below (T13.setTop (mkF m 32 #[.val (.ref r1)] [])) _
            refine XT.iconstV X13.here hx rfl (0 : Int32) (hb hby d2_32) (by decide) ?_
            exact k)
          obtain ⟨fs, hr, hrun, hended, hW, hsame⟩ := X13.leave (v := some (.int (0 : Int32))) (fun h => by rw [Bd.returns] at h; cases h)
          refine ⟨_, _, pre17 _ ?_, hrun, hended, _, _, rfl, ?_, ⟨_, rfl⟩, hW, hsame.mono (by decide) (by decide)⟩
          · show Steps p.tables e below (T13.setTop (mkF m 33 #[.val (.ref r1)] [(.int (0 : Int32))])) _
            exact retOut X13 hx Bd.returns rfl (Or.inl ⟨rfl, by simp, _, rfl⟩) (hb hby d2_33) hr
          · show Qfin Z r1 res h0 n0 _ T13.heap _
            rw [e13]
            exact ⟨by rw [← hres]; simp [own_fin, ha4_3, ha11_7, ha18_11, ha25_15], N0, rfl⟩
def own_lead (p : Int32) : Int32 := if p = (0 : Int32) then (0 : Int32) else if p = (1 : Int32) then (0 : Int32) else if p = (2 : Int32) then (1 : Int32) else if p = (3 : Int32) then (1 : Int32) else if p = (4 : Int32) then (1 : Int32) else if p = (5 : Int32) then (0 : Int32) else if p = (6 : Int32) then (0 : Int32) else if p = (7 : Int32) then (0 : Int32) else if p = (8 : Int32) then (1 : Int32) else if p = (9 : Int32) then (0 : Int32) else if p = (10 : Int32) then (0 : Int32) else if p = (11 : Int32) then (0 : Int32) else (0 : Int32)
def Qlead (Z : State) (p1 : Int32) (res : Int32) (h0 : Heap) (n0 : Nat) (v : Option Value) (h : Heap) (L : List Loc) : Prop := v = some (.int res) ∧ Fr n0 L ∧ h = h0
theorem pn_3 : plainName "org/beanpath/expr/AxisIsEmptyFromTextPinLaw" = true := by first | (simp [plainName, overriddenIn]; done) | decide +kernel
theorem ef_rm_lead (m : MethodId) (x0 : Int32) : entryFrame m #[(.int x0)] 1 = mkF m 0 #[.val (.int x0)] [] := by first | (simp [entryFrame, mkF, argsToLocals, Value.category]; done) | rfl
set_option maxRecDepth 65536 in
set_option maxHeartbeats 40000000 in
theorem rm_lead (l : Launch) (Z : State) (a0 : Array Value) (hw : ∀ d ∈ tables_1, d.before a0 Z = true) (ws : List Jvm.Cond) (p1 : Int32) (h0 : Heap) (n0 : Nat) (Z0 : n0 ≤ h0.size) (res : Int32) (hres : own_lead p1 = res) :
    MetFree l (⟨"org/beanpath/expr/AxisIsEmptyFromTextPinLaw", "leadsNowhereFromText", "(I)Z"⟩ : MethodName) (head1 (Jvm.Cond.code (⟨"org/beanpath/expr/AxisIsEmptyFromTextPinLaw", "leadsNowhereFromText", "(I)Z"⟩ : MethodName) method_4_code 1 (some .boolean) :: ws) ({ frames := 0, cells := 0, slots := 0, locals := 0 } : Room)) (fun a U => a = #[(.int p1)] ∧ Z.Warmed39 U.vm ∧ U.heap = h0) (fun _ _ _ _ _ => True) (fun _ U o U' => ∃ v L, o = .returned v ∧ Qlead Z p1 res h0 n0 v U'.heap L ∧ FrameEnd U o U' L ({ frames := 0, cells := 0, slots := 0, locals := 0 } : Room).cells ({ frames := 0, cells := 0, slots := 0, locals := 0 } : Room).slots) := by
  refine MetFree.of_bodySF (plainFor_of_name pn_3) hisR ?_
  intro p e s m args below meth c s₁ Bd hml0 hP hK
  obtain ⟨rfl, hZ, hh⟩ := hP
  have hx := Bd.exec
  have hby := Bd.bytes
  have hml : c.maxLocals = 1 := hml0
  have hown : s.vm.findClass "org/beanpath/expr/AxisIsEmptyFromTextPinLaw" = some m.cls := findClass_of_methodNamed Bd.named
  have hnm := (name_of_methodNamed Bd.named Bd.method).1
  have X0 : Stand p l e ({ frames := 0, cells := 0, slots := 0, locals := 0 } : Room) s m #[(.int p1)] below meth c s₁ [] 0 0 := Stand.of_body Bd
  have e0 : s₁.heap = h0 := by rw [← hh, Bd.state]; rfl
  have N0 := Fr.nil n0
  have pre0 : ∀ t, Steps p.tables e below (s₁.setTop (mkF m 0 #[.val (.int p1)] [])) t → Steps p.tables e below (s₁.setTop (entryFrame m #[(.int p1)] 1)) t := fun t k => castTop (ef_rm_lead m p1) k
  have pre1 : ∀ t, Steps p.tables e below (s₁.setTop (mkF m 1 #[.val (.int p1)] [(.int p1)])) t → Steps p.tables e below (s₁.setTop (entryFrame m #[(.int p1)] 1)) t := fun t k => pre0 t (by
    show Steps p.tables e below (s₁.setTop (mkF m 0 #[.val (.int p1)] [])) _
    refine XS.iloadN X0.here hx rfl (hb hby d3_0) rfl ?_
    exact k)
  by_cases hc1_2 : p1 = (0 : Int32)
  · have _ := 0
    have pre3 : ∀ t, Steps p.tables e below (s₁.setTop (mkF m 5 #[.val (.int p1)] [(.int (0 : Int32))])) t → Steps p.tables e below (s₁.setTop (entryFrame m #[(.int p1)] 1)) t := fun t k => pre1 t (by
      show Steps p.tables e below (s₁.setTop (mkF m 1 #[.val (.int p1)] [(.int p1)])) _
      refine XS.ifNo X0.here hx rfl (hb hby d3_1) rfl ((if0 _ _).trans (teq hc1_2).2) ?_
      show Steps p.tables e below (s₁.setTop (mkF m 4 #[.val (.int p1)] [])) _
      refine XT.iconstV X0.here hx rfl (0 : Int32) (hb hby d3_4) (by decide) ?_
      exact k)
    obtain ⟨fs, hr, hrun, hended, hW, hsame⟩ := X0.leave (v := some (.int (0 : Int32))) (fun h => by rw [Bd.returns] at h; cases h)
    refine ⟨_, _, pre3 _ ?_, hrun, hended, _, _, rfl, ?_, ⟨_, rfl⟩, hW, hsame.mono (by decide) (by decide)⟩
    · show Steps p.tables e below (s₁.setTop (mkF m 5 #[.val (.int p1)] [(.int (0 : Int32))])) _
      exact retOut X0 hx Bd.returns rfl (Or.inl ⟨rfl, by simp, _, rfl⟩) (hb hby d3_5) hr
    · show Qlead Z p1 res h0 n0 _ s₁.heap _
      rw [e0]
      exact ⟨by rw [← hres]; simp [own_lead, hc1_2], N0, rfl⟩
  · have _ := 0
    have pre4 : ∀ t, Steps p.tables e below (s₁.setTop (mkF m 8 #[.val (.int p1)] [(.int (1 : Int32)), (.int p1)])) t → Steps p.tables e below (s₁.setTop (entryFrame m #[(.int p1)] 1)) t := fun t k => pre1 t (by
      show Steps p.tables e below (s₁.setTop (mkF m 1 #[.val (.int p1)] [(.int p1)])) _
      refine XS.ifYes X0.here hx rfl (pc0 := 1) (pc' := 6) rfl (hb hby d3_1) rfl ((if0 _ _).trans (feq hc1_2).2) (by decide) (by decide) ?_
      show Steps p.tables e below (s₁.setTop (mkF m 6 #[.val (.int p1)] [])) _
      refine XS.iloadN X0.here hx rfl (hb hby d3_6) rfl ?_
      show Steps p.tables e below (s₁.setTop (mkF m 7 #[.val (.int p1)] [(.int p1)])) _
      refine XT.iconstV X0.here hx rfl (1 : Int32) (hb hby d3_7) (by decide) ?_
      exact k)
    by_cases hc8_5 : p1 = (1 : Int32)
    · have _ := 0
      have pre6 : ∀ t, Steps p.tables e below (s₁.setTop (mkF m 12 #[.val (.int p1)] [(.int (0 : Int32))])) t → Steps p.tables e below (s₁.setTop (entryFrame m #[(.int p1)] 1)) t := fun t k => pre4 t (by
        show Steps p.tables e below (s₁.setTop (mkF m 8 #[.val (.int p1)] [(.int (1 : Int32)), (.int p1)])) _
        refine XS.icmpNo X0.here hx rfl (hb hby d3_8) rfl (teq hc8_5).2 ?_
        show Steps p.tables e below (s₁.setTop (mkF m 11 #[.val (.int p1)] [])) _
        refine XT.iconstV X0.here hx rfl (0 : Int32) (hb hby d3_11) (by decide) ?_
        exact k)
      obtain ⟨fs, hr, hrun, hended, hW, hsame⟩ := X0.leave (v := some (.int (0 : Int32))) (fun h => by rw [Bd.returns] at h; cases h)
      refine ⟨_, _, pre6 _ ?_, hrun, hended, _, _, rfl, ?_, ⟨_, rfl⟩, hW, hsame.mono (by decide) (by decide)⟩
      · show Steps p.tables e below (s₁.setTop (mkF m 12 #[.val (.int p1)] [(.int (0 : Int32))])) _
        exact retOut X0 hx Bd.returns rfl (Or.inl ⟨rfl, by simp, _, rfl⟩) (hb hby d3_12) hr
      · show Qlead Z p1 res h0 n0 _ s₁.heap _
        rw [e0]
        exact ⟨by rw [← hres]; simp [own_lead, hc1_2, hc8_5], N0, rfl⟩
    · have _ := 0
      have pre7 : ∀ t, Steps p.tables e below (s₁.setTop (mkF m 15 #[.val (.int p1)] [(.int (2 : Int32)), (.int p1)])) t → Steps p.tables e below (s₁.setTop (entryFrame m #[(.int p1)] 1)) t := fun t k => pre4 t (by
        show Steps p.tables e below (s₁.setTop (mkF m 8 #[.val (.int p1)] [(.int (1 : Int32)), (.int p1)])) _
        refine XS.icmpYes X0.here hx rfl (pc0 := 8) (pc' := 13) rfl (hb hby d3_8) rfl (feq hc8_5).2 (by decide) (by decide) ?_
        show Steps p.tables e below (s₁.setTop (mkF m 13 #[.val (.int p1)] [])) _
        refine XS.iloadN X0.here hx rfl (hb hby d3_13) rfl ?_
        show Steps p.tables e below (s₁.setTop (mkF m 14 #[.val (.int p1)] [(.int p1)])) _
        refine XT.iconstV X0.here hx rfl (2 : Int32) (hb hby d3_14) (by decide) ?_
        exact k)
      by_cases hc15_8 : p1 = (2 : Int32)
      · have _ := 0
        have pre9 : ∀ t, Steps p.tables e below (s₁.setTop (mkF m 19 #[.val (.int p1)] [(.int (1 : Int32))])) t → Steps p.tables e below (s₁.setTop (entryFrame m #[(.int p1)] 1)) t := fun t k => pre7 t (by
          show Steps p.tables e below (s₁.setTop (mkF m 15 #[.val (.int p1)] [(.int (2 : Int32)), (.int p1)])) _
          refine XS.icmpNo X0.here hx rfl (hb hby d3_15) rfl (teq hc15_8).2 ?_
          show Steps p.tables e below (s₁.setTop (mkF m 18 #[.val (.int p1)] [])) _
          refine XT.iconstV X0.here hx rfl (1 : Int32) (hb hby d3_18) (by decide) ?_
          exact k)
        obtain ⟨fs, hr, hrun, hended, hW, hsame⟩ := X0.leave (v := some (.int (1 : Int32))) (fun h => by rw [Bd.returns] at h; cases h)
        refine ⟨_, _, pre9 _ ?_, hrun, hended, _, _, rfl, ?_, ⟨_, rfl⟩, hW, hsame.mono (by decide) (by decide)⟩
        · show Steps p.tables e below (s₁.setTop (mkF m 19 #[.val (.int p1)] [(.int (1 : Int32))])) _
          exact retOut X0 hx Bd.returns rfl (Or.inl ⟨rfl, by simp, _, rfl⟩) (hb hby d3_19) hr
        · show Qlead Z p1 res h0 n0 _ s₁.heap _
          rw [e0]
          exact ⟨by rw [← hres]; simp [own_lead, hc1_2, hc8_5, hc15_8], N0, rfl⟩
      · have _ := 0
        have pre10 : ∀ t, Steps p.tables e below (s₁.setTop (mkF m 22 #[.val (.int p1)] [(.int (3 : Int32)), (.int p1)])) t → Steps p.tables e below (s₁.setTop (entryFrame m #[(.int p1)] 1)) t := fun t k => pre7 t (by
          show Steps p.tables e below (s₁.setTop (mkF m 15 #[.val (.int p1)] [(.int (2 : Int32)), (.int p1)])) _
          refine XS.icmpYes X0.here hx rfl (pc0 := 15) (pc' := 20) rfl (hb hby d3_15) rfl (feq hc15_8).2 (by decide) (by decide) ?_
          show Steps p.tables e below (s₁.setTop (mkF m 20 #[.val (.int p1)] [])) _
          refine XS.iloadN X0.here hx rfl (hb hby d3_20) rfl ?_
          show Steps p.tables e below (s₁.setTop (mkF m 21 #[.val (.int p1)] [(.int p1)])) _
          refine XT.iconstV X0.here hx rfl (3 : Int32) (hb hby d3_21) (by decide) ?_
          exact k)
        by_cases hc22_11 : p1 = (3 : Int32)
        · have _ := 0
          have pre12 : ∀ t, Steps p.tables e below (s₁.setTop (mkF m 26 #[.val (.int p1)] [(.int (1 : Int32))])) t → Steps p.tables e below (s₁.setTop (entryFrame m #[(.int p1)] 1)) t := fun t k => pre10 t (by
            show Steps p.tables e below (s₁.setTop (mkF m 22 #[.val (.int p1)] [(.int (3 : Int32)), (.int p1)])) _
            refine XS.icmpNo X0.here hx rfl (hb hby d3_22) rfl (teq hc22_11).2 ?_
            show Steps p.tables e below (s₁.setTop (mkF m 25 #[.val (.int p1)] [])) _
            refine XT.iconstV X0.here hx rfl (1 : Int32) (hb hby d3_25) (by decide) ?_
            exact k)
          obtain ⟨fs, hr, hrun, hended, hW, hsame⟩ := X0.leave (v := some (.int (1 : Int32))) (fun h => by rw [Bd.returns] at h; cases h)
          refine ⟨_, _, pre12 _ ?_, hrun, hended, _, _, rfl, ?_, ⟨_, rfl⟩, hW, hsame.mono (by decide) (by decide)⟩
          · show Steps p.tables e below (s₁.setTop (mkF m 26 #[.val (.int p1)] [(.int (1 : Int32))])) _
            exact retOut X0 hx Bd.returns rfl (Or.inl ⟨rfl, by simp, _, rfl⟩) (hb hby d3_26) hr
          · show Qlead Z p1 res h0 n0 _ s₁.heap _
            rw [e0]
            exact ⟨by rw [← hres]; simp [own_lead, hc1_2, hc8_5, hc15_8, hc22_11], N0, rfl⟩
        · have _ := 0
          have pre13 : ∀ t, Steps p.tables e below (s₁.setTop (mkF m 29 #[.val (.int p1)] [(.int (4 : Int32)), (.int p1)])) t → Steps p.tables e below (s₁.setTop (entryFrame m #[(.int p1)] 1)) t := fun t k => pre10 t (by
            show Steps p.tables e below (s₁.setTop (mkF m 22 #[.val (.int p1)] [(.int (3 : Int32)), (.int p1)])) _
            refine XS.icmpYes X0.here hx rfl (pc0 := 22) (pc' := 27) rfl (hb hby d3_22) rfl (feq hc22_11).2 (by decide) (by decide) ?_
            show Steps p.tables e below (s₁.setTop (mkF m 27 #[.val (.int p1)] [])) _
            refine XS.iloadN X0.here hx rfl (hb hby d3_27) rfl ?_
            show Steps p.tables e below (s₁.setTop (mkF m 28 #[.val (.int p1)] [(.int p1)])) _
            refine XT.iconstV X0.here hx rfl (4 : Int32) (hb hby d3_28) (by decide) ?_
            exact k)
          by_cases hc29_14 : p1 = (4 : Int32)
          · have _ := 0
            have pre15 : ∀ t, Steps p.tables e below (s₁.setTop (mkF m 33 #[.val (.int p1)] [(.int (1 : Int32))])) t → Steps p.tables e below (s₁.setTop (entryFrame m #[(.int p1)] 1)) t := fun t k => pre13 t (by
              show Steps p.tables e below (s₁.setTop (mkF m 29 #[.val (.int p1)] [(.int (4 : Int32)), (.int p1)])) _
              refine XS.icmpNo X0.here hx rfl (hb hby d3_29) rfl (teq hc29_14).2 ?_
              show Steps p.tables e below (s₁.setTop (mkF m 32 #[.val (.int p1)] [])) _
              refine XT.iconstV X0.here hx rfl (1 : Int32) (hb hby d3_32) (by decide) ?_
              exact k)
            obtain ⟨fs, hr, hrun, hended, hW, hsame⟩ := X0.leave (v := some (.int (1 : Int32))) (fun h => by rw [Bd.returns] at h; cases h)
            refine ⟨_, _, pre15 _ ?_, hrun, hended, _, _, rfl, ?_, ⟨_, rfl⟩, hW, hsame.mono (by decide) (by decide)⟩
            · show Steps p.tables e below (s₁.setTop (mkF m 33 #[.val (.int p1)] [(.int (1 : Int32))])) _
              exact retOut X0 hx Bd.returns rfl (Or.inl ⟨rfl, by simp, _, rfl⟩) (hb hby d3_33) hr
            · show Qlead Z p1 res h0 n0 _ s₁.heap _
              rw [e0]
              exact ⟨by rw [← hres]; simp [own_lead, hc1_2, hc8_5, hc15_8, hc22_11, hc29_14], N0, rfl⟩
          · have _ := 0
            have pre16 : ∀ t, Steps p.tables e below (s₁.setTop (mkF m 36 #[.val (.int p1)] [(.int (5 : Int32)), (.int p1)])) t → Steps p.tables e below (s₁.setTop (entryFrame m #[(.int p1)] 1)) t := fun t k => pre13 t (by
              show Steps p.tables e below (s₁.setTop (mkF m 29 #[.val (.int p1)] [(.int (4 : Int32)), (.int p1)])) _
              refine XS.icmpYes X0.here hx rfl (pc0 := 29) (pc' := 34) rfl (hb hby d3_29) rfl (feq hc29_14).2 (by decide) (by decide) ?_
              show Steps p.tables e below (s₁.setTop (mkF m 34 #[.val (.int p1)] [])) _
              refine XS.iloadN X0.here hx rfl (hb hby d3_34) rfl ?_
              show Steps p.tables e below (s₁.setTop (mkF m 35 #[.val (.int p1)] [(.int p1)])) _
              refine XT.iconstV X0.here hx rfl (5 : Int32) (hb hby d3_35) (by decide) ?_
              exact k)
            by_cases hc36_17 : p1 = (5 : Int32)
            · have _ := 0
              have pre18 : ∀ t, Steps p.tables e below (s₁.setTop (mkF m 40 #[.val (.int p1)] [(.int (0 : Int32))])) t → Steps p.tables e below (s₁.setTop (entryFrame m #[(.int p1)] 1)) t := fun t k => pre16 t (by
                show Steps p.tables e below (s₁.setTop (mkF m 36 #[.val (.int p1)] [(.int (5 : Int32)), (.int p1)])) _
                refine XS.icmpNo X0.here hx rfl (hb hby d3_36) rfl (teq hc36_17).2 ?_
                show Steps p.tables e below (s₁.setTop (mkF m 39 #[.val (.int p1)] [])) _
                refine XT.iconstV X0.here hx rfl (0 : Int32) (hb hby d3_39) (by decide) ?_
                exact k)
              obtain ⟨fs, hr, hrun, hended, hW, hsame⟩ := X0.leave (v := some (.int (0 : Int32))) (fun h => by rw [Bd.returns] at h; cases h)
              refine ⟨_, _, pre18 _ ?_, hrun, hended, _, _, rfl, ?_, ⟨_, rfl⟩, hW, hsame.mono (by decide) (by decide)⟩
              · show Steps p.tables e below (s₁.setTop (mkF m 40 #[.val (.int p1)] [(.int (0 : Int32))])) _
                exact retOut X0 hx Bd.returns rfl (Or.inl ⟨rfl, by simp, _, rfl⟩) (hb hby d3_40) hr
              · show Qlead Z p1 res h0 n0 _ s₁.heap _
                rw [e0]
                exact ⟨by rw [← hres]; simp [own_lead, hc1_2, hc8_5, hc15_8, hc22_11, hc29_14, hc36_17], N0, rfl⟩
            · have _ := 0
              have pre19 : ∀ t, Steps p.tables e below (s₁.setTop (mkF m 44 #[.val (.int p1)] [(.int (6 : Int32)), (.int p1)])) t → Steps p.tables e below (s₁.setTop (entryFrame m #[(.int p1)] 1)) t := fun t k => pre16 t (by
                show Steps p.tables e below (s₁.setTop (mkF m 36 #[.val (.int p1)] [(.int (5 : Int32)), (.int p1)])) _
                refine XS.icmpYes X0.here hx rfl (pc0 := 36) (pc' := 41) rfl (hb hby d3_36) rfl (feq hc36_17).2 (by decide) (by decide) ?_
                show Steps p.tables e below (s₁.setTop (mkF m 41 #[.val (.int p1)] [])) _
                refine XS.iloadN X0.here hx rfl (hb hby d3_41) rfl ?_
                show Steps p.tables e below (s₁.setTop (mkF m 42 #[.val (.int p1)] [(.int p1)])) _
                refine XT.bipushV X0.here hx rfl (6 : Int32) (hb hby d3_42) (by decide) ?_
                exact k)
              by_cases hc44_20 : p1 = (6 : Int32)
              · have _ := 0
                have pre21 : ∀ t, Steps p.tables e below (s₁.setTop (mkF m 48 #[.val (.int p1)] [(.int (0 : Int32))])) t → Steps p.tables e below (s₁.setTop (entryFrame m #[(.int p1)] 1)) t := fun t k => pre19 t (by
                  show Steps p.tables e below (s₁.setTop (mkF m 44 #[.val (.int p1)] [(.int (6 : Int32)), (.int p1)])) _
                  refine XS.icmpNo X0.here hx rfl (hb hby d3_44) rfl (teq hc44_20).2 ?_
                  show Steps p.tables e below (s₁.setTop (mkF m 47 #[.val (.int p1)] [])) _
                  refine XT.iconstV X0.here hx rfl (0 : Int32) (hb hby d3_47) (by decide) ?_
                  exact k)
                obtain ⟨fs, hr, hrun, hended, hW, hsame⟩ := X0.leave (v := some (.int (0 : Int32))) (fun h => by rw [Bd.returns] at h; cases h)
                refine ⟨_, _, pre21 _ ?_, hrun, hended, _, _, rfl, ?_, ⟨_, rfl⟩, hW, hsame.mono (by decide) (by decide)⟩
                · show Steps p.tables e below (s₁.setTop (mkF m 48 #[.val (.int p1)] [(.int (0 : Int32))])) _
                  exact retOut X0 hx Bd.returns rfl (Or.inl ⟨rfl, by simp, _, rfl⟩) (hb hby d3_48) hr
                · show Qlead Z p1 res h0 n0 _ s₁.heap _
                  rw [e0]
                  exact ⟨by rw [← hres]; simp [own_lead, hc1_2, hc8_5, hc15_8, hc22_11, hc29_14, hc36_17, hc44_20], N0, rfl⟩
              · have _ := 0
                have pre22 : ∀ t, Steps p.tables e below (s₁.setTop (mkF m 52 #[.val (.int p1)] [(.int (7 : Int32)), (.int p1)])) t → Steps p.tables e below (s₁.setTop (entryFrame m #[(.int p1)] 1)) t := fun t k => pre19 t (by
                  show Steps p.tables e below (s₁.setTop (mkF m 44 #[.val (.int p1)] [(.int (6 : Int32)), (.int p1)])) _
                  refine XS.icmpYes X0.here hx rfl (pc0 := 44) (pc' := 49) rfl (hb hby d3_44) rfl (feq hc44_20).2 (by decide) (by decide) ?_
                  show Steps p.tables e below (s₁.setTop (mkF m 49 #[.val (.int p1)] [])) _
                  refine XS.iloadN X0.here hx rfl (hb hby d3_49) rfl ?_
                  show Steps p.tables e below (s₁.setTop (mkF m 50 #[.val (.int p1)] [(.int p1)])) _
                  refine XT.bipushV X0.here hx rfl (7 : Int32) (hb hby d3_50) (by decide) ?_
                  exact k)
                by_cases hc52_23 : p1 = (7 : Int32)
                · have _ := 0
                  have pre24 : ∀ t, Steps p.tables e below (s₁.setTop (mkF m 56 #[.val (.int p1)] [(.int (0 : Int32))])) t → Steps p.tables e below (s₁.setTop (entryFrame m #[(.int p1)] 1)) t := fun t k => pre22 t (by
                    show Steps p.tables e below (s₁.setTop (mkF m 52 #[.val (.int p1)] [(.int (7 : Int32)), (.int p1)])) _
                    refine XS.icmpNo X0.here hx rfl (hb hby d3_52) rfl (teq hc52_23).2 ?_
                    show Steps p.tables e below (s₁.setTop (mkF m 55 #[.val (.int p1)] [])) _
                    refine XT.iconstV X0.here hx rfl (0 : Int32) (hb hby d3_55) (by decide) ?_
                    exact k)
                  obtain ⟨fs, hr, hrun, hended, hW, hsame⟩ := X0.leave (v := some (.int (0 : Int32))) (fun h => by rw [Bd.returns] at h; cases h)
                  refine ⟨_, _, pre24 _ ?_, hrun, hended, _, _, rfl, ?_, ⟨_, rfl⟩, hW, hsame.mono (by decide) (by decide)⟩
                  · show Steps p.tables e below (s₁.setTop (mkF m 56 #[.val (.int p1)] [(.int (0 : Int32))])) _
                    exact retOut X0 hx Bd.returns rfl (Or.inl ⟨rfl, by simp, _, rfl⟩) (hb hby d3_56) hr
                  · show Qlead Z p1 res h0 n0 _ s₁.heap _
                    rw [e0]
                    exact ⟨by rw [← hres]; simp [own_lead, hc1_2, hc8_5, hc15_8, hc22_11, hc29_14, hc36_17, hc44_20, hc52_23], N0, rfl⟩
                · have _ := 0
                  have pre25 : ∀ t, Steps p.tables e below (s₁.setTop (mkF m 60 #[.val (.int p1)] [(.int (8 : Int32)), (.int p1)])) t → Steps p.tables e below (s₁.setTop (entryFrame m #[(.int p1)] 1)) t := fun t k => pre22 t (by
                    show Steps p.tables e below (s₁.setTop (mkF m 52 #[.val (.int p1)] [(.int (7 : Int32)), (.int p1)])) _
                    refine XS.icmpYes X0.here hx rfl (pc0 := 52) (pc' := 57) rfl (hb hby d3_52) rfl (feq hc52_23).2 (by decide) (by decide) ?_
                    show Steps p.tables e below (s₁.setTop (mkF m 57 #[.val (.int p1)] [])) _
                    refine XS.iloadN X0.here hx rfl (hb hby d3_57) rfl ?_
                    show Steps p.tables e below (s₁.setTop (mkF m 58 #[.val (.int p1)] [(.int p1)])) _
                    refine XT.bipushV X0.here hx rfl (8 : Int32) (hb hby d3_58) (by decide) ?_
                    exact k)
                  by_cases hc60_26 : p1 = (8 : Int32)
                  · have _ := 0
                    have pre27 : ∀ t, Steps p.tables e below (s₁.setTop (mkF m 64 #[.val (.int p1)] [(.int (1 : Int32))])) t → Steps p.tables e below (s₁.setTop (entryFrame m #[(.int p1)] 1)) t := fun t k => pre25 t (by
                      show Steps p.tables e below (s₁.setTop (mkF m 60 #[.val (.int p1)] [(.int (8 : Int32)), (.int p1)])) _
                      refine XS.icmpNo X0.here hx rfl (hb hby d3_60) rfl (teq hc60_26).2 ?_
                      show Steps p.tables e below (s₁.setTop (mkF m 63 #[.val (.int p1)] [])) _
                      refine XT.iconstV X0.here hx rfl (1 : Int32) (hb hby d3_63) (by decide) ?_
                      exact k)
                    obtain ⟨fs, hr, hrun, hended, hW, hsame⟩ := X0.leave (v := some (.int (1 : Int32))) (fun h => by rw [Bd.returns] at h; cases h)
                    refine ⟨_, _, pre27 _ ?_, hrun, hended, _, _, rfl, ?_, ⟨_, rfl⟩, hW, hsame.mono (by decide) (by decide)⟩
                    · show Steps p.tables e below (s₁.setTop (mkF m 64 #[.val (.int p1)] [(.int (1 : Int32))])) _
                      exact retOut X0 hx Bd.returns rfl (Or.inl ⟨rfl, by simp, _, rfl⟩) (hb hby d3_64) hr
                    · show Qlead Z p1 res h0 n0 _ s₁.heap _
                      rw [e0]
                      exact ⟨by rw [← hres]; simp [own_lead, hc1_2, hc8_5, hc15_8, hc22_11, hc29_14, hc36_17, hc44_20, hc52_23, hc60_26], N0, rfl⟩
                  · have _ := 0
                    have pre28 : ∀ t, Steps p.tables e below (s₁.setTop (mkF m 68 #[.val (.int p1)] [(.int (9 : Int32)), (.int p1)])) t → Steps p.tables e below (s₁.setTop (entryFrame m #[(.int p1)] 1)) t := fun t k => pre25 t (by
                      show Steps p.tables e below (s₁.setTop (mkF m 60 #[.val (.int p1)] [(.int (8 : Int32)), (.int p1)])) _
                      refine XS.icmpYes X0.here hx rfl (pc0 := 60) (pc' := 65) rfl (hb hby d3_60) rfl (feq hc60_26).2 (by decide) (by decide) ?_
                      show Steps p.tables e below (s₁.setTop (mkF m 65 #[.val (.int p1)] [])) _
                      refine XS.iloadN X0.here hx rfl (hb hby d3_65) rfl ?_
                      show Steps p.tables e below (s₁.setTop (mkF m 66 #[.val (.int p1)] [(.int p1)])) _
                      refine XT.bipushV X0.here hx rfl (9 : Int32) (hb hby d3_66) (by decide) ?_
                      exact k)
                    by_cases hc68_29 : p1 = (9 : Int32)
                    · have _ := 0
                      have pre30 : ∀ t, Steps p.tables e below (s₁.setTop (mkF m 72 #[.val (.int p1)] [(.int (0 : Int32))])) t → Steps p.tables e below (s₁.setTop (entryFrame m #[(.int p1)] 1)) t := fun t k => pre28 t (by
                        show Steps p.tables e below (s₁.setTop (mkF m 68 #[.val (.int p1)] [(.int (9 : Int32)), (.int p1)])) _
                        refine XS.icmpNo X0.here hx rfl (hb hby d3_68) rfl (teq hc68_29).2 ?_
                        show Steps p.tables e below (s₁.setTop (mkF m 71 #[.val (.int p1)] [])) _
                        refine XT.iconstV X0.here hx rfl (0 : Int32) (hb hby d3_71) (by decide) ?_
                        exact k)
                      obtain ⟨fs, hr, hrun, hended, hW, hsame⟩ := X0.leave (v := some (.int (0 : Int32))) (fun h => by rw [Bd.returns] at h; cases h)
                      refine ⟨_, _, pre30 _ ?_, hrun, hended, _, _, rfl, ?_, ⟨_, rfl⟩, hW, hsame.mono (by decide) (by decide)⟩
                      · show Steps p.tables e below (s₁.setTop (mkF m 72 #[.val (.int p1)] [(.int (0 : Int32))])) _
                        exact retOut X0 hx Bd.returns rfl (Or.inl ⟨rfl, by simp, _, rfl⟩) (hb hby d3_72) hr
                      · show Qlead Z p1 res h0 n0 _ s₁.heap _
                        rw [e0]
                        exact ⟨by rw [← hres]; simp [own_lead, hc1_2, hc8_5, hc15_8, hc22_11, hc29_14, hc36_17, hc44_20, hc52_23, hc60_26, hc68_29], N0, rfl⟩
                    · have _ := 0
                      have pre31 : ∀ t, Steps p.tables e below (s₁.setTop (mkF m 76 #[.val (.int p1)] [(.int (10 : Int32)), (.int p1)])) t → Steps p.tables e below (s₁.setTop (entryFrame m #[(.int p1)] 1)) t := fun t k => pre28 t (by
                        show Steps p.tables e below (s₁.setTop (mkF m 68 #[.val (.int p1)] [(.int (9 : Int32)), (.int p1)])) _
                        refine XS.icmpYes X0.here hx rfl (pc0 := 68) (pc' := 73) rfl (hb hby d3_68) rfl (feq hc68_29).2 (by decide) (by decide) ?_
                        show Steps p.tables e below (s₁.setTop (mkF m 73 #[.val (.int p1)] [])) _
                        refine XS.iloadN X0.here hx rfl (hb hby d3_73) rfl ?_
                        show Steps p.tables e below (s₁.setTop (mkF m 74 #[.val (.int p1)] [(.int p1)])) _
                        refine XT.bipushV X0.here hx rfl (10 : Int32) (hb hby d3_74) (by decide) ?_
                        exact k)
                      by_cases hc76_32 : p1 = (10 : Int32)
                      · have _ := 0
                        have pre33 : ∀ t, Steps p.tables e below (s₁.setTop (mkF m 80 #[.val (.int p1)] [(.int (0 : Int32))])) t → Steps p.tables e below (s₁.setTop (entryFrame m #[(.int p1)] 1)) t := fun t k => pre31 t (by
                          show Steps p.tables e below (s₁.setTop (mkF m 76 #[.val (.int p1)] [(.int (10 : Int32)), (.int p1)])) _
                          refine XS.icmpNo X0.here hx rfl (hb hby d3_76) rfl (teq hc76_32).2 ?_
                          show Steps p.tables e below (s₁.setTop (mkF m 79 #[.val (.int p1)] [])) _
                          refine XT.iconstV X0.here hx rfl (0 : Int32) (hb hby d3_79) (by decide) ?_
                          exact k)
                        obtain ⟨fs, hr, hrun, hended, hW, hsame⟩ := X0.leave (v := some (.int (0 : Int32))) (fun h => by rw [Bd.returns] at h; cases h)
                        refine ⟨_, _, pre33 _ ?_, hrun, hended, _, _, rfl, ?_, ⟨_, rfl⟩, hW, hsame.mono (by decide) (by decide)⟩
                        · show Steps p.tables e below (s₁.setTop (mkF m 80 #[.val (.int p1)] [(.int (0 : Int32))])) _
                          exact retOut X0 hx Bd.returns rfl (Or.inl ⟨rfl, by simp, _, rfl⟩) (hb hby d3_80) hr
                        · show Qlead Z p1 res h0 n0 _ s₁.heap _
                          rw [e0]
                          exact ⟨by rw [← hres]; simp [own_lead, hc1_2, hc8_5, hc15_8, hc22_11, hc29_14, hc36_17, hc44_20, hc52_23, hc60_26, hc68_29, hc76_32], N0, rfl⟩
                      · have _ := 0
                        have pre34 : ∀ t, Steps p.tables e below (s₁.setTop (mkF m 84 #[.val (.int p1)] [(.int (11 : Int32)), (.int p1)])) t → Steps p.tables e below (s₁.setTop (entryFrame m #[(.int p1)] 1)) t := fun t k => pre31 t (by
                          show Steps p.tables e below (s₁.setTop (mkF m 76 #[.val (.int p1)] [(.int (10 : Int32)), (.int p1)])) _
                          refine XS.icmpYes X0.here hx rfl (pc0 := 76) (pc' := 81) rfl (hb hby d3_76) rfl (feq hc76_32).2 (by decide) (by decide) ?_
                          show Steps p.tables e below (s₁.setTop (mkF m 81 #[.val (.int p1)] [])) _
                          refine XS.iloadN X0.here hx rfl (hb hby d3_81) rfl ?_
                          show Steps p.tables e below (s₁.setTop (mkF m 82 #[.val (.int p1)] [(.int p1)])) _
                          refine XT.bipushV X0.here hx rfl (11 : Int32) (hb hby d3_82) (by decide) ?_
                          exact k)
                        by_cases hc84_35 : p1 = (11 : Int32)
                        · have _ := 0
                          have pre36 : ∀ t, Steps p.tables e below (s₁.setTop (mkF m 88 #[.val (.int p1)] [(.int (0 : Int32))])) t → Steps p.tables e below (s₁.setTop (entryFrame m #[(.int p1)] 1)) t := fun t k => pre34 t (by
                            show Steps p.tables e below (s₁.setTop (mkF m 84 #[.val (.int p1)] [(.int (11 : Int32)), (.int p1)])) _
                            refine XS.icmpNo X0.here hx rfl (hb hby d3_84) rfl (teq hc84_35).2 ?_
                            show Steps p.tables e below (s₁.setTop (mkF m 87 #[.val (.int p1)] [])) _
                            refine XT.iconstV X0.here hx rfl (0 : Int32) (hb hby d3_87) (by decide) ?_
                            exact k)
                          obtain ⟨fs, hr, hrun, hended, hW, hsame⟩ := X0.leave (v := some (.int (0 : Int32))) (fun h => by rw [Bd.returns] at h; cases h)
                          refine ⟨_, _, pre36 _ ?_, hrun, hended, _, _, rfl, ?_, ⟨_, rfl⟩, hW, hsame.mono (by decide) (by decide)⟩
                          · show Steps p.tables e below (s₁.setTop (mkF m 88 #[.val (.int p1)] [(.int (0 : Int32))])) _
                            exact retOut X0 hx Bd.returns rfl (Or.inl ⟨rfl, by simp, _, rfl⟩) (hb hby d3_88) hr
                          · show Qlead Z p1 res h0 n0 _ s₁.heap _
                            rw [e0]
                            exact ⟨by rw [← hres]; simp [own_lead, hc1_2, hc8_5, hc15_8, hc22_11, hc29_14, hc36_17, hc44_20, hc52_23, hc60_26, hc68_29, hc76_32, hc84_35], N0, rfl⟩
                        · have _ := 0
                          have pre37 : ∀ t, Steps p.tables e below (s₁.setTop (mkF m 90 #[.val (.int p1)] [(.int (0 : Int32))])) t → Steps p.tables e below (s₁.setTop (entryFrame m #[(.int p1)] 1)) t := fun t k => pre34 t (by
                            show Steps p.tables e below (s₁.setTop (mkF m 84 #[.val (.int p1)] [(.int (11 : Int32)), (.int p1)])) _
                            refine XS.icmpYes X0.here hx rfl (pc0 := 84) (pc' := 89) rfl (hb hby d3_84) rfl (feq hc84_35).2 (by decide) (by decide) ?_
                            show Steps p.tables e below (s₁.setTop (mkF m 89 #[.val (.int p1)] [])) _
                            refine XT.iconstV X0.here hx rfl (0 : Int32) (hb hby d3_89) (by decide) ?_
                            exact k)
                          obtain ⟨fs, hr, hrun, hended, hW, hsame⟩ := X0.leave (v := some (.int (0 : Int32))) (fun h => by rw [Bd.returns] at h; cases h)
                          refine ⟨_, _, pre37 _ ?_, hrun, hended, _, _, rfl, ?_, ⟨_, rfl⟩, hW, hsame.mono (by decide) (by decide)⟩
                          · show Steps p.tables e below (s₁.setTop (mkF m 90 #[.val (.int p1)] [(.int (0 : Int32))])) _
                            exact retOut X0 hx Bd.returns rfl (Or.inl ⟨rfl, by simp, _, rfl⟩) (hb hby d3_90) hr
                          · show Qlead Z p1 res h0 n0 _ s₁.heap _
                            rw [e0]
                            exact ⟨by rw [← hres]; simp [own_lead, hc1_2, hc8_5, hc15_8, hc22_11, hc29_14, hc36_17, hc44_20, hc52_23, hc60_26, hc68_29, hc76_32, hc84_35], N0, rfl⟩
def Q0 (Z : State) (p1 : Int32) (h0 : Heap) (n0 : Nat) (v : Option Value) (h : Heap) (L : List Loc) : Prop := v = some (.int 1) ∧ Fr n0 L
theorem own_cases (k : Int32) : ((k &&& (2147483647 : Int32)) % (13 : Int32)) = (0 : Int32) ∨ ((k &&& (2147483647 : Int32)) % (13 : Int32)) = (1 : Int32) ∨ ((k &&& (2147483647 : Int32)) % (13 : Int32)) = (2 : Int32) ∨ ((k &&& (2147483647 : Int32)) % (13 : Int32)) = (3 : Int32) ∨ ((k &&& (2147483647 : Int32)) % (13 : Int32)) = (4 : Int32) ∨ ((k &&& (2147483647 : Int32)) % (13 : Int32)) = (5 : Int32) ∨ ((k &&& (2147483647 : Int32)) % (13 : Int32)) = (6 : Int32) ∨ ((k &&& (2147483647 : Int32)) % (13 : Int32)) = (7 : Int32) ∨ ((k &&& (2147483647 : Int32)) % (13 : Int32)) = (8 : Int32) ∨ ((k &&& (2147483647 : Int32)) % (13 : Int32)) = (9 : Int32) ∨ ((k &&& (2147483647 : Int32)) % (13 : Int32)) = (10 : Int32) ∨ ((k &&& (2147483647 : Int32)) % (13 : Int32)) = (11 : Int32) ∨ ((k &&& (2147483647 : Int32)) % (13 : Int32)) = (12 : Int32) := by
  have e1 := c_mask k (2147483647 : Int32) 31 (by decide) (by decide)
  have e2 := (c_irem (k &&& (2147483647 : Int32)) (13 : Int32) 13 (by decide)).1 (by omega)
  generalize (k &&& (2147483647 : Int32)) % (13 : Int32) = z at *
  have h : z.toInt = 0 ∨ z.toInt = 1 ∨ z.toInt = 2 ∨ z.toInt = 3 ∨ z.toInt = 4 ∨ z.toInt = 5 ∨ z.toInt = 6 ∨ z.toInt = 7 ∨ z.toInt = 8 ∨ z.toInt = 9 ∨ z.toInt = 10 ∨ z.toInt = 11 ∨ z.toInt = 12 := by omega
  rcases h with h | h | h | h | h | h | h | h | h | h | h | h | h
  · exact Or.inl (Int32.toInt_inj.mp (h.trans (by decide : (0 : Int) = (0 : Int32).toInt)))
  · exact Or.inr (Or.inl (Int32.toInt_inj.mp (h.trans (by decide : (1 : Int) = (1 : Int32).toInt))))
  · exact Or.inr (Or.inr (Or.inl (Int32.toInt_inj.mp (h.trans (by decide : (2 : Int) = (2 : Int32).toInt)))))
  · exact Or.inr (Or.inr (Or.inr (Or.inl (Int32.toInt_inj.mp (h.trans (by decide : (3 : Int) = (3 : Int32).toInt))))))
  · exact Or.inr (Or.inr (Or.inr (Or.inr (Or.inl (Int32.toInt_inj.mp (h.trans (by decide : (4 : Int) = (4 : Int32).toInt)))))))
  · exact Or.inr (Or.inr (Or.inr (Or.inr (Or.inr (Or.inl (Int32.toInt_inj.mp (h.trans (by decide : (5 : Int) = (5 : Int32).toInt))))))))
  · exact Or.inr (Or.inr (Or.inr (Or.inr (Or.inr (Or.inr (Or.inl (Int32.toInt_inj.mp (h.trans (by decide : (6 : Int) = (6 : Int32).toInt)))))))))
  · exact Or.inr (Or.inr (Or.inr (Or.inr (Or.inr (Or.inr (Or.inr (Or.inl (Int32.toInt_inj.mp (h.trans (by decide : (7 : Int) = (7 : Int32).toInt))))))))))
  · exact Or.inr (Or.inr (Or.inr (Or.inr (Or.inr (Or.inr (Or.inr (Or.inr (Or.inl (Int32.toInt_inj.mp (h.trans (by decide : (8 : Int) = (8 : Int32).toInt)))))))))))
  · exact Or.inr (Or.inr (Or.inr (Or.inr (Or.inr (Or.inr (Or.inr (Or.inr (Or.inr (Or.inl (Int32.toInt_inj.mp (h.trans (by decide : (9 : Int) = (9 : Int32).toInt))))))))))))
  · exact Or.inr (Or.inr (Or.inr (Or.inr (Or.inr (Or.inr (Or.inr (Or.inr (Or.inr (Or.inr (Or.inl (Int32.toInt_inj.mp (h.trans (by decide : (10 : Int) = (10 : Int32).toInt)))))))))))))
  · exact Or.inr (Or.inr (Or.inr (Or.inr (Or.inr (Or.inr (Or.inr (Or.inr (Or.inr (Or.inr (Or.inr (Or.inl (Int32.toInt_inj.mp (h.trans (by decide : (11 : Int) = (11 : Int32).toInt))))))))))))))
  · exact Or.inr (Or.inr (Or.inr (Or.inr (Or.inr (Or.inr (Or.inr (Or.inr (Or.inr (Or.inr (Or.inr (Or.inr ((Int32.toInt_inj.mp (h.trans (by decide : (12 : Int) = (12 : Int32).toInt)))))))))))))))
theorem pn_0 : plainName "org/beanpath/expr/AxisIsEmptyFromTextPinLaw" = true := by first | (simp [plainName, overriddenIn]; done) | decide +kernel
theorem ef_rm0 (m : MethodId) (x0 : Int32) : entryFrame m #[(.int x0)] maxLocals = mkF m 0 #[.val (.int x0), .unset, .unset] [] := by first | (simp [entryFrame, mkF, argsToLocals, Value.category, maxLocals]; done) | rfl
set_option maxRecDepth 65536 in
set_option maxHeartbeats 40000000 in
theorem rm0 (l : Launch) (Z : State) (a0 : Array Value) (hw : ∀ d ∈ tables_1, d.before a0 Z = true) (ws : List Jvm.Cond) (p1 : Int32) (h0 : Heap) (n0 : Nat) (Z0 : n0 ≤ h0.size) (a_ANCESTOR : Addr) (S_ANCESTOR : Sta Z h0 "org/beanpath/expr/Axis" "ANCESTOR" "Lorg/beanpath/expr/Axis;" (.ref a_ANCESTOR)) (a_CHILD : Addr) (S_CHILD : Sta Z h0 "org/beanpath/expr/Axis" "CHILD" "Lorg/beanpath/expr/Axis;" (.ref a_CHILD)) (a_DESCENDANT : Addr) (S_DESCENDANT : Sta Z h0 "org/beanpath/expr/Axis" "DESCENDANT" "Lorg/beanpath/expr/Axis;" (.ref a_DESCENDANT)) (a_ATTRIBUTE : Addr) (S_ATTRIBUTE : Sta Z h0 "org/beanpath/expr/Axis" "ATTRIBUTE" "Lorg/beanpath/expr/Axis;" (.ref a_ATTRIBUTE)) (a_NAMESPACE : Addr) (S_NAMESPACE : Sta Z h0 "org/beanpath/expr/Axis" "NAMESPACE" "Lorg/beanpath/expr/Axis;" (.ref a_NAMESPACE)) (a_FOLLOWING : Addr) (S_FOLLOWING : Sta Z h0 "org/beanpath/expr/Axis" "FOLLOWING" "Lorg/beanpath/expr/Axis;" (.ref a_FOLLOWING)) (a_DESCENDANT_OR_SELF : Addr) (S_DESCENDANT_OR_SELF : Sta Z h0 "org/beanpath/expr/Axis" "DESCENDANT_OR_SELF" "Lorg/beanpath/expr/Axis;" (.ref a_DESCENDANT_OR_SELF)) (a_FOLLOWING_SIBLING : Addr) (S_FOLLOWING_SIBLING : Sta Z h0 "org/beanpath/expr/Axis" "FOLLOWING_SIBLING" "Lorg/beanpath/expr/Axis;" (.ref a_FOLLOWING_SIBLING)) (a_PARENT : Addr) (S_PARENT : Sta Z h0 "org/beanpath/expr/Axis" "PARENT" "Lorg/beanpath/expr/Axis;" (.ref a_PARENT)) (a_PRECEDING_SIBLING : Addr) (S_PRECEDING_SIBLING : Sta Z h0 "org/beanpath/expr/Axis" "PRECEDING_SIBLING" "Lorg/beanpath/expr/Axis;" (.ref a_PRECEDING_SIBLING)) (a_ANCESTOR_OR_SELF : Addr) (S_ANCESTOR_OR_SELF : Sta Z h0 "org/beanpath/expr/Axis" "ANCESTOR_OR_SELF" "Lorg/beanpath/expr/Axis;" (.ref a_ANCESTOR_OR_SELF)) (a_PRECEDING : Addr) (S_PRECEDING : Sta Z h0 "org/beanpath/expr/Axis" "PRECEDING" "Lorg/beanpath/expr/Axis;" (.ref a_PRECEDING)) (a_SELF : Addr) (S_SELF : Sta Z h0 "org/beanpath/expr/Axis" "SELF" "Lorg/beanpath/expr/Axis;" (.ref a_SELF)) (E_ANCESTOR : Exa Z h0 a_ANCESTOR "org/beanpath/expr/Axis$1") (E_CHILD : Exa Z h0 a_CHILD "org/beanpath/expr/Axis$4") (E_DESCENDANT : Exa Z h0 a_DESCENDANT "org/beanpath/expr/Axis$5") (E_ATTRIBUTE : Exa Z h0 a_ATTRIBUTE "org/beanpath/expr/Axis$3") (E_NAMESPACE : Exa Z h0 a_NAMESPACE "org/beanpath/expr/Axis$9") (E_FOLLOWING : Exa Z h0 a_FOLLOWING "org/beanpath/expr/Axis$7") (E_DESCENDANT_OR_SELF : Exa Z h0 a_DESCENDANT_OR_SELF "org/beanpath/expr/Axis$6") (E_FOLLOWING_SIBLING : Exa Z h0 a_FOLLOWING_SIBLING "org/beanpath/expr/Axis$8") (E_PARENT : Exa Z h0 a_PARENT "org/beanpath/expr/Axis$10") (E_PRECEDING_SIBLING : Exa Z h0 a_PRECEDING_SIBLING "org/beanpath/expr/Axis$12") (E_ANCESTOR_OR_SELF : Exa Z h0 a_ANCESTOR_OR_SELF "org/beanpath/expr/Axis$2") (E_PRECEDING : Exa Z h0 a_PRECEDING "org/beanpath/expr/Axis$11") (E_SELF : Exa Z h0 a_SELF "org/beanpath/expr/Axis$13") :
    MetFree l x (head1 (Jvm.Cond.code x code maxLocals ret :: ws) room_1) (fun a U => a = #[(.int p1)] ∧ Z.Warmed39 U.vm ∧ U.heap = h0) (fun _ _ _ _ _ => True) (fun _ U o U' => ∃ v L, o = .returned v ∧ Q0 Z p1  h0 n0 v U'.heap L ∧ FrameEnd U o U' L 0 0) := by
  refine MetFree.of_bodySF (plainFor_of_name pn_0) hisR ?_
  intro p e s m args below meth c s₁ Bd hml0 hP hK
  obtain ⟨rfl, hZ, hh⟩ := hP
  have hx := Bd.exec
  have hby := Bd.bytes
  have hml : c.maxLocals = 3 := hml0
  have hown : s.vm.findClass "org/beanpath/expr/AxisIsEmptyFromTextPinLaw" = some m.cls := findClass_of_methodNamed Bd.named
  have hnm := (name_of_methodNamed Bd.named Bd.method).1
  have X0 : Stand p l e room_1 s m #[(.int p1)] below meth c s₁ [] 0 0 := Stand.of_body Bd
  have e0 : s₁.heap = h0 := by rw [← hh, Bd.state]; rfl
  have N0 := Fr.nil n0
  have pre0 : ∀ t, Steps p.tables e below (s₁.setTop (mkF m 0 #[.val (.int p1), .unset, .unset] [])) t → Steps p.tables e below (s₁.setTop (entryFrame m #[(.int p1)] maxLocals)) t := fun t k => castTop (ef_rm0 m p1) k
  have pre1 : ∀ t, Steps p.tables e below (s₁.setTop (mkF m 7 #[.val (.int p1), .unset, .unset] [(.int ((p1 &&& (2147483647 : Int32)) % (13 : Int32)))])) t → Steps p.tables e below (s₁.setTop (entryFrame m #[(.int p1)] maxLocals)) t := fun t k => pre0 t (by
    show Steps p.tables e below (s₁.setTop (mkF m 0 #[.val (.int p1), .unset, .unset] [])) _
    refine XS.iloadN X0.here hx rfl (hb hby at_0) rfl ?_
    show Steps p.tables e below (s₁.setTop (mkF m 1 #[.val (.int p1), .unset, .unset] [(.int p1)])) _
    refine X0.ldcInt hx hown (mvT hZ (hw _ (List.mem_of_getElem? (i := 0) rfl))) (g := (mkF m 1 #[.val (.int p1), .unset, .unset] [(.int p1)])) rfl (hb hby at_1) _ ?_
    show Steps p.tables e below (s₁.setTop (mkF m 3 #[.val (.int p1), .unset, .unset] [(.int (2147483647 : Int32)), (.int p1)])) _
    refine XS.iand X0.here hx rfl (hb hby at_3) rfl ?_
    show Steps p.tables e below (s₁.setTop (mkF m 4 #[.val (.int p1), .unset, .unset] [(.int (p1 &&& (2147483647 : Int32)))])) _
    refine XT.bipushV X0.here hx rfl (13 : Int32) (hb hby at_4) (by decide) ?_
    show Steps p.tables e below (s₁.setTop (mkF m 6 #[.val (.int p1), .unset, .unset] [(.int (13 : Int32)), (.int (p1 &&& (2147483647 : Int32)))])) _
    refine iremM X0 hx rfl (hb hby at_6) rfl (by decide) ?_
    exact k)
  rcases own_cases p1 with hk | hk | hk | hk | hk | hk | hk | hk | hk | hk | hk | hk | hk
  · have _ := 0
    obtain ⟨_, _, ⟨T2, L2, k2, n2⟩, -, X2, ⟨Lc2, hQ2, l2, y2, z2⟩, st2⟩ := Jvm.LawKit.callS X0 hx (y := (⟨"org/beanpath/expr/AxisIsEmptyFromTextPinLaw", "axisAt", "(I)Lorg/beanpath/expr/Axis;"⟩ : MethodName)) hown (mvT hZ (hw _ (List.mem_of_getElem? (i := 1) rfl))) (mvT hZ (hw _ (List.mem_of_getElem? (i := 2) rfl))) (mvT hZ (hw _ (List.mem_of_getElem? (i := 3) rfl))) (mvT hZ (hw _ (List.mem_of_getElem? (i := 4) rfl))) (by decide) (backOf (W := 0) (rm_pick l Z a0 hw [] (0 : Int32) h0 n0 Z0 a_ANCESTOR S_ANCESTOR a_ANCESTOR_OR_SELF S_ANCESTOR_OR_SELF a_ATTRIBUTE S_ATTRIBUTE a_CHILD S_CHILD a_DESCENDANT S_DESCENDANT a_DESCENDANT_OR_SELF S_DESCENDANT_OR_SELF a_FOLLOWING S_FOLLOWING a_FOLLOWING_SIBLING S_FOLLOWING_SIBLING a_NAMESPACE S_NAMESPACE a_PARENT S_PARENT a_PRECEDING S_PRECEDING a_PRECEDING_SIBLING S_PRECEDING_SIBLING a_SELF S_SELF a_ANCESTOR (by first | rfl | simp [own_pick])) hZ (hw _ (List.mem_of_getElem? (i := 4) rfl)) (hw _ (List.mem_of_getElem? (i := 3) rfl)) (by decide) (by decide)) (g := (mkF m 9 #[.val (.int p1), .val (.int (0 : Int32)), .unset] [(.int (0 : Int32))])) rfl (by rw [hml]; rfl) (argsL := [(.int (0 : Int32))]) (rest := []) (lenOf pd_0 rfl) rfl (by show 2 * 0 + _ ≤ _; exact Nat.le_of_eq rfl) (hb hby at_9) (fun _ _ => ⟨rfl, e0, (by decide : 0 + 0 ≤ _), (by decide : 0 + 0 ≤ _)⟩)
    dsimp only [Pt.U, Pt.locs, Pt.cells, Pt.slots] at X2 l2 y2 z2 st2 hQ2
    subst l2 y2 z2
    obtain ⟨rfl, N2q, e2⟩ := hQ2
    have N2 := Fr.app N0 N2q
    obtain ⟨cq3, kq3, q3a, q3b, q3c⟩ := isOf hZ e2 E_ANCESTOR
    obtain ⟨_, _, ⟨T3, L3, k3, n3⟩, -, X3, ⟨Lc3, hQ3, l3, y3, z3⟩, st3⟩ := X2.virtualBack hx (y := (⟨"org/beanpath/expr/Axis", "isEmptyFromText", "()Z"⟩ : MethodName)) (z := (⟨"org/beanpath/expr/Axis", "isEmptyFromText", "()Z"⟩ : MethodName)) hown (mvT hZ (hw _ (List.mem_of_getElem? (i := 8) rfl))) (mvT hZ (hw _ (List.mem_of_getElem? (i := 9) rfl))) (notFace_of_selects (args := #[]) (mvT hZ (hw _ (List.mem_of_getElem? (i := 11) rfl)))) (mvT hZ (hw _ (List.mem_of_getElem? (i := 11) rfl))) (mvT hZ (hw _ (List.mem_of_getElem? (i := 10) rfl))) (by decide) (backOf (W := 0) (rm_fin l Z a0 hw [] a_ANCESTOR h0 n0 Z0 a_CHILD S_CHILD a_DESCENDANT S_DESCENDANT a_ATTRIBUTE S_ATTRIBUTE a_NAMESPACE S_NAMESPACE (0 : Int32) (by simp [own_fin, (ne_exa E_ANCESTOR E_CHILD (by decide)), (ne_exa E_ANCESTOR E_DESCENDANT (by decide)), (ne_exa E_ANCESTOR E_ATTRIBUTE (by decide)), (ne_exa E_ANCESTOR E_NAMESPACE (by decide))])) hZ (hw _ (List.mem_of_getElem? (i := 12) rfl)) (hw _ (List.mem_of_getElem? (i := 6) rfl)) (by decide) (by decide)) q3a q3c (g := (mkF m 14 #[.val (.int p1), .val (.int (0 : Int32)), .val (.ref a_ANCESTOR)] [(.ref a_ANCESTOR)])) rfl (by rw [hml]; rfl) (Steps.refl _) (argsL := []) (rest := []) (lenOf pd_1 rfl) rfl (by show 2 * 0 + _ ≤ _; exact Nat.le_of_eq rfl) (hb hby at_14) (fun _ _ => ⟨rfl, e2, (by decide : 0 + 0 ≤ _), (by decide : 0 + 0 ≤ _)⟩)
    dsimp only [Pt.U, Pt.locs, Pt.cells, Pt.slots] at X3 l3 y3 z3 st3 hQ3
    subst l3 y3 z3
    obtain ⟨rfl, N3q, e3⟩ := hQ3
    have N3 := Fr.app N2 N3q
    obtain ⟨_, _, ⟨T4, L4, k4, n4⟩, -, X4, ⟨Lc4, hQ4, l4, y4, z4⟩, st4⟩ := Jvm.LawKit.callS X3 hx (y := (⟨"org/beanpath/expr/AxisIsEmptyFromTextPinLaw", "leadsNowhereFromText", "(I)Z"⟩ : MethodName)) hown (mvT hZ (hw _ (List.mem_of_getElem? (i := 21) rfl))) (mvT hZ (hw _ (List.mem_of_getElem? (i := 22) rfl))) (mvT hZ (hw _ (List.mem_of_getElem? (i := 3) rfl))) (mvT hZ (hw _ (List.mem_of_getElem? (i := 23) rfl))) (by decide) (backOf (W := 1) (rm_lead l Z a0 hw [] (0 : Int32) h0 n0 Z0 (0 : Int32) (by first | rfl | decide)) hZ (hw _ (List.mem_of_getElem? (i := 23) rfl)) (hw _ (List.mem_of_getElem? (i := 3) rfl)) (by decide) (by decide)) (g := (mkF m 18 #[.val (.int p1), .val (.int (0 : Int32)), .val (.ref a_ANCESTOR)] [(.int (0 : Int32)), (.int (0 : Int32))])) rfl (by rw [hml]; rfl) (argsL := [(.int (0 : Int32))]) (rest := [(.int (0 : Int32))]) (lenOf pd_2 rfl) rfl (by show 2 * 0 + _ ≤ _; exact Nat.le_of_eq rfl) (hb hby at_18) (fun _ _ => ⟨rfl, e3, (by decide : 0 + 0 ≤ _), (by decide : 0 + 0 ≤ _)⟩)
    dsimp only [Pt.U, Pt.locs, Pt.cells, Pt.slots] at X4 l4 y4 z4 st4 hQ4
    subst l4 y4 z4
    obtain ⟨rfl, N4q, e4⟩ := hQ4
    have N4 := Fr.app N3 N4q
    have pre5 : ∀ t, Steps p.tables e below (T4.setTop (mkF m 29 #[.val (.int p1), .val (.int (0 : Int32)), .val (.ref a_ANCESTOR)] [(.int (1 : Int32))])) t → Steps p.tables e below (s₁.setTop (entryFrame m #[(.int p1)] maxLocals)) t := fun t k => pre1 t (by
      show Steps p.tables e below (s₁.setTop (mkF m 7 #[.val (.int p1), .unset, .unset] [(.int ((p1 &&& (2147483647 : Int32)) % (13 : Int32)))])) _
      refine castTop (g' := (mkF m 7 #[.val (.int p1), .unset, .unset] [(.int (0 : Int32))])) (by rw [hk]) ?_
      show Steps p.tables e below (s₁.setTop (mkF m 7 #[.val (.int p1), .unset, .unset] [(.int (0 : Int32))])) _
      refine XS.istoreN X0.here hx rfl (hb hby at_7) rfl (l' := #[.val (.int p1), .val (.int (0 : Int32)), .unset]) rfl ?_
      show Steps p.tables e below (s₁.setTop (mkF m 8 #[.val (.int p1), .val (.int (0 : Int32)), .unset] [])) _
      refine XS.iloadN X0.here hx rfl (hb hby at_8) rfl ?_
      show Steps p.tables e below (s₁.setTop (mkF m 9 #[.val (.int p1), .val (.int (0 : Int32)), .unset] [(.int (0 : Int32))])) _
      refine st2 _ ?_
      show Steps p.tables e below (T2.setTop (mkF m 12 #[.val (.int p1), .val (.int (0 : Int32)), .unset] [(.ref a_ANCESTOR)])) _
      refine XS.astoreN X2.here hx rfl (hb hby at_12) rfl rfl (l' := #[.val (.int p1), .val (.int (0 : Int32)), .val (.ref a_ANCESTOR)]) rfl ?_
      show Steps p.tables e below (T2.setTop (mkF m 13 #[.val (.int p1), .val (.int (0 : Int32)), .val (.ref a_ANCESTOR)] [])) _
      refine XS.aloadN X2.here hx rfl (hb hby at_13) rfl rfl ?_
      show Steps p.tables e below (T2.setTop (mkF m 14 #[.val (.int p1), .val (.int (0 : Int32)), .val (.ref a_ANCESTOR)] [(.ref a_ANCESTOR)])) _
      refine st3.trans ?_
      show Steps p.tables e below (T3.setTop (mkF m 17 #[.val (.int p1), .val (.int (0 : Int32)), .val (.ref a_ANCESTOR)] [(.int (0 : Int32))])) _
      refine XS.iloadN X3.here hx rfl (hb hby at_17) rfl ?_
      show Steps p.tables e below (T3.setTop (mkF m 18 #[.val (.int p1), .val (.int (0 : Int32)), .val (.ref a_ANCESTOR)] [(.int (0 : Int32)), (.int (0 : Int32))])) _
      refine st4 _ ?_
      show Steps p.tables e below (T4.setTop (mkF m 21 #[.val (.int p1), .val (.int (0 : Int32)), .val (.ref a_ANCESTOR)] [(.int (0 : Int32)), (.int (0 : Int32))])) _
      refine XS.icmpNo X4.here hx rfl (hb hby at_21) rfl (teq (by decide : ((0 : Int32) = (0 : Int32)))).2 ?_
      show Steps p.tables e below (T4.setTop (mkF m 24 #[.val (.int p1), .val (.int (0 : Int32)), .val (.ref a_ANCESTOR)] [])) _
      refine XT.iconstV X4.here hx rfl (1 : Int32) (hb hby at_24) (by decide) ?_
      show Steps p.tables e below (T4.setTop (mkF m 25 #[.val (.int p1), .val (.int (0 : Int32)), .val (.ref a_ANCESTOR)] [(.int (1 : Int32))])) _
      refine XS.goto X4.here hx rfl (pc0 := 25) (pc' := 29) rfl (hb hby at_25) (by decide) (by decide) ?_
      exact k)
    obtain ⟨fs, hr, hrun, hended, hW, hsame⟩ := X4.leave (v := some (.int (1 : Int32))) (fun h => by rw [Bd.returns] at h; cases h)
    refine ⟨_, _, pre5 _ ?_, hrun, hended, _, _, rfl, ?_, ⟨_, rfl⟩, hW, hsame.mono (by decide) (by decide)⟩
    · show Steps p.tables e below (T4.setTop (mkF m 29 #[.val (.int p1), .val (.int (0 : Int32)), .val (.ref a_ANCESTOR)] [(.int (1 : Int32))])) _
      exact retOut X4 hx Bd.returns rfl (Or.inl ⟨rfl, by simp, _, rfl⟩) (hb hby at_29) hr
    · show Q0 Z p1  h0 n0 _ T4.heap _
      rw [e4]
      exact ⟨rfl, N4⟩
  · have _ := 0
    obtain ⟨_, _, ⟨T6, L6, k6, n6⟩, -, X6, ⟨Lc6, hQ6, l6, y6, z6⟩, st6⟩ := Jvm.LawKit.callS X0 hx (y := (⟨"org/beanpath/expr/AxisIsEmptyFromTextPinLaw", "axisAt", "(I)Lorg/beanpath/expr/Axis;"⟩ : MethodName)) hown (mvT hZ (hw _ (List.mem_of_getElem? (i := 1) rfl))) (mvT hZ (hw _ (List.mem_of_getElem? (i := 2) rfl))) (mvT hZ (hw _ (List.mem_of_getElem? (i := 3) rfl))) (mvT hZ (hw _ (List.mem_of_getElem? (i := 4) rfl))) (by decide) (backOf (W := 0) (rm_pick l Z a0 hw [] (1 : Int32) h0 n0 Z0 a_ANCESTOR S_ANCESTOR a_ANCESTOR_OR_SELF S_ANCESTOR_OR_SELF a_ATTRIBUTE S_ATTRIBUTE a_CHILD S_CHILD a_DESCENDANT S_DESCENDANT a_DESCENDANT_OR_SELF S_DESCENDANT_OR_SELF a_FOLLOWING S_FOLLOWING a_FOLLOWING_SIBLING S_FOLLOWING_SIBLING a_NAMESPACE S_NAMESPACE a_PARENT S_PARENT a_PRECEDING S_PRECEDING a_PRECEDING_SIBLING S_PRECEDING_SIBLING a_SELF S_SELF a_ANCESTOR_OR_SELF (by first | rfl | simp [own_pick])) hZ (hw _ (List.mem_of_getElem? (i := 4) rfl)) (hw _ (List.mem_of_getElem? (i := 3) rfl)) (by decide) (by decide)) (g := (mkF m 9 #[.val (.int p1), .val (.int (1 : Int32)), .unset] [(.int (1 : Int32))])) rfl (by rw [hml]; rfl) (argsL := [(.int (1 : Int32))]) (rest := []) (lenOf pd_0 rfl) rfl (by show 2 * 0 + _ ≤ _; exact Nat.le_of_eq rfl) (hb hby at_9) (fun _ _ => ⟨rfl, e0, (by decide : 0 + 0 ≤ _), (by decide : 0 + 0 ≤ _)⟩)
    dsimp only [Pt.U, Pt.locs, Pt.cells, Pt.slots] at X6 l6 y6 z6 st6 hQ6
    subst l6 y6 z6
    obtain ⟨rfl, N6q, e6⟩ := hQ6
    have N6 := Fr.app N0 N6q
    obtain ⟨cq7, kq7, q7a, q7b, q7c⟩ := isOf hZ e6 E_ANCESTOR_OR_SELF
    obtain ⟨_, _, ⟨T7, L7, k7, n7⟩, -, X7, ⟨Lc7, hQ7, l7, y7, z7⟩, st7⟩ := X6.virtualBack hx (y := (⟨"org/beanpath/expr/Axis", "isEmptyFromText", "()Z"⟩ : MethodName)) (z := (⟨"org/beanpath/expr/Axis", "isEmptyFromText", "()Z"⟩ : MethodName)) hown (mvT hZ (hw _ (List.mem_of_getElem? (i := 8) rfl))) (mvT hZ (hw _ (List.mem_of_getElem? (i := 9) rfl))) (notFace_of_selects (args := #[]) (mvT hZ (hw _ (List.mem_of_getElem? (i := 45) rfl)))) (mvT hZ (hw _ (List.mem_of_getElem? (i := 45) rfl))) (mvT hZ (hw _ (List.mem_of_getElem? (i := 10) rfl))) (by decide) (backOf (W := 0) (rm_fin l Z a0 hw [] a_ANCESTOR_OR_SELF h0 n0 Z0 a_CHILD S_CHILD a_DESCENDANT S_DESCENDANT a_ATTRIBUTE S_ATTRIBUTE a_NAMESPACE S_NAMESPACE (0 : Int32) (by simp [own_fin, (ne_exa E_ANCESTOR_OR_SELF E_CHILD (by decide)), (ne_exa E_ANCESTOR_OR_SELF E_DESCENDANT (by decide)), (ne_exa E_ANCESTOR_OR_SELF E_ATTRIBUTE (by decide)), (ne_exa E_ANCESTOR_OR_SELF E_NAMESPACE (by decide))])) hZ (hw _ (List.mem_of_getElem? (i := 12) rfl)) (hw _ (List.mem_of_getElem? (i := 6) rfl)) (by decide) (by decide)) q7a q7c (g := (mkF m 14 #[.val (.int p1), .val (.int (1 : Int32)), .val (.ref a_ANCESTOR_OR_SELF)] [(.ref a_ANCESTOR_OR_SELF)])) rfl (by rw [hml]; rfl) (Steps.refl _) (argsL := []) (rest := []) (lenOf pd_1 rfl) rfl (by show 2 * 0 + _ ≤ _; exact Nat.le_of_eq rfl) (hb hby at_14) (fun _ _ => ⟨rfl, e6, (by decide : 0 + 0 ≤ _), (by decide : 0 + 0 ≤ _)⟩)
    dsimp only [Pt.U, Pt.locs, Pt.cells, Pt.slots] at X7 l7 y7 z7 st7 hQ7
    subst l7 y7 z7
    obtain ⟨rfl, N7q, e7⟩ := hQ7
    have N7 := Fr.app N6 N7q
    obtain ⟨_, _, ⟨T8, L8, k8, n8⟩, -, X8, ⟨Lc8, hQ8, l8, y8, z8⟩, st8⟩ := Jvm.LawKit.callS X7 hx (y := (⟨"org/beanpath/expr/AxisIsEmptyFromTextPinLaw", "leadsNowhereFromText", "(I)Z"⟩ : MethodName)) hown (mvT hZ (hw _ (List.mem_of_getElem? (i := 21) rfl))) (mvT hZ (hw _ (List.mem_of_getElem? (i := 22) rfl))) (mvT hZ (hw _ (List.mem_of_getElem? (i := 3) rfl))) (mvT hZ (hw _ (List.mem_of_getElem? (i := 23) rfl))) (by decide) (backOf (W := 1) (rm_lead l Z a0 hw [] (1 : Int32) h0 n0 Z0 (0 : Int32) (by first | rfl | decide)) hZ (hw _ (List.mem_of_getElem? (i := 23) rfl)) (hw _ (List.mem_of_getElem? (i := 3) rfl)) (by decide) (by decide)) (g := (mkF m 18 #[.val (.int p1), .val (.int (1 : Int32)), .val (.ref a_ANCESTOR_OR_SELF)] [(.int (1 : Int32)), (.int (0 : Int32))])) rfl (by rw [hml]; rfl) (argsL := [(.int (1 : Int32))]) (rest := [(.int (0 : Int32))]) (lenOf pd_2 rfl) rfl (by show 2 * 0 + _ ≤ _; exact Nat.le_of_eq rfl) (hb hby at_18) (fun _ _ => ⟨rfl, e7, (by decide : 0 + 0 ≤ _), (by decide : 0 + 0 ≤ _)⟩)
    dsimp only [Pt.U, Pt.locs, Pt.cells, Pt.slots] at X8 l8 y8 z8 st8 hQ8
    subst l8 y8 z8
    obtain ⟨rfl, N8q, e8⟩ := hQ8
    have N8 := Fr.app N7 N8q
    have pre9 : ∀ t, Steps p.tables e below (T8.setTop (mkF m 29 #[.val (.int p1), .val (.int (1 : Int32)), .val (.ref a_ANCESTOR_OR_SELF)] [(.int (1 : Int32))])) t → Steps p.tables e below (s₁.setTop (entryFrame m #[(.int p1)] maxLocals)) t := fun t k => pre1 t (by
      show Steps p.tables e below (s₁.setTop (mkF m 7 #[.val (.int p1), .unset, .unset] [(.int ((p1 &&& (2147483647 : Int32)) % (13 : Int32)))])) _
      refine castTop (g' := (mkF m 7 #[.val (.int p1), .unset, .unset] [(.int (1 : Int32))])) (by rw [hk]) ?_
      show Steps p.tables e below (s₁.setTop (mkF m 7 #[.val (.int p1), .unset, .unset] [(.int (1 : Int32))])) _
      refine XS.istoreN X0.here hx rfl (hb hby at_7) rfl (l' := #[.val (.int p1), .val (.int (1 : Int32)), .unset]) rfl ?_
      show Steps p.tables e below (s₁.setTop (mkF m 8 #[.val (.int p1), .val (.int (1 : Int32)), .unset] [])) _
      refine XS.iloadN X0.here hx rfl (hb hby at_8) rfl ?_
      show Steps p.tables e below (s₁.setTop (mkF m 9 #[.val (.int p1), .val (.int (1 : Int32)), .unset] [(.int (1 : Int32))])) _
      refine st6 _ ?_
      show Steps p.tables e below (T6.setTop (mkF m 12 #[.val (.int p1), .val (.int (1 : Int32)), .unset] [(.ref a_ANCESTOR_OR_SELF)])) _
      refine XS.astoreN X6.here hx rfl (hb hby at_12) rfl rfl (l' := #[.val (.int p1), .val (.int (1 : Int32)), .val (.ref a_ANCESTOR_OR_SELF)]) rfl ?_
      show Steps p.tables e below (T6.setTop (mkF m 13 #[.val (.int p1), .val (.int (1 : Int32)), .val (.ref a_ANCESTOR_OR_SELF)] [])) _
      refine XS.aloadN X6.here hx rfl (hb hby at_13) rfl rfl ?_
      show Steps p.tables e below (T6.setTop (mkF m 14 #[.val (.int p1), .val (.int (1 : Int32)), .val (.ref a_ANCESTOR_OR_SELF)] [(.ref a_ANCESTOR_OR_SELF)])) _
      refine st7.trans ?_
      show Steps p.tables e below (T7.setTop (mkF m 17 #[.val (.int p1), .val (.int (1 : Int32)), .val (.ref a_ANCESTOR_OR_SELF)] [(.int (0 : Int32))])) _
      refine XS.iloadN X7.here hx rfl (hb hby at_17) rfl ?_
      show Steps p.tables e below (T7.setTop (mkF m 18 #[.val (.int p1), .val (.int (1 : Int32)), .val (.ref a_ANCESTOR_OR_SELF)] [(.int (1 : Int32)), (.int (0 : Int32))])) _
      refine st8 _ ?_
      show Steps p.tables e below (T8.setTop (mkF m 21 #[.val (.int p1), .val (.int (1 : Int32)), .val (.ref a_ANCESTOR_OR_SELF)] [(.int (0 : Int32)), (.int (0 : Int32))])) _
      refine XS.icmpNo X8.here hx rfl (hb hby at_21) rfl (teq (by decide : ((0 : Int32) = (0 : Int32)))).2 ?_
      show Steps p.tables e below (T8.setTop (mkF m 24 #[.val (.int p1), .val (.int (1 : Int32)), .val (.ref a_ANCESTOR_OR_SELF)] [])) _
      refine XT.iconstV X8.here hx rfl (1 : Int32) (hb hby at_24) (by decide) ?_
      show Steps p.tables e below (T8.setTop (mkF m 25 #[.val (.int p1), .val (.int (1 : Int32)), .val (.ref a_ANCESTOR_OR_SELF)] [(.int (1 : Int32))])) _
      refine XS.goto X8.here hx rfl (pc0 := 25) (pc' := 29) rfl (hb hby at_25) (by decide) (by decide) ?_
      exact k)
    obtain ⟨fs, hr, hrun, hended, hW, hsame⟩ := X8.leave (v := some (.int (1 : Int32))) (fun h => by rw [Bd.returns] at h; cases h)
    refine ⟨_, _, pre9 _ ?_, hrun, hended, _, _, rfl, ?_, ⟨_, rfl⟩, hW, hsame.mono (by decide) (by decide)⟩
    · show Steps p.tables e below (T8.setTop (mkF m 29 #[.val (.int p1), .val (.int (1 : Int32)), .val (.ref a_ANCESTOR_OR_SELF)] [(.int (1 : Int32))])) _
      exact retOut X8 hx Bd.returns rfl (Or.inl ⟨rfl, by simp, _, rfl⟩) (hb hby at_29) hr
    · show Q0 Z p1  h0 n0 _ T8.heap _
      rw [e8]
      exact ⟨rfl, N8⟩
  · have _ := 0
    obtain ⟨_, _, ⟨T10, L10, k10, n10⟩, -, X10, ⟨Lc10, hQ10, l10, y10, z10⟩, st10⟩ := Jvm.LawKit.callS X0 hx (y := (⟨"org/beanpath/expr/AxisIsEmptyFromTextPinLaw", "axisAt", "(I)Lorg/beanpath/expr/Axis;"⟩ : MethodName)) hown (mvT hZ (hw _ (List.mem_of_getElem? (i := 1) rfl))) (mvT hZ (hw _ (List.mem_of_getElem? (i := 2) rfl))) (mvT hZ (hw _ (List.mem_of_getElem? (i := 3) rfl))) (mvT hZ (hw _ (List.mem_of_getElem? (i := 4) rfl))) (by decide) (backOf (W := 0) (rm_pick l Z a0 hw [] (2 : Int32) h0 n0 Z0 a_ANCESTOR S_ANCESTOR a_ANCESTOR_OR_SELF S_ANCESTOR_OR_SELF a_ATTRIBUTE S_ATTRIBUTE a_CHILD S_CHILD a_DESCENDANT S_DESCENDANT a_DESCENDANT_OR_SELF S_DESCENDANT_OR_SELF a_FOLLOWING S_FOLLOWING a_FOLLOWING_SIBLING S_FOLLOWING_SIBLING a_NAMESPACE S_NAMESPACE a_PARENT S_PARENT a_PRECEDING S_PRECEDING a_PRECEDING_SIBLING S_PRECEDING_SIBLING a_SELF S_SELF a_ATTRIBUTE (by first | rfl | simp [own_pick])) hZ (hw _ (List.mem_of_getElem? (i := 4) rfl)) (hw _ (List.mem_of_getElem? (i := 3) rfl)) (by decide) (by decide)) (g := (mkF m 9 #[.val (.int p1), .val (.int (2 : Int32)), .unset] [(.int (2 : Int32))])) rfl (by rw [hml]; rfl) (argsL := [(.int (2 : Int32))]) (rest := []) (lenOf pd_0 rfl) rfl (by show 2 * 0 + _ ≤ _; exact Nat.le_of_eq rfl) (hb hby at_9) (fun _ _ => ⟨rfl, e0, (by decide : 0 + 0 ≤ _), (by decide : 0 + 0 ≤ _)⟩)
    dsimp only [Pt.U, Pt.locs, Pt.cells, Pt.slots] at X10 l10 y10 z10 st10 hQ10
    subst l10 y10 z10
    obtain ⟨rfl, N10q, e10⟩ := hQ10
    have N10 := Fr.app N0 N10q
    obtain ⟨cq11, kq11, q11a, q11b, q11c⟩ := isOf hZ e10 E_ATTRIBUTE
    obtain ⟨_, _, ⟨T11, L11, k11, n11⟩, -, X11, ⟨Lc11, hQ11, l11, y11, z11⟩, st11⟩ := X10.virtualBack hx (y := (⟨"org/beanpath/expr/Axis", "isEmptyFromText", "()Z"⟩ : MethodName)) (z := (⟨"org/beanpath/expr/Axis", "isEmptyFromText", "()Z"⟩ : MethodName)) hown (mvT hZ (hw _ (List.mem_of_getElem? (i := 8) rfl))) (mvT hZ (hw _ (List.mem_of_getElem? (i := 9) rfl))) (notFace_of_selects (args := #[]) (mvT hZ (hw _ (List.mem_of_getElem? (i := 39) rfl)))) (mvT hZ (hw _ (List.mem_of_getElem? (i := 39) rfl))) (mvT hZ (hw _ (List.mem_of_getElem? (i := 10) rfl))) (by decide) (backOf (W := 0) (rm_fin l Z a0 hw [] a_ATTRIBUTE h0 n0 Z0 a_CHILD S_CHILD a_DESCENDANT S_DESCENDANT a_ATTRIBUTE S_ATTRIBUTE a_NAMESPACE S_NAMESPACE (1 : Int32) (by simp [own_fin, (ne_exa E_ATTRIBUTE E_CHILD (by decide)), (ne_exa E_ATTRIBUTE E_DESCENDANT (by decide)), (ne_exa E_ATTRIBUTE E_NAMESPACE (by decide))])) hZ (hw _ (List.mem_of_getElem? (i := 12) rfl)) (hw _ (List.mem_of_getElem? (i := 6) rfl)) (by decide) (by decide)) q11a q11c (g := (mkF m 14 #[.val (.int p1), .val (.int (2 : Int32)), .val (.ref a_ATTRIBUTE)] [(.ref a_ATTRIBUTE)])) rfl (by rw [hml]; rfl) (Steps.refl _) (argsL := []) (rest := []) (lenOf pd_1 rfl) rfl (by show 2 * 0 + _ ≤ _; exact Nat.le_of_eq rfl) (hb hby at_14) (fun _ _ => ⟨rfl, e10, (by decide : 0 + 0 ≤ _), (by decide : 0 + 0 ≤ _)⟩)
    dsimp only [Pt.U, Pt.locs, Pt.cells, Pt.slots] at X11 l11 y11 z11 st11 hQ11
    subst l11 y11 z11
    obtain ⟨rfl, N11q, e11⟩ := hQ11
    have N11 := Fr.app N10 N11q
    obtain ⟨_, _, ⟨T12, L12, k12, n12⟩, -, X12, ⟨Lc12, hQ12, l12, y12, z12⟩, st12⟩ := Jvm.LawKit.callS X11 hx (y := (⟨"org/beanpath/expr/AxisIsEmptyFromTextPinLaw", "leadsNowhereFromText", "(I)Z"⟩ : MethodName)) hown (mvT hZ (hw _ (List.mem_of_getElem? (i := 21) rfl))) (mvT hZ (hw _ (List.mem_of_getElem? (i := 22) rfl))) (mvT hZ (hw _ (List.mem_of_getElem? (i := 3) rfl))) (mvT hZ (hw _ (List.mem_of_getElem? (i := 23) rfl))) (by decide) (backOf (W := 1) (rm_lead l Z a0 hw [] (2 : Int32) h0 n0 Z0 (1 : Int32) (by first | rfl | decide)) hZ (hw _ (List.mem_of_getElem? (i := 23) rfl)) (hw _ (List.mem_of_getElem? (i := 3) rfl)) (by decide) (by decide)) (g := (mkF m 18 #[.val (.int p1), .val (.int (2 : Int32)), .val (.ref a_ATTRIBUTE)] [(.int (2 : Int32)), (.int (1 : Int32))])) rfl (by rw [hml]; rfl) (argsL := [(.int (2 : Int32))]) (rest := [(.int (1 : Int32))]) (lenOf pd_2 rfl) rfl (by show 2 * 0 + _ ≤ _; exact Nat.le_of_eq rfl) (hb hby at_18) (fun _ _ => ⟨rfl, e11, (by decide : 0 + 0 ≤ _), (by decide : 0 + 0 ≤ _)⟩)
    dsimp only [Pt.U, Pt.locs, Pt.cells, Pt.slots] at X12 l12 y12 z12 st12 hQ12
    subst l12 y12 z12
    obtain ⟨rfl, N12q, e12⟩ := hQ12
    have N12 := Fr.app N11 N12q
    have pre13 : ∀ t, Steps p.tables e below (T12.setTop (mkF m 29 #[.val (.int p1), .val (.int (2 : Int32)), .val (.ref a_ATTRIBUTE)] [(.int (1 : Int32))])) t → Steps p.tables e below (s₁.setTop (entryFrame m #[(.int p1)] maxLocals)) t := fun t k => pre1 t (by
      show Steps p.tables e below (s₁.setTop (mkF m 7 #[.val (.int p1), .unset, .unset] [(.int ((p1 &&& (2147483647 : Int32)) % (13 : Int32)))])) _
      refine castTop (g' := (mkF m 7 #[.val (.int p1), .unset, .unset] [(.int (2 : Int32))])) (by rw [hk]) ?_
      show Steps p.tables e below (s₁.setTop (mkF m 7 #[.val (.int p1), .unset, .unset] [(.int (2 : Int32))])) _
      refine XS.istoreN X0.here hx rfl (hb hby at_7) rfl (l' := #[.val (.int p1), .val (.int (2 : Int32)), .unset]) rfl ?_
      show Steps p.tables e below (s₁.setTop (mkF m 8 #[.val (.int p1), .val (.int (2 : Int32)), .unset] [])) _
      refine XS.iloadN X0.here hx rfl (hb hby at_8) rfl ?_
      show Steps p.tables e below (s₁.setTop (mkF m 9 #[.val (.int p1), .val (.int (2 : Int32)), .unset] [(.int (2 : Int32))])) _
      refine st10 _ ?_
      show Steps p.tables e below (T10.setTop (mkF m 12 #[.val (.int p1), .val (.int (2 : Int32)), .unset] [(.ref a_ATTRIBUTE)])) _
      refine XS.astoreN X10.here hx rfl (hb hby at_12) rfl rfl (l' := #[.val (.int p1), .val (.int (2 : Int32)), .val (.ref a_ATTRIBUTE)]) rfl ?_
      show Steps p.tables e below (T10.setTop (mkF m 13 #[.val (.int p1), .val (.int (2 : Int32)), .val (.ref a_ATTRIBUTE)] [])) _
      refine XS.aloadN X10.here hx rfl (hb hby at_13) rfl rfl ?_
      show Steps p.tables e below (T10.setTop (mkF m 14 #[.val (.int p1), .val (.int (2 : Int32)), .val (.ref a_ATTRIBUTE)] [(.ref a_ATTRIBUTE)])) _
      refine st11.trans ?_
      show Steps p.tables e below (T11.setTop (mkF m 17 #[.val (.int p1), .val (.int (2 : Int32)), .val (.ref a_ATTRIBUTE)] [(.int (1 : Int32))])) _
      refine XS.iloadN X11.here hx rfl (hb hby at_17) rfl ?_
      show Steps p.tables e below (T11.setTop (mkF m 18 #[.val (.int p1), .val (.int (2 : Int32)), .val (.ref a_ATTRIBUTE)] [(.int (2 : Int32)), (.int (1 : Int32))])) _
      refine st12 _ ?_
      show Steps p.tables e below (T12.setTop (mkF m 21 #[.val (.int p1), .val (.int (2 : Int32)), .val (.ref a_ATTRIBUTE)] [(.int (1 : Int32)), (.int (1 : Int32))])) _
      refine XS.icmpNo X12.here hx rfl (hb hby at_21) rfl (teq (by decide : ((1 : Int32) = (1 : Int32)))).2 ?_
      show Steps p.tables e below (T12.setTop (mkF m 24 #[.val (.int p1), .val (.int (2 : Int32)), .val (.ref a_ATTRIBUTE)] [])) _
      refine XT.iconstV X12.here hx rfl (1 : Int32) (hb hby at_24) (by decide) ?_
      show Steps p.tables e below (T12.setTop (mkF m 25 #[.val (.int p1), .val (.int (2 : Int32)), .val (.ref a_ATTRIBUTE)] [(.int (1 : Int32))])) _
      refine XS.goto X12.here hx rfl (pc0 := 25) (pc' := 29) rfl (hb hby at_25) (by decide) (by decide) ?_
      exact k)
    obtain ⟨fs, hr, hrun, hended, hW, hsame⟩ := X12.leave (v := some (.int (1 : Int32))) (fun h => by rw [Bd.returns] at h; cases h)
    refine ⟨_, _, pre13 _ ?_, hrun, hended, _, _, rfl, ?_, ⟨_, rfl⟩, hW, hsame.mono (by decide) (by decide)⟩
    · show Steps p.tables e below (T12.setTop (mkF m 29 #[.val (.int p1), .val (.int (2 : Int32)), .val (.ref a_ATTRIBUTE)] [(.int (1 : Int32))])) _
      exact retOut X12 hx Bd.returns rfl (Or.inl ⟨rfl, by simp, _, rfl⟩) (hb hby at_29) hr
    · show Q0 Z p1  h0 n0 _ T12.heap _
      rw [e12]
      exact ⟨rfl, N12⟩
  · have _ := 0
    obtain ⟨_, _, ⟨T14, L14, k14, n14⟩, -, X14, ⟨Lc14, hQ14, l14, y14, z14⟩, st14⟩ := Jvm.LawKit.callS X0 hx (y := (⟨"org/beanpath/expr/AxisIsEmptyFromTextPinLaw", "axisAt", "(I)Lorg/beanpath/expr/Axis;"⟩ : MethodName)) hown (mvT hZ (hw _ (List.mem_of_getElem? (i := 1) rfl))) (mvT hZ (hw _ (List.mem_of_getElem? (i := 2) rfl))) (mvT hZ (hw _ (List.mem_of_getElem? (i := 3) rfl))) (mvT hZ (hw _ (List.mem_of_getElem? (i := 4) rfl))) (by decide) (backOf (W := 0) (rm_pick l Z a0 hw [] (3 : Int32) h0 n0 Z0 a_ANCESTOR S_ANCESTOR a_ANCESTOR_OR_SELF S_ANCESTOR_OR_SELF a_ATTRIBUTE S_ATTRIBUTE a_CHILD S_CHILD a_DESCENDANT S_DESCENDANT a_DESCENDANT_OR_SELF S_DESCENDANT_OR_SELF a_FOLLOWING S_FOLLOWING a_FOLLOWING_SIBLING S_FOLLOWING_SIBLING a_NAMESPACE S_NAMESPACE a_PARENT S_PARENT a_PRECEDING S_PRECEDING a_PRECEDING_SIBLING S_PRECEDING_SIBLING a_SELF S_SELF a_CHILD (by first | rfl | simp [own_pick])) hZ (hw _ (List.mem_of_getElem? (i := 4) rfl)) (hw _ (List.mem_of_getElem? (i := 3) rfl)) (by decide) (by decide)) (g := (mkF m 9 #[.val (.int p1), .val (.int (3 : Int32)), .unset] [(.int (3 : Int32))])) rfl (by rw [hml]; rfl) (argsL := [(.int (3 : Int32))]) (rest := []) (lenOf pd_0 rfl) rfl (by show 2 * 0 + _ ≤ _; exact Nat.le_of_eq rfl) (hb hby at_9) (fun _ _ => ⟨rfl, e0, (by decide : 0 + 0 ≤ _), (by decide : 0 + 0 ≤ _)⟩)
    dsimp only [Pt.U, Pt.locs, Pt.cells, Pt.slots] at X14 l14 y14 z14 st14 hQ14
    subst l14 y14 z14
    obtain ⟨rfl, N14q, e14⟩ := hQ14
    have N14 := Fr.app N0 N14q
    obtain ⟨cq15, kq15, q15a, q15b, q15c⟩ := isOf hZ e14 E_CHILD
    obtain ⟨_, _, ⟨T15, L15, k15, n15⟩, -, X15, ⟨Lc15, hQ15, l15, y15, z15⟩, st15⟩ := X14.virtualBack hx (y := (⟨"org/beanpath/expr/Axis", "isEmptyFromText", "()Z"⟩ : MethodName)) (z := (⟨"org/beanpath/expr/Axis", "isEmptyFromText", "()Z"⟩ : MethodName)) hown (mvT hZ (hw _ (List.mem_of_getElem? (i := 8) rfl))) (mvT hZ (hw _ (List.mem_of_getElem? (i := 9) rfl))) (notFace_of_selects (args := #[]) (mvT hZ (hw _ (List.mem_of_getElem? (i := 25) rfl)))) (mvT hZ (hw _ (List.mem_of_getElem? (i := 25) rfl))) (mvT hZ (hw _ (List.mem_of_getElem? (i := 10) rfl))) (by decide) (backOf (W := 0) (rm_fin l Z a0 hw [] a_CHILD h0 n0 Z0 a_CHILD S_CHILD a_DESCENDANT S_DESCENDANT a_ATTRIBUTE S_ATTRIBUTE a_NAMESPACE S_NAMESPACE (1 : Int32) (by simp [own_fin, (ne_exa E_CHILD E_DESCENDANT (by decide)), (ne_exa E_CHILD E_ATTRIBUTE (by decide)), (ne_exa E_CHILD E_NAMESPACE (by decide))])) hZ (hw _ (List.mem_of_getElem? (i := 12) rfl)) (hw _ (List.mem_of_getElem? (i := 6) rfl)) (by decide) (by decide)) q15a q15c (g := (mkF m 14 #[.val (.int p1), .val (.int (3 : Int32)), .val (.ref a_CHILD)] [(.ref a_CHILD)])) rfl (by rw [hml]; rfl) (Steps.refl _) (argsL := []) (rest := []) (lenOf pd_1 rfl) rfl (by show 2 * 0 + _ ≤ _; exact Nat.le_of_eq rfl) (hb hby at_14) (fun _ _ => ⟨rfl, e14, (by decide : 0 + 0 ≤ _), (by decide : 0 + 0 ≤ _)⟩)
    dsimp only [Pt.U, Pt.locs, Pt.cells, Pt.slots] at X15 l15 y15 z15 st15 hQ15
    subst l15 y15 z15
    obtain ⟨rfl, N15q, e15⟩ := hQ15
    have N15 := Fr.app N14 N15q
    obtain ⟨_, _, ⟨T16, L16, k16, n16⟩, -, X16, ⟨Lc16, hQ16, l16, y16, z16⟩, st16⟩ := Jvm.LawKit.callS X15 hx (y := (⟨"org/beanpath/expr/AxisIsEmptyFromTextPinLaw", "leadsNowhereFromText", "(I)Z"⟩ : MethodName)) hown (mvT hZ (hw _ (List.mem_of_getElem? (i := 21) rfl))) (mvT hZ (hw _ (List.mem_of_getElem? (i := 22) rfl))) (mvT hZ (hw _ (List.mem_of_getElem? (i := 3) rfl))) (mvT hZ (hw _ (List.mem_of_getElem? (i := 23) rfl))) (by decide) (backOf (W := 1) (rm_lead l Z a0 hw [] (3 : Int32) h0 n0 Z0 (1 : Int32) (by first | rfl | decide)) hZ (hw _ (List.mem_of_getElem? (i := 23) rfl)) (hw _ (List.mem_of_getElem? (i := 3) rfl)) (by decide) (by decide)) (g := (mkF m 18 #[.val (.int p1), .val (.int (3 : Int32)), .val (.ref a_CHILD)] [(.int (3 : Int32)), (.int (1 : Int32))])) rfl (by rw [hml]; rfl) (argsL := [(.int (3 : Int32))]) (rest := [(.int (1 : Int32))]) (lenOf pd_2 rfl) rfl (by show 2 * 0 + _ ≤ _; exact Nat.le_of_eq rfl) (hb hby at_18) (fun _ _ => ⟨rfl, e15, (by decide : 0 + 0 ≤ _), (by decide : 0 + 0 ≤ _)⟩)
    dsimp only [Pt.U, Pt.locs, Pt.cells, Pt.slots] at X16 l16 y16 z16 st16 hQ16
    subst l16 y16 z16
    obtain ⟨rfl, N16q, e16⟩ := hQ16
    have N16 := Fr.app N15 N16q
    have pre17 : ∀ t, Steps p.tables e below (T16.setTop (mkF m 29 #[.val (.int p1), .val (.int (3 : Int32)), .val (.ref a_CHILD)] [(.int (1 : Int32))])) t → Steps p.tables e below (s₁.setTop (entryFrame m #[(.int p1)] maxLocals)) t := fun t k => pre1 t (by
      show Steps p.tables e below (s₁.setTop (mkF m 7 #[.val (.int p1), .unset, .unset] [(.int ((p1 &&& (2147483647 : Int32)) % (13 : Int32)))])) _
      refine castTop (g' := (mkF m 7 #[.val (.int p1), .unset, .unset] [(.int (3 : Int32))])) (by rw [hk]) ?_
      show Steps p.tables e below (s₁.setTop (mkF m 7 #[.val (.int p1), .unset, .unset] [(.int (3 : Int32))])) _
      refine XS.istoreN X0.here hx rfl (hb hby at_7) rfl (l' := #[.val (.int p1), .val (.int (3 : Int32)), .unset]) rfl ?_
      show Steps p.tables e below (s₁.setTop (mkF m 8 #[.val (.int p1), .val (.int (3 : Int32)), .unset] [])) _
      refine XS.iloadN X0.here hx rfl (hb hby at_8) rfl ?_
      show Steps p.tables e below (s₁.setTop (mkF m 9 #[.val (.int p1), .val (.int (3 : Int32)), .unset] [(.int (3 : Int32))])) _
      refine st14 _ ?_
      show Steps p.tables e below (T14.setTop (mkF m 12 #[.val (.int p1), .val (.int (3 : Int32)), .unset] [(.ref a_CHILD)])) _
      refine XS.astoreN X14.here hx rfl (hb hby at_12) rfl rfl (l' := #[.val (.int p1), .val (.int (3 : Int32)), .val (.ref a_CHILD)]) rfl ?_
      show Steps p.tables e below (T14.setTop (mkF m 13 #[.val (.int p1), .val (.int (3 : Int32)), .val (.ref a_CHILD)] [])) _
      refine XS.aloadN X14.here hx rfl (hb hby at_13) rfl rfl ?_
      show Steps p.tables e below (T14.setTop (mkF m 14 #[.val (.int p1), .val (.int (3 : Int32)), .val (.ref a_CHILD)] [(.ref a_CHILD)])) _
      refine st15.trans ?_
      show Steps p.tables e below (T15.setTop (mkF m 17 #[.val (.int p1), .val (.int (3 : Int32)), .val (.ref a_CHILD)] [(.int (1 : Int32))])) _
      refine XS.iloadN X15.here hx rfl (hb hby at_17) rfl ?_
      show Steps p.tables e below (T15.setTop (mkF m 18 #[.val (.int p1), .val (.int (3 : Int32)), .val (.ref a_CHILD)] [(.int (3 : Int32)), (.int (1 : Int32))])) _
      refine st16 _ ?_
      show Steps p.tables e below (T16.setTop (mkF m 21 #[.val (.int p1), .val (.int (3 : Int32)), .val (.ref a_CHILD)] [(.int (1 : Int32)), (.int (1 : Int32))])) _
      refine XS.icmpNo X16.here hx rfl (hb hby at_21) rfl (teq (by decide : ((1 : Int32) = (1 : Int32)))).2 ?_
      show Steps p.tables e below (T16.setTop (mkF m 24 #[.val (.int p1), .val (.int (3 : Int32)), .val (.ref a_CHILD)] [])) _
      refine XT.iconstV X16.here hx rfl (1 : Int32) (hb hby at_24) (by decide) ?_
      show Steps p.tables e below (T16.setTop (mkF m 25 #[.val (.int p1), .val (.int (3 : Int32)), .val (.ref a_CHILD)] [(.int (1 : Int32))])) _
      refine XS.goto X16.here hx rfl (pc0 := 25) (pc' := 29) rfl (hb hby at_25) (by decide) (by decide) ?_
      exact k)
    obtain ⟨fs, hr, hrun, hended, hW, hsame⟩ := X16.leave (v := some (.int (1 : Int32))) (fun h => by rw [Bd.returns] at h; cases h)
    refine ⟨_, _, pre17 _ ?_, hrun, hended, _, _, rfl, ?_, ⟨_, rfl⟩, hW, hsame.mono (by decide) (by decide)⟩
    · show Steps p.tables e below (T16.setTop (mkF m 29 #[.val (.int p1), .val (.int (3 : Int32)), .val (.ref a_CHILD)] [(.int (1 : Int32))])) _
      exact retOut X16 hx Bd.returns rfl (Or.inl ⟨rfl, by simp, _, rfl⟩) (hb hby at_29) hr
    · show Q0 Z p1  h0 n0 _ T16.heap _
      rw [e16]
      exact ⟨rfl, N16⟩
  · have _ := 0
    obtain ⟨_, _, ⟨T18, L18, k18, n18⟩, -, X18, ⟨Lc18, hQ18, l18, y18, z18⟩, st18⟩ := Jvm.LawKit.callS X0 hx (y := (⟨"org/beanpath/expr/AxisIsEmptyFromTextPinLaw", "axisAt", "(I)Lorg/beanpath/expr/Axis;"⟩ : MethodName)) hown (mvT hZ (hw _ (List.mem_of_getElem? (i := 1) rfl))) (mvT hZ (hw _ (List.mem_of_getElem? (i := 2) rfl))) (mvT hZ (hw _ (List.mem_of_getElem? (i := 3) rfl))) (mvT hZ (hw _ (List.mem_of_getElem? (i := 4) rfl))) (by decide) (backOf (W := 0) (rm_pick l Z a0 hw [] (4 : Int32) h0 n0 Z0 a_ANCESTOR S_ANCESTOR a_ANCESTOR_OR_SELF S_ANCESTOR_OR_SELF a_ATTRIBUTE S_ATTRIBUTE a_CHILD S_CHILD a_DESCENDANT S_DESCENDANT a_DESCENDANT_OR_SELF S_DESCENDANT_OR_SELF a_FOLLOWING S_FOLLOWING a_FOLLOWING_SIBLING S_FOLLOWING_SIBLING a_NAMESPACE S_NAMESPACE a_PARENT S_PARENT a_PRECEDING S_PRECEDING a_PRECEDING_SIBLING S_PRECEDING_SIBLING a_SELF S_SELF a_DESCENDANT (by first | rfl | simp [own_pick])) hZ (hw _ (List.mem_of_getElem? (i := 4) rfl)) (hw _ (List.mem_of_getElem? (i := 3) rfl)) (by decide) (by decide)) (g := (mkF m 9 #[.val (.int p1), .val (.int (4 : Int32)), .unset] [(.int (4 : Int32))])) rfl (by rw [hml]; rfl) (argsL := [(.int (4 : Int32))]) (rest := []) (lenOf pd_0 rfl) rfl (by show 2 * 0 + _ ≤ _; exact Nat.le_of_eq rfl) (hb hby at_9) (fun _ _ => ⟨rfl, e0, (by decide : 0 + 0 ≤ _), (by decide : 0 + 0 ≤ _)⟩)
    dsimp only [Pt.U, Pt.locs, Pt.cells, Pt.slots] at X18 l18 y18 z18 st18 hQ18
    subst l18 y18 z18
    obtain ⟨rfl, N18q, e18⟩ := hQ18
    have N18 := Fr.app N0 N18q
    obtain ⟨cq19, kq19, q19a, q19b, q19c⟩ := isOf hZ e18 E_DESCENDANT
    obtain ⟨_, _, ⟨T19, L19, k19, n19⟩, -, X19, ⟨Lc19, hQ19, l19, y19, z19⟩, st19⟩ := X18.virtualBack hx (y := (⟨"org/beanpath/expr/Axis", "isEmptyFromText", "()Z"⟩ : MethodName)) (z := (⟨"org/beanpath/expr/Axis", "isEmptyFromText", "()Z"⟩ : MethodName)) hown (mvT hZ (hw _ (List.mem_of_getElem? (i := 8) rfl))) (mvT hZ (hw _ (List.mem_of_getElem? (i := 9) rfl))) (notFace_of_selects (args := #[]) (mvT hZ (hw _ (List.mem_of_getElem? (i := 55) rfl)))) (mvT hZ (hw _ (List.mem_of_getElem? (i := 55) rfl))) (mvT hZ (hw _ (List.mem_of_getElem? (i := 10) rfl))) (by decide) (backOf (W := 0) (rm_fin l Z a0 hw [] a_DESCENDANT h0 n0 Z0 a_CHILD S_CHILD a_DESCENDANT S_DESCENDANT a_ATTRIBUTE S_ATTRIBUTE a_NAMESPACE S_NAMESPACE (1 : Int32) (by simp [own_fin, (ne_exa E_DESCENDANT E_CHILD (by decide)), (ne_exa E_DESCENDANT E_ATTRIBUTE (by decide)), (ne_exa E_DESCENDANT E_NAMESPACE (by decide))])) hZ (hw _ (List.mem_of_getElem? (i := 12) rfl)) (hw _ (List.mem_of_getElem? (i := 6) rfl)) (by decide) (by decide)) q19a q19c (g := (mkF m 14 #[.val (.int p1), .val (.int (4 : Int32)), .val (.ref a_DESCENDANT)] [(.ref a_DESCENDANT)])) rfl (by rw [hml]; rfl) (Steps.refl _) (argsL := []) (rest := []) (lenOf pd_1 rfl) rfl (by show 2 * 0 + _ ≤ _; exact Nat.le_of_eq rfl) (hb hby at_14) (fun _ _ => ⟨rfl, e18, (by decide : 0 + 0 ≤ _), (by decide : 0 + 0 ≤ _)⟩)
    dsimp only [Pt.U, Pt.locs, Pt.cells, Pt.slots] at X19 l19 y19 z19 st19 hQ19
    subst l19 y19 z19
    obtain ⟨rfl, N19q, e19⟩ := hQ19
    have N19 := Fr.app N18 N19q
    obtain ⟨_, _, ⟨T20, L20, k20, n20⟩, -, X20, ⟨Lc20, hQ20, l20, y20, z20⟩, st20⟩ := Jvm.LawKit.callS X19 hx (y := (⟨"org/beanpath/expr/AxisIsEmptyFromTextPinLaw", "leadsNowhereFromText", "(I)Z"⟩ : MethodName)) hown (mvT hZ (hw _ (List.mem_of_getElem? (i := 21) rfl))) (mvT hZ (hw _ (List.mem_of_getElem? (i := 22) rfl))) (mvT hZ (hw _ (List.mem_of_getElem? (i := 3) rfl))) (mvT hZ (hw _ (List.mem_of_getElem? (i := 23) rfl))) (by decide) (backOf (W := 1) (rm_lead l Z a0 hw [] (4 : Int32) h0 n0 Z0 (1 : Int32) (by first | rfl | decide)) hZ (hw _ (List.mem_of_getElem? (i := 23) rfl)) (hw _ (List.mem_of_getElem? (i := 3) rfl)) (by decide) (by decide)) (g := (mkF m 18 #[.val (.int p1), .val (.int (4 : Int32)), .val (.ref a_DESCENDANT)] [(.int (4 : Int32)), (.int (1 : Int32))])) rfl (by rw [hml]; rfl) (argsL := [(.int (4 : Int32))]) (rest := [(.int (1 : Int32))]) (lenOf pd_2 rfl) rfl (by show 2 * 0 + _ ≤ _; exact Nat.le_of_eq rfl) (hb hby at_18) (fun _ _ => ⟨rfl, e19, (by decide : 0 + 0 ≤ _), (by decide : 0 + 0 ≤ _)⟩)
    dsimp only [Pt.U, Pt.locs, Pt.cells, Pt.slots] at X20 l20 y20 z20 st20 hQ20
    subst l20 y20 z20
    obtain ⟨rfl, N20q, e20⟩ := hQ20
    have N20 := Fr.app N19 N20q
    have pre21 : ∀ t, Steps p.tables e below (T20.setTop (mkF m 29 #[.val (.int p1), .val (.int (4 : Int32)), .val (.ref a_DESCENDANT)] [(.int (1 : Int32))])) t → Steps p.tables e below (s₁.setTop (entryFrame m #[(.int p1)] maxLocals)) t := fun t k => pre1 t (by
      show Steps p.tables e below (s₁.setTop (mkF m 7 #[.val (.int p1), .unset, .unset] [(.int ((p1 &&& (2147483647 : Int32)) % (13 : Int32)))])) _
      refine castTop (g' := (mkF m 7 #[.val (.int p1), .unset, .unset] [(.int (4 : Int32))])) (by rw [hk]) ?_
      show Steps p.tables e below (s₁.setTop (mkF m 7 #[.val (.int p1), .unset, .unset] [(.int (4 : Int32))])) _
      refine XS.istoreN X0.here hx rfl (hb hby at_7) rfl (l' := #[.val (.int p1), .val (.int (4 : Int32)), .unset]) rfl ?_
      show Steps p.tables e below (s₁.setTop (mkF m 8 #[.val (.int p1), .val (.int (4 : Int32)), .unset] [])) _
      refine XS.iloadN X0.here hx rfl (hb hby at_8) rfl ?_
      show Steps p.tables e below (s₁.setTop (mkF m 9 #[.val (.int p1), .val (.int (4 : Int32)), .unset] [(.int (4 : Int32))])) _
      refine st18 _ ?_
      show Steps p.tables e below (T18.setTop (mkF m 12 #[.val (.int p1), .val (.int (4 : Int32)), .unset] [(.ref a_DESCENDANT)])) _
      refine XS.astoreN X18.here hx rfl (hb hby at_12) rfl rfl (l' := #[.val (.int p1), .val (.int (4 : Int32)), .val (.ref a_DESCENDANT)]) rfl ?_
      show Steps p.tables e below (T18.setTop (mkF m 13 #[.val (.int p1), .val (.int (4 : Int32)), .val (.ref a_DESCENDANT)] [])) _
      refine XS.aloadN X18.here hx rfl (hb hby at_13) rfl rfl ?_
      show Steps p.tables e below (T18.setTop (mkF m 14 #[.val (.int p1), .val (.int (4 : Int32)), .val (.ref a_DESCENDANT)] [(.ref a_DESCENDANT)])) _
      refine st19.trans ?_
      show Steps p.tables e below (T19.setTop (mkF m 17 #[.val (.int p1), .val (.int (4 : Int32)), .val (.ref a_DESCENDANT)] [(.int (1 : Int32))])) _
      refine XS.iloadN X19.here hx rfl (hb hby at_17) rfl ?_
      show Steps p.tables e below (T19.setTop (mkF m 18 #[.val (.int p1), .val (.int (4 : Int32)), .val (.ref a_DESCENDANT)] [(.int (4 : Int32)), (.int (1 : Int32))])) _
      refine st20 _ ?_
      show Steps p.tables e below (T20.setTop (mkF m 21 #[.val (.int p1), .val (.int (4 : Int32)), .val (.ref a_DESCENDANT)] [(.int (1 : Int32)), (.int (1 : Int32))])) _
      refine XS.icmpNo X20.here hx rfl (hb hby at_21) rfl (teq (by decide : ((1 : Int32) = (1 : Int32)))).2 ?_
      show Steps p.tables e below (T20.setTop (mkF m 24 #[.val (.int p1), .val (.int (4 : Int32)), .val (.ref a_DESCENDANT)] [])) _
      refine XT.iconstV X20.here hx rfl (1 : Int32) (hb hby at_24) (by decide) ?_
      show Steps p.tables e below (T20.setTop (mkF m 25 #[.val (.int p1), .val (.int (4 : Int32)), .val (.ref a_DESCENDANT)] [(.int (1 : Int32))])) _
      refine XS.goto X20.here hx rfl (pc0 := 25) (pc' := 29) rfl (hb hby at_25) (by decide) (by decide) ?_
      exact k)
    obtain ⟨fs, hr, hrun, hended, hW, hsame⟩ := X20.leave (v := some (.int (1 : Int32))) (fun h => by rw [Bd.returns] at h; cases h)
    refine ⟨_, _, pre21 _ ?_, hrun, hended, _, _, rfl, ?_, ⟨_, rfl⟩, hW, hsame.mono (by decide) (by decide)⟩
    · show Steps p.tables e below (T20.setTop (mkF m 29 #[.val (.int p1), .val (.int (4 : Int32)), .val (.ref a_DESCENDANT)] [(.int (1 : Int32))])) _
      exact retOut X20 hx Bd.returns rfl (Or.inl ⟨rfl, by simp, _, rfl⟩) (hb hby at_29) hr
    · show Q0 Z p1  h0 n0 _ T20.heap _
      rw [e20]
      exact ⟨rfl, N20⟩
  · have _ := 0
    obtain ⟨_, _, ⟨T22, L22, k22, n22⟩, -, X22, ⟨Lc22, hQ22, l22, y22, z22⟩, st22⟩ := Jvm.LawKit.callS X0 hx (y := (⟨"org/beanpath/expr/AxisIsEmptyFromTextPinLaw", "axisAt", "(I)Lorg/beanpath/expr/Axis;"⟩ : MethodName)) hown (mvT hZ (hw _ (List.mem_of_getElem? (i := 1) rfl))) (mvT hZ (hw _ (List.mem_of_getElem? (i := 2) rfl))) (mvT hZ (hw _ (List.mem_of_getElem? (i := 3) rfl))) (mvT hZ (hw _ (List.mem_of_getElem? (i := 4) rfl))) (by decide) (backOf (W := 0) (rm_pick l Z a0 hw [] (5 : Int32) h0 n0 Z0 a_ANCESTOR S_ANCESTOR a_ANCESTOR_OR_SELF S_ANCESTOR_OR_SELF a_ATTRIBUTE S_ATTRIBUTE a_CHILD S_CHILD a_DESCENDANT S_DESCENDANT a_DESCENDANT_OR_SELF S_DESCENDANT_OR_SELF a_FOLLOWING S_FOLLOWING a_FOLLOWING_SIBLING S_FOLLOWING_SIBLING a_NAMESPACE S_NAMESPACE a_PARENT S_PARENT a_PRECEDING S_PRECEDING a_PRECEDING_SIBLING S_PRECEDING_SIBLING a_SELF S_SELF a_DESCENDANT_OR_SELF (by first | rfl | simp [own_pick])) hZ (hw _ (List.mem_of_getElem? (i := 4) rfl)) (hw _ (List.mem_of_getElem? (i := 3) rfl)) (by decide) (by decide)) (g := (mkF m 9 #[.val (.int p1), .val (.int (5 : Int32)), .unset] [(.int (5 : Int32))])) rfl (by rw [hml]; rfl) (argsL := [(.int (5 : Int32))]) (rest := []) (lenOf pd_0 rfl) rfl (by show 2 * 0 + _ ≤ _; exact Nat.le_of_eq rfl) (hb hby at_9) (fun _ _ => ⟨rfl, e0, (by decide : 0 + 0 ≤ _), (by decide : 0 + 0 ≤ _)⟩)
    dsimp only [Pt.U, Pt.locs, Pt.cells, Pt.slots] at X22 l22 y22 z22 st22 hQ22
    subst l22 y22 z22
    obtain ⟨rfl, N22q, e22⟩ := hQ22
    have N22 := Fr.app N0 N22q
    obtain ⟨cq23, kq23, q23a, q23b, q23c⟩ := isOf hZ e22 E_DESCENDANT_OR_SELF
    obtain ⟨_, _, ⟨T23, L23, k23, n23⟩, -, X23, ⟨Lc23, hQ23, l23, y23, z23⟩, st23⟩ := X22.virtualBack hx (y := (⟨"org/beanpath/expr/Axis", "isEmptyFromText", "()Z"⟩ : MethodName)) (z := (⟨"org/beanpath/expr/Axis", "isEmptyFromText", "()Z"⟩ : MethodName)) hown (mvT hZ (hw _ (List.mem_of_getElem? (i := 8) rfl))) (mvT hZ (hw _ (List.mem_of_getElem? (i := 9) rfl))) (notFace_of_selects (args := #[]) (mvT hZ (hw _ (List.mem_of_getElem? (i := 31) rfl)))) (mvT hZ (hw _ (List.mem_of_getElem? (i := 31) rfl))) (mvT hZ (hw _ (List.mem_of_getElem? (i := 10) rfl))) (by decide) (backOf (W := 0) (rm_fin l Z a0 hw [] a_DESCENDANT_OR_SELF h0 n0 Z0 a_CHILD S_CHILD a_DESCENDANT S_DESCENDANT a_ATTRIBUTE S_ATTRIBUTE a_NAMESPACE S_NAMESPACE (0 : Int32) (by simp [own_fin, (ne_exa E_DESCENDANT_OR_SELF E_CHILD (by decide)), (ne_exa E_DESCENDANT_OR_SELF E_DESCENDANT (by decide)), (ne_exa E_DESCENDANT_OR_SELF E_ATTRIBUTE (by decide)), (ne_exa E_DESCENDANT_OR_SELF E_NAMESPACE (by decide))])) hZ (hw _ (List.mem_of_getElem? (i := 12) rfl)) (hw _ (List.mem_of_getElem? (i := 6) rfl)) (by decide) (by decide)) q23a q23c (g := (mkF m 14 #[.val (.int p1), .val (.int (5 : Int32)), .val (.ref a_DESCENDANT_OR_SELF)] [(.ref a_DESCENDANT_OR_SELF)])) rfl (by rw [hml]; rfl) (Steps.refl _) (argsL := []) (rest := []) (lenOf pd_1 rfl) rfl (by show 2 * 0 + _ ≤ _; exact Nat.le_of_eq rfl) (hb hby at_14) (fun _ _ => ⟨rfl, e22, (by decide : 0 + 0 ≤ _), (by decide : 0 + 0 ≤ _)⟩)
    dsimp only [Pt.U, Pt.locs, Pt.cells, Pt.slots] at X23 l23 y23 z23 st23 hQ23
    subst l23 y23 z23
    obtain ⟨rfl, N23q, e23⟩ := hQ23
    have N23 := Fr.app N22 N23q
    obtain ⟨_, _, ⟨T24, L24, k24, n24⟩, -, X24, ⟨Lc24, hQ24, l24, y24, z24⟩, st24⟩ := Jvm.LawKit.callS X23 hx (y := (⟨"org/beanpath/expr/AxisIsEmptyFromTextPinLaw", "leadsNowhereFromText", "(I)Z"⟩ : MethodName)) hown (mvT hZ (hw _ (List.mem_of_getElem? (i := 21) rfl))) (mvT hZ (hw _ (List.mem_of_getElem? (i := 22) rfl))) (mvT hZ (hw _ (List.mem_of_getElem? (i := 3) rfl))) (mvT hZ (hw _ (List.mem_of_getElem? (i := 23) rfl))) (by decide) (backOf (W := 1) (rm_lead l Z a0 hw [] (5 : Int32) h0 n0 Z0 (0 : Int32) (by first | rfl | decide)) hZ (hw _ (List.mem_of_getElem? (i := 23) rfl)) (hw _ (List.mem_of_getElem? (i := 3) rfl)) (by decide) (by decide)) (g := (mkF m 18 #[.val (.int p1), .val (.int (5 : Int32)), .val (.ref a_DESCENDANT_OR_SELF)] [(.int (5 : Int32)), (.int (0 : Int32))])) rfl (by rw [hml]; rfl) (argsL := [(.int (5 : Int32))]) (rest := [(.int (0 : Int32))]) (lenOf pd_2 rfl) rfl (by show 2 * 0 + _ ≤ _; exact Nat.le_of_eq rfl) (hb hby at_18) (fun _ _ => ⟨rfl, e23, (by decide : 0 + 0 ≤ _), (by decide : 0 + 0 ≤ _)⟩)
    dsimp only [Pt.U, Pt.locs, Pt.cells, Pt.slots] at X24 l24 y24 z24 st24 hQ24
    subst l24 y24 z24
    obtain ⟨rfl, N24q, e24⟩ := hQ24
    have N24 := Fr.app N23 N24q
    have pre25 : ∀ t, Steps p.tables e below (T24.setTop (mkF m 29 #[.val (.int p1), .val (.int (5 : Int32)), .val (.ref a_DESCENDANT_OR_SELF)] [(.int (1 : Int32))])) t → Steps p.tables e below (s₁.setTop (entryFrame m #[(.int p1)] maxLocals)) t := fun t k => pre1 t (by
      show Steps p.tables e below (s₁.setTop (mkF m 7 #[.val (.int p1), .unset, .unset] [(.int ((p1 &&& (2147483647 : Int32)) % (13 : Int32)))])) _
      refine castTop (g' := (mkF m 7 #[.val (.int p1), .unset, .unset] [(.int (5 : Int32))])) (by rw [hk]) ?_
      show Steps p.tables e below (s₁.setTop (mkF m 7 #[.val (.int p1), .unset, .unset] [(.int (5 : Int32))])) _
      refine XS.istoreN X0.here hx rfl (hb hby at_7) rfl (l' := #[.val (.int p1), .val (.int (5 : Int32)), .unset]) rfl ?_
      show Steps p.tables e below (s₁.setTop (mkF m 8 #[.val (.int p1), .val (.int (5 : Int32)), .unset] [])) _
      refine XS.iloadN X0.here hx rfl (hb hby at_8) rfl ?_
      show Steps p.tables e below (s₁.setTop (mkF m 9 #[.val (.int p1), .val (.int (5 : Int32)), .unset] [(.int (5 : Int32))])) _
      refine st22 _ ?_
      show Steps p.tables e below (T22.setTop (mkF m 12 #[.val (.int p1), .val (.int (5 : Int32)), .unset] [(.ref a_DESCENDANT_OR_SELF)])) _
      refine XS.astoreN X22.here hx rfl (hb hby at_12) rfl rfl (l' := #[.val (.int p1), .val (.int (5 : Int32)), .val (.ref a_DESCENDANT_OR_SELF)]) rfl ?_
      show Steps p.tables e below (T22.setTop (mkF m 13 #[.val (.int p1), .val (.int (5 : Int32)), .val (.ref a_DESCENDANT_OR_SELF)] [])) _
      refine XS.aloadN X22.here hx rfl (hb hby at_13) rfl rfl ?_
      show Steps p.tables e below (T22.setTop (mkF m 14 #[.val (.int p1), .val (.int (5 : Int32)), .val (.ref a_DESCENDANT_OR_SELF)] [(.ref a_DESCENDANT_OR_SELF)])) _
      refine st23.trans ?_
      show Steps p.tables e below (T23.setTop (mkF m 17 #[.val (.int p1), .val (.int (5 : Int32)), .val (.ref a_DESCENDANT_OR_SELF)] [(.int (0 : Int32))])) _
      refine XS.iloadN X23.here hx rfl (hb hby at_17) rfl ?_
      show Steps p.tables e below (T23.setTop (mkF m 18 #[.val (.int p1), .val (.int (5 : Int32)), .val (.ref a_DESCENDANT_OR_SELF)] [(.int (5 : Int32)), (.int (0 : Int32))])) _
      refine st24 _ ?_
      show Steps p.tables e below (T24.setTop (mkF m 21 #[.val (.int p1), .val (.int (5 : Int32)), .val (.ref a_DESCENDANT_OR_SELF)] [(.int (0 : Int32)), (.int (0 : Int32))])) _
      refine XS.icmpNo X24.here hx rfl (hb hby at_21) rfl (teq (by decide : ((0 : Int32) = (0 : Int32)))).2 ?_
      show Steps p.tables e below (T24.setTop (mkF m 24 #[.val (.int p1), .val (.int (5 : Int32)), .val (.ref a_DESCENDANT_OR_SELF)] [])) _
      refine XT.iconstV X24.here hx rfl (1 : Int32) (hb hby at_24) (by decide) ?_
      show Steps p.tables e below (T24.setTop (mkF m 25 #[.val (.int p1), .val (.int (5 : Int32)), .val (.ref a_DESCENDANT_OR_SELF)] [(.int (1 : Int32))])) _
      refine XS.goto X24.here hx rfl (pc0 := 25) (pc' := 29) rfl (hb hby at_25) (by decide) (by decide) ?_
      exact k)
    obtain ⟨fs, hr, hrun, hended, hW, hsame⟩ := X24.leave (v := some (.int (1 : Int32))) (fun h => by rw [Bd.returns] at h; cases h)
    refine ⟨_, _, pre25 _ ?_, hrun, hended, _, _, rfl, ?_, ⟨_, rfl⟩, hW, hsame.mono (by decide) (by decide)⟩
    · show Steps p.tables e below (T24.setTop (mkF m 29 #[.val (.int p1), .val (.int (5 : Int32)), .val (.ref a_DESCENDANT_OR_SELF)] [(.int (1 : Int32))])) _
      exact retOut X24 hx Bd.returns rfl (Or.inl ⟨rfl, by simp, _, rfl⟩) (hb hby at_29) hr
    · show Q0 Z p1  h0 n0 _ T24.heap _
      rw [e24]
      exact ⟨rfl, N24⟩
  · have _ := 0
    obtain ⟨_, _, ⟨T26, L26, k26, n26⟩, -, X26, ⟨Lc26, hQ26, l26, y26, z26⟩, st26⟩ := Jvm.LawKit.callS X0 hx (y := (⟨"org/beanpath/expr/AxisIsEmptyFromTextPinLaw", "axisAt", "(I)Lorg/beanpath/expr/Axis;"⟩ : MethodName)) hown (mvT hZ (hw _ (List.mem_of_getElem? (i := 1) rfl))) (mvT hZ (hw _ (List.mem_of_getElem? (i := 2) rfl))) (mvT hZ (hw _ (List.mem_of_getElem? (i := 3) rfl))) (mvT hZ (hw _ (List.mem_of_getElem? (i := 4) rfl))) (by decide) (backOf (W := 0) (rm_pick l Z a0 hw [] (6 : Int32) h0 n0 Z0 a_ANCESTOR S_ANCESTOR a_ANCESTOR_OR_SELF S_ANCESTOR_OR_SELF a_ATTRIBUTE S_ATTRIBUTE a_CHILD S_CHILD a_DESCENDANT S_DESCENDANT a_DESCENDANT_OR_SELF S_DESCENDANT_OR_SELF a_FOLLOWING S_FOLLOWING a_FOLLOWING_SIBLING S_FOLLOWING_SIBLING a_NAMESPACE S_NAMESPACE a_PARENT S_PARENT a_PRECEDING S_PRECEDING a_PRECEDING_SIBLING S_PRECEDING_SIBLING a_SELF S_SELF a_FOLLOWING (by first | rfl | simp [own_pick])) hZ (hw _ (List.mem_of_getElem? (i := 4) rfl)) (hw _ (List.mem_of_getElem? (i := 3) rfl)) (by decide) (by decide)) (g := (mkF m 9 #[.val (.int p1), .val (.int (6 : Int32)), .unset] [(.int (6 : Int32))])) rfl (by rw [hml]; rfl) (argsL := [(.int (6 : Int32))]) (rest := []) (lenOf pd_0 rfl) rfl (by show 2 * 0 + _ ≤ _; exact Nat.le_of_eq rfl) (hb hby at_9) (fun _ _ => ⟨rfl, e0, (by decide : 0 + 0 ≤ _), (by decide : 0 + 0 ≤ _)⟩)
    dsimp only [Pt.U, Pt.locs, Pt.cells, Pt.slots] at X26 l26 y26 z26 st26 hQ26
    subst l26 y26 z26
    obtain ⟨rfl, N26q, e26⟩ := hQ26
    have N26 := Fr.app N0 N26q
    obtain ⟨cq27, kq27, q27a, q27b, q27c⟩ := isOf hZ e26 E_FOLLOWING
    obtain ⟨_, _, ⟨T27, L27, k27, n27⟩, -, X27, ⟨Lc27, hQ27, l27, y27, z27⟩, st27⟩ := X26.virtualBack hx (y := (⟨"org/beanpath/expr/Axis", "isEmptyFromText", "()Z"⟩ : MethodName)) (z := (⟨"org/beanpath/expr/Axis", "isEmptyFromText", "()Z"⟩ : MethodName)) hown (mvT hZ (hw _ (List.mem_of_getElem? (i := 8) rfl))) (mvT hZ (hw _ (List.mem_of_getElem? (i := 9) rfl))) (notFace_of_selects (args := #[]) (mvT hZ (hw _ (List.mem_of_getElem? (i := 28) rfl)))) (mvT hZ (hw _ (List.mem_of_getElem? (i := 28) rfl))) (mvT hZ (hw _ (List.mem_of_getElem? (i := 10) rfl))) (by decide) (backOf (W := 0) (rm_fin l Z a0 hw [] a_FOLLOWING h0 n0 Z0 a_CHILD S_CHILD a_DESCENDANT S_DESCENDANT a_ATTRIBUTE S_ATTRIBUTE a_NAMESPACE S_NAMESPACE (0 : Int32) (by simp [own_fin, (ne_exa E_FOLLOWING E_CHILD (by decide)), (ne_exa E_FOLLOWING E_DESCENDANT (by decide)), (ne_exa E_FOLLOWING E_ATTRIBUTE (by decide)), (ne_exa E_FOLLOWING E_NAMESPACE (by decide))])) hZ (hw _ (List.mem_of_getElem? (i := 12) rfl)) (hw _ (List.mem_of_getElem? (i := 6) rfl)) (by decide) (by decide)) q27a q27c (g := (mkF m 14 #[.val (.int p1), .val (.int (6 : Int32)), .val (.ref a_FOLLOWING)] [(.ref a_FOLLOWING)])) rfl (by rw [hml]; rfl) (Steps.refl _) (argsL := []) (rest := []) (lenOf pd_1 rfl) rfl (by show 2 * 0 + _ ≤ _; exact Nat.le_of_eq rfl) (hb hby at_14) (fun _ _ => ⟨rfl, e26, (by decide : 0 + 0 ≤ _), (by decide : 0 + 0 ≤ _)⟩)
    dsimp only [Pt.U, Pt.locs, Pt.cells, Pt.slots] at X27 l27 y27 z27 st27 hQ27
    subst l27 y27 z27
    obtain ⟨rfl, N27q, e27⟩ := hQ27
    have N27 := Fr.app N26 N27q
    obtain ⟨_, _, ⟨T28, L28, k28, n28⟩, -, X28, ⟨Lc28, hQ28, l28, y28, z28⟩, st28⟩ := Jvm.LawKit.callS X27 hx (y := (⟨"org/beanpath/expr/AxisIsEmptyFromTextPinLaw", "leadsNowhereFromText", "(I)Z"⟩ : MethodName)) hown (mvT hZ (hw _ (List.mem_of_getElem? (i := 21) rfl))) (mvT hZ (hw _ (List.mem_of_getElem? (i := 22) rfl))) (mvT hZ (hw _ (List.mem_of_getElem? (i := 3) rfl))) (mvT hZ (hw _ (List.mem_of_getElem? (i := 23) rfl))) (by decide) (backOf (W := 1) (rm_lead l Z a0 hw [] (6 : Int32) h0 n0 Z0 (0 : Int32) (by first | rfl | decide)) hZ (hw _ (List.mem_of_getElem? (i := 23) rfl)) (hw _ (List.mem_of_getElem? (i := 3) rfl)) (by decide) (by decide)) (g := (mkF m 18 #[.val (.int p1), .val (.int (6 : Int32)), .val (.ref a_FOLLOWING)] [(.int (6 : Int32)), (.int (0 : Int32))])) rfl (by rw [hml]; rfl) (argsL := [(.int (6 : Int32))]) (rest := [(.int (0 : Int32))]) (lenOf pd_2 rfl) rfl (by show 2 * 0 + _ ≤ _; exact Nat.le_of_eq rfl) (hb hby at_18) (fun _ _ => ⟨rfl, e27, (by decide : 0 + 0 ≤ _), (by decide : 0 + 0 ≤ _)⟩)
    dsimp only [Pt.U, Pt.locs, Pt.cells, Pt.slots] at X28 l28 y28 z28 st28 hQ28
    subst l28 y28 z28
    obtain ⟨rfl, N28q, e28⟩ := hQ28
    have N28 := Fr.app N27 N28q
    have pre29 : ∀ t, Steps p.tables e below (T28.setTop (mkF m 29 #[.val (.int p1), .val (.int (6 : Int32)), .val (.ref a_FOLLOWING)] [(.int (1 : Int32))])) t → Steps p.tables e below (s₁.setTop (entryFrame m #[(.int p1)] maxLocals)) t := fun t k => pre1 t (by
      show Steps p.tables e below (s₁.setTop (mkF m 7 #[.val (.int p1), .unset, .unset] [(.int ((p1 &&& (2147483647 : Int32)) % (13 : Int32)))])) _
      refine castTop (g' := (mkF m 7 #[.val (.int p1), .unset, .unset] [(.int (6 : Int32))])) (by rw [hk]) ?_
      show Steps p.tables e below (s₁.setTop (mkF m 7 #[.val (.int p1), .unset, .unset] [(.int (6 : Int32))])) _
      refine XS.istoreN X0.here hx rfl (hb hby at_7) rfl (l' := #[.val (.int p1), .val (.int (6 : Int32)), .unset]) rfl ?_
      show Steps p.tables e below (s₁.setTop (mkF m 8 #[.val (.int p1), .val (.int (6 : Int32)), .unset] [])) _
      refine XS.iloadN X0.here hx rfl (hb hby at_8) rfl ?_
      show Steps p.tables e below (s₁.setTop (mkF m 9 #[.val (.int p1), .val (.int (6 : Int32)), .unset] [(.int (6 : Int32))])) _
      refine st26 _ ?_
      show Steps p.tables e below (T26.setTop (mkF m 12 #[.val (.int p1), .val (.int (6 : Int32)), .unset] [(.ref a_FOLLOWING)])) _
      refine XS.astoreN X26.here hx rfl (hb hby at_12) rfl rfl (l' := #[.val (.int p1), .val (.int (6 : Int32)), .val (.ref a_FOLLOWING)]) rfl ?_
      show Steps p.tables e below (T26.setTop (mkF m 13 #[.val (.int p1), .val (.int (6 : Int32)), .val (.ref a_FOLLOWING)] [])) _
      refine XS.aloadN X26.here hx rfl (hb hby at_13) rfl rfl ?_
      show Steps p.tables e below (T26.setTop (mkF m 14 #[.val (.int p1), .val (.int (6 : Int32)), .val (.ref a_FOLLOWING)] [(.ref a_FOLLOWING)])) _
      refine st27.trans ?_
      show Steps p.tables e below (T27.setTop (mkF m 17 #[.val (.int p1), .val (.int (6 : Int32)), .val (.ref a_FOLLOWING)] [(.int (0 : Int32))])) _
      refine XS.iloadN X27.here hx rfl (hb hby at_17) rfl ?_
      show Steps p.tables e below (T27.setTop (mkF m 18 #[.val (.int p1), .val (.int (6 : Int32)), .val (.ref a_FOLLOWING)] [(.int (6 : Int32)), (.int (0 : Int32))])) _
      refine st28 _ ?_
      show Steps p.tables e below (T28.setTop (mkF m 21 #[.val (.int p1), .val (.int (6 : Int32)), .val (.ref a_FOLLOWING)] [(.int (0 : Int32)), (.int (0 : Int32))])) _
      refine XS.icmpNo X28.here hx rfl (hb hby at_21) rfl (teq (by decide : ((0 : Int32) = (0 : Int32)))).2 ?_
      show Steps p.tables e below (T28.setTop (mkF m 24 #[.val (.int p1), .val (.int (6 : Int32)), .val (.ref a_FOLLOWING)] [])) _
      refine XT.iconstV X28.here hx rfl (1 : Int32) (hb hby at_24) (by decide) ?_
      show Steps p.tables e below (T28.setTop (mkF m 25 #[.val (.int p1), .val (.int (6 : Int32)), .val (.ref a_FOLLOWING)] [(.int (1 : Int32))])) _
      refine XS.goto X28.here hx rfl (pc0 := 25) (pc' := 29) rfl (hb hby at_25) (by decide) (by decide) ?_
      exact k)
    obtain ⟨fs, hr, hrun, hended, hW, hsame⟩ := X28.leave (v := some (.int (1 : Int32))) (fun h => by rw [Bd.returns] at h; cases h)
    refine ⟨_, _, pre29 _ ?_, hrun, hended, _, _, rfl, ?_, ⟨_, rfl⟩, hW, hsame.mono (by decide) (by decide)⟩
    · show Steps p.tables e below (T28.setTop (mkF m 29 #[.val (.int p1), .val (.int (6 : Int32)), .val (.ref a_FOLLOWING)] [(.int (1 : Int32))])) _
      exact retOut X28 hx Bd.returns rfl (Or.inl ⟨rfl, by simp, _, rfl⟩) (hb hby at_29) hr
    · show Q0 Z p1  h0 n0 _ T28.heap _
      rw [e28]
      exact ⟨rfl, N28⟩
  · have _ := 0
    obtain ⟨_, _, ⟨T30, L30, k30, n30⟩, -, X30, ⟨Lc30, hQ30, l30, y30, z30⟩, st30⟩ := Jvm.LawKit.callS X0 hx (y := (⟨"org/beanpath/expr/AxisIsEmptyFromTextPinLaw", "axisAt", "(I)Lorg/beanpath/expr/Axis;"⟩ : MethodName)) hown (mvT hZ (hw _ (List.mem_of_getElem? (i := 1) rfl))) (mvT hZ (hw _ (List.mem_of_getElem? (i := 2) rfl))) (mvT hZ (hw _ (List.mem_of_getElem? (i := 3) rfl))) (mvT hZ (hw _ (List.mem_of_getElem? (i := 4) rfl))) (by decide) (backOf (W := 0) (rm_pick l Z a0 hw [] (7 : Int32) h0 n0 Z0 a_ANCESTOR S_ANCESTOR a_ANCESTOR_OR_SELF S_ANCESTOR_OR_SELF a_ATTRIBUTE S_ATTRIBUTE a_CHILD S_CHILD a_DESCENDANT S_DESCENDANT a_DESCENDANT_OR_SELF S_DESCENDANT_OR_SELF a_FOLLOWING S_FOLLOWING a_FOLLOWING_SIBLING S_FOLLOWING_SIBLING a_NAMESPACE S_NAMESPACE a_PARENT S_PARENT a_PRECEDING S_PRECEDING a_PRECEDING_SIBLING S_PRECEDING_SIBLING a_SELF S_SELF a_FOLLOWING_SIBLING (by first | rfl | simp [own_pick])) hZ (hw _ (List.mem_of_getElem? (i := 4) rfl)) (hw _ (List.mem_of_getElem? (i := 3) rfl)) (by decide) (by decide)) (g := (mkF m 9 #[.val (.int p1), .val (.int (7 : Int32)), .unset] [(.int (7 : Int32))])) rfl (by rw [hml]; rfl) (argsL := [(.int (7 : Int32))]) (rest := []) (lenOf pd_0 rfl) rfl (by show 2 * 0 + _ ≤ _; exact Nat.le_of_eq rfl) (hb hby at_9) (fun _ _ => ⟨rfl, e0, (by decide : 0 + 0 ≤ _), (by decide : 0 + 0 ≤ _)⟩)
    dsimp only [Pt.U, Pt.locs, Pt.cells, Pt.slots] at X30 l30 y30 z30 st30 hQ30
    subst l30 y30 z30
    obtain ⟨rfl, N30q, e30⟩ := hQ30
    have N30 := Fr.app N0 N30q
    obtain ⟨cq31, kq31, q31a, q31b, q31c⟩ := isOf hZ e30 E_FOLLOWING_SIBLING
    obtain ⟨_, _, ⟨T31, L31, k31, n31⟩, -, X31, ⟨Lc31, hQ31, l31, y31, z31⟩, st31⟩ := X30.virtualBack hx (y := (⟨"org/beanpath/expr/Axis", "isEmptyFromText", "()Z"⟩ : MethodName)) (z := (⟨"org/beanpath/expr/Axis", "isEmptyFromText", "()Z"⟩ : MethodName)) hown (mvT hZ (hw _ (List.mem_of_getElem? (i := 8) rfl))) (mvT hZ (hw _ (List.mem_of_getElem? (i := 9) rfl))) (notFace_of_selects (args := #[]) (mvT hZ (hw _ (List.mem_of_getElem? (i := 34) rfl)))) (mvT hZ (hw _ (List.mem_of_getElem? (i := 34) rfl))) (mvT hZ (hw _ (List.mem_of_getElem? (i := 10) rfl))) (by decide) (backOf (W := 0) (rm_fin l Z a0 hw [] a_FOLLOWING_SIBLING h0 n0 Z0 a_CHILD S_CHILD a_DESCENDANT S_DESCENDANT a_ATTRIBUTE S_ATTRIBUTE a_NAMESPACE S_NAMESPACE (0 : Int32) (by simp [own_fin, (ne_exa E_FOLLOWING_SIBLING E_CHILD (by decide)), (ne_exa E_FOLLOWING_SIBLING E_DESCENDANT (by decide)), (ne_exa E_FOLLOWING_SIBLING E_ATTRIBUTE (by decide)), (ne_exa E_FOLLOWING_SIBLING E_NAMESPACE (by decide))])) hZ (hw _ (List.mem_of_getElem? (i := 12) rfl)) (hw _ (List.mem_of_getElem? (i := 6) rfl)) (by decide) (by decide)) q31a q31c (g := (mkF m 14 #[.val (.int p1), .val (.int (7 : Int32)), .val (.ref a_FOLLOWING_SIBLING)] [(.ref a_FOLLOWING_SIBLING)])) rfl (by rw [hml]; rfl) (Steps.refl _) (argsL := []) (rest := []) (lenOf pd_1 rfl) rfl (by show 2 * 0 + _ ≤ _; exact Nat.le_of_eq rfl) (hb hby at_14) (fun _ _ => ⟨rfl, e30, (by decide : 0 + 0 ≤ _), (by decide : 0 + 0 ≤ _)⟩)
    dsimp only [Pt.U, Pt.locs, Pt.cells, Pt.slots] at X31 l31 y31 z31 st31 hQ31
    subst l31 y31 z31
    obtain ⟨rfl, N31q, e31⟩ := hQ31
    have N31 := Fr.app N30 N31q
    obtain ⟨_, _, ⟨T32, L32, k32, n32⟩, -, X32, ⟨Lc32, hQ32, l32, y32, z32⟩, st32⟩ := Jvm.LawKit.callS X31 hx (y := (⟨"org/beanpath/expr/AxisIsEmptyFromTextPinLaw", "leadsNowhereFromText", "(I)Z"⟩ : MethodName)) hown (mvT hZ (hw _ (List.mem_of_getElem? (i := 21) rfl))) (mvT hZ (hw _ (List.mem_of_getElem? (i := 22) rfl))) (mvT hZ (hw _ (List.mem_of_getElem? (i := 3) rfl))) (mvT hZ (hw _ (List.mem_of_getElem? (i := 23) rfl))) (by decide) (backOf (W := 1) (rm_lead l Z a0 hw [] (7 : Int32) h0 n0 Z0 (0 : Int32) (by first | rfl | decide)) hZ (hw _ (List.mem_of_getElem? (i := 23) rfl)) (hw _ (List.mem_of_getElem? (i := 3) rfl)) (by decide) (by decide)) (g := (mkF m 18 #[.val (.int p1), .val (.int (7 : Int32)), .val (.ref a_FOLLOWING_SIBLING)] [(.int (7 : Int32)), (.int (0 : Int32))])) rfl (by rw [hml]; rfl) (argsL := [(.int (7 : Int32))]) (rest := [(.int (0 : Int32))]) (lenOf pd_2 rfl) rfl (by show 2 * 0 + _ ≤ _; exact Nat.le_of_eq rfl) (hb hby at_18) (fun _ _ => ⟨rfl, e31, (by decide : 0 + 0 ≤ _), (by decide : 0 + 0 ≤ _)⟩)
    dsimp only [Pt.U, Pt.locs, Pt.cells, Pt.slots] at X32 l32 y32 z32 st32 hQ32
    subst l32 y32 z32
    obtain ⟨rfl, N32q, e32⟩ := hQ32
    have N32 := Fr.app N31 N32q
    have pre33 : ∀ t, Steps p.tables e below (T32.setTop (mkF m 29 #[.val (.int p1), .val (.int (7 : Int32)), .val (.ref a_FOLLOWING_SIBLING)] [(.int (1 : Int32))])) t → Steps p.tables e below (s₁.setTop (entryFrame m #[(.int p1)] maxLocals)) t := fun t k => pre1 t (by
      show Steps p.tables e below (s₁.setTop (mkF m 7 #[.val (.int p1), .unset, .unset] [(.int ((p1 &&& (2147483647 : Int32)) % (13 : Int32)))])) _
      refine castTop (g' := (mkF m 7 #[.val (.int p1), .unset, .unset] [(.int (7 : Int32))])) (by rw [hk]) ?_
      show Steps p.tables e below (s₁.setTop (mkF m 7 #[.val (.int p1), .unset, .unset] [(.int (7 : Int32))])) _
      refine XS.istoreN X0.here hx rfl (hb hby at_7) rfl (l' := #[.val (.int p1), .val (.int (7 : Int32)), .unset]) rfl ?_
      show Steps p.tables e below (s₁.setTop (mkF m 8 #[.val (.int p1), .val (.int (7 : Int32)), .unset] [])) _
      refine XS.iloadN X0.here hx rfl (hb hby at_8) rfl ?_
      show Steps p.tables e below (s₁.setTop (mkF m 9 #[.val (.int p1), .val (.int (7 : Int32)), .unset] [(.int (7 : Int32))])) _
      refine st30 _ ?_
      show Steps p.tables e below (T30.setTop (mkF m 12 #[.val (.int p1), .val (.int (7 : Int32)), .unset] [(.ref a_FOLLOWING_SIBLING)])) _
      refine XS.astoreN X30.here hx rfl (hb hby at_12) rfl rfl (l' := #[.val (.int p1), .val (.int (7 : Int32)), .val (.ref a_FOLLOWING_SIBLING)]) rfl ?_
      show Steps p.tables e below (T30.setTop (mkF m 13 #[.val (.int p1), .val (.int (7 : Int32)), .val (.ref a_FOLLOWING_SIBLING)] [])) _
      refine XS.aloadN X30.here hx rfl (hb hby at_13) rfl rfl ?_
      show Steps p.tables e below (T30.setTop (mkF m 14 #[.val (.int p1), .val (.int (7 : Int32)), .val (.ref a_FOLLOWING_SIBLING)] [(.ref a_FOLLOWING_SIBLING)])) _
      refine st31.trans ?_
      show Steps p.tables e below (T31.setTop (mkF m 17 #[.val (.int p1), .val (.int (7 : Int32)), .val (.ref a_FOLLOWING_SIBLING)] [(.int (0 : Int32))])) _
      refine XS.iloadN X31.here hx rfl (hb hby at_17) rfl ?_
      show Steps p.tables e below (T31.setTop (mkF m 18 #[.val (.int p1), .val (.int (7 : Int32)), .val (.ref a_FOLLOWING_SIBLING)] [(.int (7 : Int32)), (.int (0 : Int32))])) _
      refine st32 _ ?_
      show Steps p.tables e below (T32.setTop (mkF m 21 #[.val (.int p1), .val (.int (7 : Int32)), .val (.ref a_FOLLOWING_SIBLING)] [(.int (0 : Int32)), (.int (0 : Int32))])) _
      refine XS.icmpNo X32.here hx rfl (hb hby at_21) rfl (teq (by decide : ((0 : Int32) = (0 : Int32)))).2 ?_
      show Steps p.tables e below (T32.setTop (mkF m 24 #[.val (.int p1), .val (.int (7 : Int32)), .val (.ref a_FOLLOWING_SIBLING)] [])) _
      refine XT.iconstV X32.here hx rfl (1 : Int32) (hb hby at_24) (by decide) ?_
      show Steps p.tables e below (T32.setTop (mkF m 25 #[.val (.int p1), .val (.int (7 : Int32)), .val (.ref a_FOLLOWING_SIBLING)] [(.int (1 : Int32))])) _
      refine XS.goto X32.here hx rfl (pc0 := 25) (pc' := 29) rfl (hb hby at_25) (by decide) (by decide) ?_
      exact k)
    obtain ⟨fs, hr, hrun, hended, hW, hsame⟩ := X32.leave (v := some (.int (1 : Int32))) (fun h => by rw [Bd.returns] at h; cases h)
    refine ⟨_, _, pre33 _ ?_, hrun, hended, _, _, rfl, ?_, ⟨_, rfl⟩, hW, hsame.mono (by decide) (by decide)⟩
    · show Steps p.tables e below (T32.setTop (mkF m 29 #[.val (.int p1), .val (.int (7 : Int32)), .val (.ref a_FOLLOWING_SIBLING)] [(.int (1 : Int32))])) _
      exact retOut X32 hx Bd.returns rfl (Or.inl ⟨rfl, by simp, _, rfl⟩) (hb hby at_29) hr
    · show Q0 Z p1  h0 n0 _ T32.heap _
      rw [e32]
      exact ⟨rfl, N32⟩
  · have _ := 0
    obtain ⟨_, _, ⟨T34, L34, k34, n34⟩, -, X34, ⟨Lc34, hQ34, l34, y34, z34⟩, st34⟩ := Jvm.LawKit.callS X0 hx (y := (⟨"org/beanpath/expr/AxisIsEmptyFromTextPinLaw", "axisAt", "(I)Lorg/beanpath/expr/Axis;"⟩ : MethodName)) hown (mvT hZ (hw _ (List.mem_of_getElem? (i := 1) rfl))) (mvT hZ (hw _ (List.mem_of_getElem? (i := 2) rfl))) (mvT hZ (hw _ (List.mem_of_getElem? (i := 3) rfl))) (mvT hZ (hw _ (List.mem_of_getElem? (i := 4) rfl))) (by decide) (backOf (W := 0) (rm_pick l Z a0 hw [] (8 : Int32) h0 n0 Z0 a_ANCESTOR S_ANCESTOR a_ANCESTOR_OR_SELF S_ANCESTOR_OR_SELF a_ATTRIBUTE S_ATTRIBUTE a_CHILD S_CHILD a_DESCENDANT S_DESCENDANT a_DESCENDANT_OR_SELF S_DESCENDANT_OR_SELF a_FOLLOWING S_FOLLOWING a_FOLLOWING_SIBLING S_FOLLOWING_SIBLING a_NAMESPACE S_NAMESPACE a_PARENT S_PARENT a_PRECEDING S_PRECEDING a_PRECEDING_SIBLING S_PRECEDING_SIBLING a_SELF S_SELF a_NAMESPACE (by first | rfl | simp [own_pick])) hZ (hw _ (List.mem_of_getElem? (i := 4) rfl)) (hw _ (List.mem_of_getElem? (i := 3) rfl)) (by decide) (by decide)) (g := (mkF m 9 #[.val (.int p1), .val (.int (8 : Int32)), .unset] [(.int (8 : Int32))])) rfl (by rw [hml]; rfl) (argsL := [(.int (8 : Int32))]) (rest := []) (lenOf pd_0 rfl) rfl (by show 2 * 0 + _ ≤ _; exact Nat.le_of_eq rfl) (hb hby at_9) (fun _ _ => ⟨rfl, e0, (by decide : 0 + 0 ≤ _), (by decide : 0 + 0 ≤ _)⟩)
    dsimp only [Pt.U, Pt.locs, Pt.cells, Pt.slots] at X34 l34 y34 z34 st34 hQ34
    subst l34 y34 z34
    obtain ⟨rfl, N34q, e34⟩ := hQ34
    have N34 := Fr.app N0 N34q
    obtain ⟨cq35, kq35, q35a, q35b, q35c⟩ := isOf hZ e34 E_NAMESPACE
    obtain ⟨_, _, ⟨T35, L35, k35, n35⟩, -, X35, ⟨Lc35, hQ35, l35, y35, z35⟩, st35⟩ := X34.virtualBack hx (y := (⟨"org/beanpath/expr/Axis", "isEmptyFromText", "()Z"⟩ : MethodName)) (z := (⟨"org/beanpath/expr/Axis", "isEmptyFromText", "()Z"⟩ : MethodName)) hown (mvT hZ (hw _ (List.mem_of_getElem? (i := 8) rfl))) (mvT hZ (hw _ (List.mem_of_getElem? (i := 9) rfl))) (notFace_of_selects (args := #[]) (mvT hZ (hw _ (List.mem_of_getElem? (i := 47) rfl)))) (mvT hZ (hw _ (List.mem_of_getElem? (i := 47) rfl))) (mvT hZ (hw _ (List.mem_of_getElem? (i := 10) rfl))) (by decide) (backOf (W := 0) (rm_fin l Z a0 hw [] a_NAMESPACE h0 n0 Z0 a_CHILD S_CHILD a_DESCENDANT S_DESCENDANT a_ATTRIBUTE S_ATTRIBUTE a_NAMESPACE S_NAMESPACE (1 : Int32) (by simp [own_fin, (ne_exa E_NAMESPACE E_CHILD (by decide)), (ne_exa E_NAMESPACE E_DESCENDANT (by decide)), (ne_exa E_NAMESPACE E_ATTRIBUTE (by decide))])) hZ (hw _ (List.mem_of_getElem? (i := 12) rfl)) (hw _ (List.mem_of_getElem? (i := 6) rfl)) (by decide) (by decide)) q35a q35c (g := (mkF m 14 #[.val (.int p1), .val (.int (8 : Int32)), .val (.ref a_NAMESPACE)] [(.ref a_NAMESPACE)])) rfl (by rw [hml]; rfl) (Steps.refl _) (argsL := []) (rest := []) (lenOf pd_1 rfl) rfl (by show 2 * 0 + _ ≤ _; exact Nat.le_of_eq rfl) (hb hby at_14) (fun _ _ => ⟨rfl, e34, (by decide : 0 + 0 ≤ _), (by decide : 0 + 0 ≤ _)⟩)
    dsimp only [Pt.U, Pt.locs, Pt.cells, Pt.slots] at X35 l35 y35 z35 st35 hQ35
    subst l35 y35 z35
    obtain ⟨rfl, N35q, e35⟩ := hQ35
    have N35 := Fr.app N34 N35q
    obtain ⟨_, _, ⟨T36, L36, k36, n36⟩, -, X36, ⟨Lc36, hQ36, l36, y36, z36⟩, st36⟩ := Jvm.LawKit.callS X35 hx (y := (⟨"org/beanpath/expr/AxisIsEmptyFromTextPinLaw", "leadsNowhereFromText", "(I)Z"⟩ : MethodName)) hown (mvT hZ (hw _ (List.mem_of_getElem? (i := 21) rfl))) (mvT hZ (hw _ (List.mem_of_getElem? (i := 22) rfl))) (mvT hZ (hw _ (List.mem_of_getElem? (i := 3) rfl))) (mvT hZ (hw _ (List.mem_of_getElem? (i := 23) rfl))) (by decide) (backOf (W := 1) (rm_lead l Z a0 hw [] (8 : Int32) h0 n0 Z0 (1 : Int32) (by first | rfl | decide)) hZ (hw _ (List.mem_of_getElem? (i := 23) rfl)) (hw _ (List.mem_of_getElem? (i := 3) rfl)) (by decide) (by decide)) (g := (mkF m 18 #[.val (.int p1), .val (.int (8 : Int32)), .val (.ref a_NAMESPACE)] [(.int (8 : Int32)), (.int (1 : Int32))])) rfl (by rw [hml]; rfl) (argsL := [(.int (8 : Int32))]) (rest := [(.int (1 : Int32))]) (lenOf pd_2 rfl) rfl (by show 2 * 0 + _ ≤ _; exact Nat.le_of_eq rfl) (hb hby at_18) (fun _ _ => ⟨rfl, e35, (by decide : 0 + 0 ≤ _), (by decide : 0 + 0 ≤ _)⟩)
    dsimp only [Pt.U, Pt.locs, Pt.cells, Pt.slots] at X36 l36 y36 z36 st36 hQ36
    subst l36 y36 z36
    obtain ⟨rfl, N36q, e36⟩ := hQ36
    have N36 := Fr.app N35 N36q
    have pre37 : ∀ t, Steps p.tables e below (T36.setTop (mkF m 29 #[.val (.int p1), .val (.int (8 : Int32)), .val (.ref a_NAMESPACE)] [(.int (1 : Int32))])) t → Steps p.tables e below (s₁.setTop (entryFrame m #[(.int p1)] maxLocals)) t := fun t k => pre1 t (by
      show Steps p.tables e below (s₁.setTop (mkF m 7 #[.val (.int p1), .unset, .unset] [(.int ((p1 &&& (2147483647 : Int32)) % (13 : Int32)))])) _
      refine castTop (g' := (mkF m 7 #[.val (.int p1), .unset, .unset] [(.int (8 : Int32))])) (by rw [hk]) ?_
      show Steps p.tables e below (s₁.setTop (mkF m 7 #[.val (.int p1), .unset, .unset] [(.int (8 : Int32))])) _
      refine XS.istoreN X0.here hx rfl (hb hby at_7) rfl (l' := #[.val (.int p1), .val (.int (8 : Int32)), .unset]) rfl ?_
      show Steps p.tables e below (s₁.setTop (mkF m 8 #[.val (.int p1), .val (.int (8 : Int32)), .unset] [])) _
      refine XS.iloadN X0.here hx rfl (hb hby at_8) rfl ?_
      show Steps p.tables e below (s₁.setTop (mkF m 9 #[.val (.int p1), .val (.int (8 : Int32)), .unset] [(.int (8 : Int32))])) _
      refine st34 _ ?_
      show Steps p.tables e below (T34.setTop (mkF m 12 #[.val (.int p1), .val (.int (8 : Int32)), .unset] [(.ref a_NAMESPACE)])) _
      refine XS.astoreN X34.here hx rfl (hb hby at_12) rfl rfl (l' := #[.val (.int p1), .val (.int (8 : Int32)), .val (.ref a_NAMESPACE)]) rfl ?_
      show Steps p.tables e below (T34.setTop (mkF m 13 #[.val (.int p1), .val (.int (8 : Int32)), .val (.ref a_NAMESPACE)] [])) _
      refine XS.aloadN X34.here hx rfl (hb hby at_13) rfl rfl ?_
      show Steps p.tables e below (T34.setTop (mkF m 14 #[.val (.int p1), .val (.int (8 : Int32)), .val (.ref a_NAMESPACE)] [(.ref a_NAMESPACE)])) _
      refine st35.trans ?_
      show Steps p.tables e below (T35.setTop (mkF m 17 #[.val (.int p1), .val (.int (8 : Int32)), .val (.ref a_NAMESPACE)] [(.int (1 : Int32))])) _
      refine XS.iloadN X35.here hx rfl (hb hby at_17) rfl ?_
      show Steps p.tables e below (T35.setTop (mkF m 18 #[.val (.int p1), .val (.int (8 : Int32)), .val (.ref a_NAMESPACE)] [(.int (8 : Int32)), (.int (1 : Int32))])) _
      refine st36 _ ?_
      show Steps p.tables e below (T36.setTop (mkF m 21 #[.val (.int p1), .val (.int (8 : Int32)), .val (.ref a_NAMESPACE)] [(.int (1 : Int32)), (.int (1 : Int32))])) _
      refine XS.icmpNo X36.here hx rfl (hb hby at_21) rfl (teq (by decide : ((1 : Int32) = (1 : Int32)))).2 ?_
      show Steps p.tables e below (T36.setTop (mkF m 24 #[.val (.int p1), .val (.int (8 : Int32)), .val (.ref a_NAMESPACE)] [])) _
      refine XT.iconstV X36.here hx rfl (1 : Int32) (hb hby at_24) (by decide) ?_
      show Steps p.tables e below (T36.setTop (mkF m 25 #[.val (.int p1), .val (.int (8 : Int32)), .val (.ref a_NAMESPACE)] [(.int (1 : Int32))])) _
      refine XS.goto X36.here hx rfl (pc0 := 25) (pc' := 29) rfl (hb hby at_25) (by decide) (by decide) ?_
      exact k)
    obtain ⟨fs, hr, hrun, hended, hW, hsame⟩ := X36.leave (v := some (.int (1 : Int32))) (fun h => by rw [Bd.returns] at h; cases h)
    refine ⟨_, _, pre37 _ ?_, hrun, hended, _, _, rfl, ?_, ⟨_, rfl⟩, hW, hsame.mono (by decide) (by decide)⟩
    · show Steps p.tables e below (T36.setTop (mkF m 29 #[.val (.int p1), .val (.int (8 : Int32)), .val (.ref a_NAMESPACE)] [(.int (1 : Int32))])) _
      exact retOut X36 hx Bd.returns rfl (Or.inl ⟨rfl, by simp, _, rfl⟩) (hb hby at_29) hr
    · show Q0 Z p1  h0 n0 _ T36.heap _
      rw [e36]
      exact ⟨rfl, N36⟩
  · have _ := 0
    obtain ⟨_, _, ⟨T38, L38, k38, n38⟩, -, X38, ⟨Lc38, hQ38, l38, y38, z38⟩, st38⟩ := Jvm.LawKit.callS X0 hx (y := (⟨"org/beanpath/expr/AxisIsEmptyFromTextPinLaw", "axisAt", "(I)Lorg/beanpath/expr/Axis;"⟩ : MethodName)) hown (mvT hZ (hw _ (List.mem_of_getElem? (i := 1) rfl))) (mvT hZ (hw _ (List.mem_of_getElem? (i := 2) rfl))) (mvT hZ (hw _ (List.mem_of_getElem? (i := 3) rfl))) (mvT hZ (hw _ (List.mem_of_getElem? (i := 4) rfl))) (by decide) (backOf (W := 0) (rm_pick l Z a0 hw [] (9 : Int32) h0 n0 Z0 a_ANCESTOR S_ANCESTOR a_ANCESTOR_OR_SELF S_ANCESTOR_OR_SELF a_ATTRIBUTE S_ATTRIBUTE a_CHILD S_CHILD a_DESCENDANT S_DESCENDANT a_DESCENDANT_OR_SELF S_DESCENDANT_OR_SELF a_FOLLOWING S_FOLLOWING a_FOLLOWING_SIBLING S_FOLLOWING_SIBLING a_NAMESPACE S_NAMESPACE a_PARENT S_PARENT a_PRECEDING S_PRECEDING a_PRECEDING_SIBLING S_PRECEDING_SIBLING a_SELF S_SELF a_PARENT (by first | rfl | simp [own_pick])) hZ (hw _ (List.mem_of_getElem? (i := 4) rfl)) (hw _ (List.mem_of_getElem? (i := 3) rfl)) (by decide) (by decide)) (g := (mkF m 9 #[.val (.int p1), .val (.int (9 : Int32)), .unset] [(.int (9 : Int32))])) rfl (by rw [hml]; rfl) (argsL := [(.int (9 : Int32))]) (rest := []) (lenOf pd_0 rfl) rfl (by show 2 * 0 + _ ≤ _; exact Nat.le_of_eq rfl) (hb hby at_9) (fun _ _ => ⟨rfl, e0, (by decide : 0 + 0 ≤ _), (by decide : 0 + 0 ≤ _)⟩)
    dsimp only [Pt.U, Pt.locs, Pt.cells, Pt.slots] at X38 l38 y38 z38 st38 hQ38
    subst l38 y38 z38
    obtain ⟨rfl, N38q, e38⟩ := hQ38
    have N38 := Fr.app N0 N38q
    obtain ⟨cq39, kq39, q39a, q39b, q39c⟩ := isOf hZ e38 E_PARENT
    obtain ⟨_, _, ⟨T39, L39, k39, n39⟩, -, X39, ⟨Lc39, hQ39, l39, y39, z39⟩, st39⟩ := X38.virtualBack hx (y := (⟨"org/beanpath/expr/Axis", "isEmptyFromText", "()Z"⟩ : MethodName)) (z := (⟨"org/beanpath/expr/Axis", "isEmptyFromText", "()Z"⟩ : MethodName)) hown (mvT hZ (hw _ (List.mem_of_getElem? (i := 8) rfl))) (mvT hZ (hw _ (List.mem_of_getElem? (i := 9) rfl))) (notFace_of_selects (args := #[]) (mvT hZ (hw _ (List.mem_of_getElem? (i := 37) rfl)))) (mvT hZ (hw _ (List.mem_of_getElem? (i := 37) rfl))) (mvT hZ (hw _ (List.mem_of_getElem? (i := 10) rfl))) (by decide) (backOf (W := 0) (rm_fin l Z a0 hw [] a_PARENT h0 n0 Z0 a_CHILD S_CHILD a_DESCENDANT S_DESCENDANT a_ATTRIBUTE S_ATTRIBUTE a_NAMESPACE S_NAMESPACE (0 : Int32) (by simp [own_fin, (ne_exa E_PARENT E_CHILD (by decide)), (ne_exa E_PARENT E_DESCENDANT (by decide)), (ne_exa E_PARENT E_ATTRIBUTE (by decide)), (ne_exa E_PARENT E_NAMESPACE (by decide))])) hZ (hw _ (List.mem_of_getElem? (i := 12) rfl)) (hw _ (List.mem_of_getElem? (i := 6) rfl)) (by decide) (by decide)) q39a q39c (g := (mkF m 14 #[.val (.int p1), .val (.int (9 : Int32)), .val (.ref a_PARENT)] [(.ref a_PARENT)])) rfl (by rw [hml]; rfl) (Steps.refl _) (argsL := []) (rest := []) (lenOf pd_1 rfl) rfl (by show 2 * 0 + _ ≤ _; exact Nat.le_of_eq rfl) (hb hby at_14) (fun _ _ => ⟨rfl, e38, (by decide : 0 + 0 ≤ _), (by decide : 0 + 0 ≤ _)⟩)
    dsimp only [Pt.U, Pt.locs, Pt.cells, Pt.slots] at X39 l39 y39 z39 st39 hQ39
    subst l39 y39 z39
    obtain ⟨rfl, N39q, e39⟩ := hQ39
    have N39 := Fr.app N38 N39q
    obtain ⟨_, _, ⟨T40, L40, k40, n40⟩, -, X40, ⟨Lc40, hQ40, l40, y40, z40⟩, st40⟩ := Jvm.LawKit.callS X39 hx (y := (⟨"org/beanpath/expr/AxisIsEmptyFromTextPinLaw", "leadsNowhereFromText", "(I)Z"⟩ : MethodName)) hown (mvT hZ (hw _ (List.mem_of_getElem? (i := 21) rfl))) (mvT hZ (hw _ (List.mem_of_getElem? (i := 22) rfl))) (mvT hZ (hw _ (List.mem_of_getElem? (i := 3) rfl))) (mvT hZ (hw _ (List.mem_of_getElem? (i := 23) rfl))) (by decide) (backOf (W := 1) (rm_lead l Z a0 hw [] (9 : Int32) h0 n0 Z0 (0 : Int32) (by first | rfl | decide)) hZ (hw _ (List.mem_of_getElem? (i := 23) rfl)) (hw _ (List.mem_of_getElem? (i := 3) rfl)) (by decide) (by decide)) (g := (mkF m 18 #[.val (.int p1), .val (.int (9 : Int32)), .val (.ref a_PARENT)] [(.int (9 : Int32)), (.int (0 : Int32))])) rfl (by rw [hml]; rfl) (argsL := [(.int (9 : Int32))]) (rest := [(.int (0 : Int32))]) (lenOf pd_2 rfl) rfl (by show 2 * 0 + _ ≤ _; exact Nat.le_of_eq rfl) (hb hby at_18) (fun _ _ => ⟨rfl, e39, (by decide : 0 + 0 ≤ _), (by decide : 0 + 0 ≤ _)⟩)
    dsimp only [Pt.U, Pt.locs, Pt.cells, Pt.slots] at X40 l40 y40 z40 st40 hQ40
    subst l40 y40 z40
    obtain ⟨rfl, N40q, e40⟩ := hQ40
    have N40 := Fr.app N39 N40q
    have pre41 : ∀ t, Steps p.tables e below (T40.setTop (mkF m 29 #[.val (.int p1), .val (.int (9 : Int32)), .val (.ref a_PARENT)] [(.int (1 : Int32))])) t → Steps p.tables e below (s₁.setTop (entryFrame m #[(.int p1)] maxLocals)) t := fun t k => pre1 t (by
      show Steps p.tables e below (s₁.setTop (mkF m 7 #[.val (.int p1), .unset, .unset] [(.int ((p1 &&& (2147483647 : Int32)) % (13 : Int32)))])) _
      refine castTop (g' := (mkF m 7 #[.val (.int p1), .unset, .unset] [(.int (9 : Int32))])) (by rw [hk]) ?_
      show Steps p.tables e below (s₁.setTop (mkF m 7 #[.val (.int p1), .unset, .unset] [(.int (9 : Int32))])) _
      refine XS.istoreN X0.here hx rfl (hb hby at_7) rfl (l' := #[.val (.int p1), .val (.int (9 : Int32)), .unset]) rfl ?_
      show Steps p.tables e below (s₁.setTop (mkF m 8 #[.val (.int p1), .val (.int (9 : Int32)), .unset] [])) _
      refine XS.iloadN X0.here hx rfl (hb hby at_8) rfl ?_
      show Steps p.tables e below (s₁.setTop (mkF m 9 #[.val (.int p1), .val (.int (9 : Int32)), .unset] [(.int (9 : Int32))])) _
      refine st38 _ ?_
      show Steps p.tables e below (T38.setTop (mkF m 12 #[.val (.int p1), .val (.int (9 : Int32)), .unset] [(.ref a_PARENT)])) _
      refine XS.astoreN X38.here hx rfl (hb hby at_12) rfl rfl (l' := #[.val (.int p1), .val (.int (9 : Int32)), .val (.ref a_PARENT)]) rfl ?_
      show Steps p.tables e below (T38.setTop (mkF m 13 #[.val (.int p1), .val (.int (9 : Int32)), .val (.ref a_PARENT)] [])) _
      refine XS.aloadN X38.here hx rfl (hb hby at_13) rfl rfl ?_
      show Steps p.tables e below (T38.setTop (mkF m 14 #[.val (.int p1), .val (.int (9 : Int32)), .val (.ref a_PARENT)] [(.ref a_PARENT)])) _
      refine st39.trans ?_
      show Steps p.tables e below (T39.setTop (mkF m 17 #[.val (.int p1), .val (.int (9 : Int32)), .val (.ref a_PARENT)] [(.int (0 : Int32))])) _
      refine XS.iloadN X39.here hx rfl (hb hby at_17) rfl ?_
      show Steps p.tables e below (T39.setTop (mkF m 18 #[.val (.int p1), .val (.int (9 : Int32)), .val (.ref a_PARENT)] [(.int (9 : Int32)), (.int (0 : Int32))])) _
      refine st40 _ ?_
      show Steps p.tables e below (T40.setTop (mkF m 21 #[.val (.int p1), .val (.int (9 : Int32)), .val (.ref a_PARENT)] [(.int (0 : Int32)), (.int (0 : Int32))])) _
      refine XS.icmpNo X40.here hx rfl (hb hby at_21) rfl (teq (by decide : ((0 : Int32) = (0 : Int32)))).2 ?_
      show Steps p.tables e below (T40.setTop (mkF m 24 #[.val (.int p1), .val (.int (9 : Int32)), .val (.ref a_PARENT)] [])) _
      refine XT.iconstV X40.here hx rfl (1 : Int32) (hb hby at_24) (by decide) ?_
      show Steps p.tables e below (T40.setTop (mkF m 25 #[.val (.int p1), .val (.int (9 : Int32)), .val (.ref a_PARENT)] [(.int (1 : Int32))])) _
      refine XS.goto X40.here hx rfl (pc0 := 25) (pc' := 29) rfl (hb hby at_25) (by decide) (by decide) ?_
      exact k)
    obtain ⟨fs, hr, hrun, hended, hW, hsame⟩ := X40.leave (v := some (.int (1 : Int32))) (fun h => by rw [Bd.returns] at h; cases h)
    refine ⟨_, _, pre41 _ ?_, hrun, hended, _, _, rfl, ?_, ⟨_, rfl⟩, hW, hsame.mono (by decide) (by decide)⟩
    · show Steps p.tables e below (T40.setTop (mkF m 29 #[.val (.int p1), .val (.int (9 : Int32)), .val (.ref a_PARENT)] [(.int (1 : Int32))])) _
      exact retOut X40 hx Bd.returns rfl (Or.inl ⟨rfl, by simp, _, rfl⟩) (hb hby at_29) hr
    · show Q0 Z p1  h0 n0 _ T40.heap _
      rw [e40]
      exact ⟨rfl, N40⟩
  · have _ := 0
    obtain ⟨_, _, ⟨T42, L42, k42, n42⟩, -, X42, ⟨Lc42, hQ42, l42, y42, z42⟩, st42⟩ := Jvm.LawKit.callS X0 hx (y := (⟨"org/beanpath/expr/AxisIsEmptyFromTextPinLaw", "axisAt", "(I)Lorg/beanpath/expr/Axis;"⟩ : MethodName)) hown (mvT hZ (hw _ (List.mem_of_getElem? (i := 1) rfl))) (mvT hZ (hw _ (List.mem_of_getElem? (i := 2) rfl))) (mvT hZ (hw _ (List.mem_of_getElem? (i := 3) rfl))) (mvT hZ (hw _ (List.mem_of_getElem? (i := 4) rfl))) (by decide) (backOf (W := 0) (rm_pick l Z a0 hw [] (10 : Int32) h0 n0 Z0 a_ANCESTOR S_ANCESTOR a_ANCESTOR_OR_SELF S_ANCESTOR_OR_SELF a_ATTRIBUTE S_ATTRIBUTE a_CHILD S_CHILD a_DESCENDANT S_DESCENDANT a_DESCENDANT_OR_SELF S_DESCENDANT_OR_SELF a_FOLLOWING S_FOLLOWING a_FOLLOWING_SIBLING S_FOLLOWING_SIBLING a_NAMESPACE S_NAMESPACE a_PARENT S_PARENT a_PRECEDING S_PRECEDING a_PRECEDING_SIBLING S_PRECEDING_SIBLING a_SELF S_SELF a_PRECEDING (by first | rfl | simp [own_pick])) hZ (hw _ (List.mem_of_getElem? (i := 4) rfl)) (hw _ (List.mem_of_getElem? (i := 3) rfl)) (by decide) (by decide)) (g := (mkF m 9 #[.val (.int p1), .val (.int (10 : Int32)), .unset] [(.int (10 : Int32))])) rfl (by rw [hml]; rfl) (argsL := [(.int (10 : Int32))]) (rest := []) (lenOf pd_0 rfl) rfl (by show 2 * 0 + _ ≤ _; exact Nat.le_of_eq rfl) (hb hby at_9) (fun _ _ => ⟨rfl, e0, (by decide : 0 + 0 ≤ _), (by decide : 0 + 0 ≤ _)⟩)
    dsimp only [Pt.U, Pt.locs, Pt.cells, Pt.slots] at X42 l42 y42 z42 st42 hQ42
    subst l42 y42 z42
    obtain ⟨rfl, N42q, e42⟩ := hQ42
    have N42 := Fr.app N0 N42q
    obtain ⟨cq43, kq43, q43a, q43b, q43c⟩ := isOf hZ e42 E_PRECEDING
    obtain ⟨_, _, ⟨T43, L43, k43, n43⟩, -, X43, ⟨Lc43, hQ43, l43, y43, z43⟩, st43⟩ := X42.virtualBack hx (y := (⟨"org/beanpath/expr/Axis", "isEmptyFromText", "()Z"⟩ : MethodName)) (z := (⟨"org/beanpath/expr/Axis", "isEmptyFromText", "()Z"⟩ : MethodName)) hown (mvT hZ (hw _ (List.mem_of_getElem? (i := 8) rfl))) (mvT hZ (hw _ (List.mem_of_getElem? (i := 9) rfl))) (notFace_of_selects (args := #[]) (mvT hZ (hw _ (List.mem_of_getElem? (i := 50) rfl)))) (mvT hZ (hw _ (List.mem_of_getElem? (i := 50) rfl))) (mvT hZ (hw _ (List.mem_of_getElem? (i := 10) rfl))) (by decide) (backOf (W := 0) (rm_fin l Z a0 hw [] a_PRECEDING h0 n0 Z0 a_CHILD S_CHILD a_DESCENDANT S_DESCENDANT a_ATTRIBUTE S_ATTRIBUTE a_NAMESPACE S_NAMESPACE (0 : Int32) (by simp [own_fin, (ne_exa E_PRECEDING E_CHILD (by decide)), (ne_exa E_PRECEDING E_DESCENDANT (by decide)), (ne_exa E_PRECEDING E_ATTRIBUTE (by decide)), (ne_exa E_PRECEDING E_NAMESPACE (by decide))])) hZ (hw _ (List.mem_of_getElem? (i := 12) rfl)) (hw _ (List.mem_of_getElem? (i := 6) rfl)) (by decide) (by decide)) q43a q43c (g := (mkF m 14 #[.val (.int p1), .val (.int (10 : Int32)), .val (.ref a_PRECEDING)] [(.ref a_PRECEDING)])) rfl (by rw [hml]; rfl) (Steps.refl _) (argsL := []) (rest := []) (lenOf pd_1 rfl) rfl (by show 2 * 0 + _ ≤ _; exact Nat.le_of_eq rfl) (hb hby at_14) (fun _ _ => ⟨rfl, e42, (by decide : 0 + 0 ≤ _), (by decide : 0 + 0 ≤ _)⟩)
    dsimp only [Pt.U, Pt.locs, Pt.cells, Pt.slots] at X43 l43 y43 z43 st43 hQ43
    subst l43 y43 z43
    obtain ⟨rfl, N43q, e43⟩ := hQ43
    have N43 := Fr.app N42 N43q
    obtain ⟨_, _, ⟨T44, L44, k44, n44⟩, -, X44, ⟨Lc44, hQ44, l44, y44, z44⟩, st44⟩ := Jvm.LawKit.callS X43 hx (y := (⟨"org/beanpath/expr/AxisIsEmptyFromTextPinLaw", "leadsNowhereFromText", "(I)Z"⟩ : MethodName)) hown (mvT hZ (hw _ (List.mem_of_getElem? (i := 21) rfl))) (mvT hZ (hw _ (List.mem_of_getElem? (i := 22) rfl))) (mvT hZ (hw _ (List.mem_of_getElem? (i := 3) rfl))) (mvT hZ (hw _ (List.mem_of_getElem? (i := 23) rfl))) (by decide) (backOf (W := 1) (rm_lead l Z a0 hw [] (10 : Int32) h0 n0 Z0 (0 : Int32) (by first | rfl | decide)) hZ (hw _ (List.mem_of_getElem? (i := 23) rfl)) (hw _ (List.mem_of_getElem? (i := 3) rfl)) (by decide) (by decide)) (g := (mkF m 18 #[.val (.int p1), .val (.int (10 : Int32)), .val (.ref a_PRECEDING)] [(.int (10 : Int32)), (.int (0 : Int32))])) rfl (by rw [hml]; rfl) (argsL := [(.int (10 : Int32))]) (rest := [(.int (0 : Int32))]) (lenOf pd_2 rfl) rfl (by show 2 * 0 + _ ≤ _; exact Nat.le_of_eq rfl) (hb hby at_18) (fun _ _ => ⟨rfl, e43, (by decide : 0 + 0 ≤ _), (by decide : 0 + 0 ≤ _)⟩)
    dsimp only [Pt.U, Pt.locs, Pt.cells, Pt.slots] at X44 l44 y44 z44 st44 hQ44
    subst l44 y44 z44
    obtain ⟨rfl, N44q, e44⟩ := hQ44
    have N44 := Fr.app N43 N44q
    have pre45 : ∀ t, Steps p.tables e below (T44.setTop (mkF m 29 #[.val (.int p1), .val (.int (10 : Int32)), .val (.ref a_PRECEDING)] [(.int (1 : Int32))])) t → Steps p.tables e below (s₁.setTop (entryFrame m #[(.int p1)] maxLocals)) t := fun t k => pre1 t (by
      show Steps p.tables e below (s₁.setTop (mkF m 7 #[.val (.int p1), .unset, .unset] [(.int ((p1 &&& (2147483647 : Int32)) % (13 : Int32)))])) _
      refine castTop (g' := (mkF m 7 #[.val (.int p1), .unset, .unset] [(.int (10 : Int32))])) (by rw [hk]) ?_
      show Steps p.tables e below (s₁.setTop (mkF m 7 #[.val (.int p1), .unset, .unset] [(.int (10 : Int32))])) _
      refine XS.istoreN X0.here hx rfl (hb hby at_7) rfl (l' := #[.val (.int p1), .val (.int (10 : Int32)), .unset]) rfl ?_
      show Steps p.tables e below (s₁.setTop (mkF m 8 #[.val (.int p1), .val (.int (10 : Int32)), .unset] [])) _
      refine XS.iloadN X0.here hx rfl (hb hby at_8) rfl ?_
      show Steps p.tables e below (s₁.setTop (mkF m 9 #[.val (.int p1), .val (.int (10 : Int32)), .unset] [(.int (10 : Int32))])) _
      refine st42 _ ?_
      show Steps p.tables e below (T42.setTop (mkF m 12 #[.val (.int p1), .val (.int (10 : Int32)), .unset] [(.ref a_PRECEDING)])) _
      refine XS.astoreN X42.here hx rfl (hb hby at_12) rfl rfl (l' := #[.val (.int p1), .val (.int (10 : Int32)), .val (.ref a_PRECEDING)]) rfl ?_
      show Steps p.tables e below (T42.setTop (mkF m 13 #[.val (.int p1), .val (.int (10 : Int32)), .val (.ref a_PRECEDING)] [])) _
      refine XS.aloadN X42.here hx rfl (hb hby at_13) rfl rfl ?_
      show Steps p.tables e below (T42.setTop (mkF m 14 #[.val (.int p1), .val (.int (10 : Int32)), .val (.ref a_PRECEDING)] [(.ref a_PRECEDING)])) _
      refine st43.trans ?_
      show Steps p.tables e below (T43.setTop (mkF m 17 #[.val (.int p1), .val (.int (10 : Int32)), .val (.ref a_PRECEDING)] [(.int (0 : Int32))])) _
      refine XS.iloadN X43.here hx rfl (hb hby at_17) rfl ?_
      show Steps p.tables e below (T43.setTop (mkF m 18 #[.val (.int p1), .val (.int (10 : Int32)), .val (.ref a_PRECEDING)] [(.int (10 : Int32)), (.int (0 : Int32))])) _
      refine st44 _ ?_
      show Steps p.tables e below (T44.setTop (mkF m 21 #[.val (.int p1), .val (.int (10 : Int32)), .val (.ref a_PRECEDING)] [(.int (0 : Int32)), (.int (0 : Int32))])) _
      refine XS.icmpNo X44.here hx rfl (hb hby at_21) rfl (teq (by decide : ((0 : Int32) = (0 : Int32)))).2 ?_
      show Steps p.tables e below (T44.setTop (mkF m 24 #[.val (.int p1), .val (.int (10 : Int32)), .val (.ref a_PRECEDING)] [])) _
      refine XT.iconstV X44.here hx rfl (1 : Int32) (hb hby at_24) (by decide) ?_
      show Steps p.tables e below (T44.setTop (mkF m 25 #[.val (.int p1), .val (.int (10 : Int32)), .val (.ref a_PRECEDING)] [(.int (1 : Int32))])) _
      refine XS.goto X44.here hx rfl (pc0 := 25) (pc' := 29) rfl (hb hby at_25) (by decide) (by decide) ?_
      exact k)
    obtain ⟨fs, hr, hrun, hended, hW, hsame⟩ := X44.leave (v := some (.int (1 : Int32))) (fun h => by rw [Bd.returns] at h; cases h)
    refine ⟨_, _, pre45 _ ?_, hrun, hended, _, _, rfl, ?_, ⟨_, rfl⟩, hW, hsame.mono (by decide) (by decide)⟩
    · show Steps p.tables e below (T44.setTop (mkF m 29 #[.val (.int p1), .val (.int (10 : Int32)), .val (.ref a_PRECEDING)] [(.int (1 : Int32))])) _
      exact retOut X44 hx Bd.returns rfl (Or.inl ⟨rfl, by simp, _, rfl⟩) (hb hby at_29) hr
    · show Q0 Z p1  h0 n0 _ T44.heap _
      rw [e44]
      exact ⟨rfl, N44⟩
  · have _ := 0
    obtain ⟨_, _, ⟨T46, L46, k46, n46⟩, -, X46, ⟨Lc46, hQ46, l46, y46, z46⟩, st46⟩ := Jvm.LawKit.callS X0 hx (y := (⟨"org/beanpath/expr/AxisIsEmptyFromTextPinLaw", "axisAt", "(I)Lorg/beanpath/expr/Axis;"⟩ : MethodName)) hown (mvT hZ (hw _ (List.mem_of_getElem? (i := 1) rfl))) (mvT hZ (hw _ (List.mem_of_getElem? (i := 2) rfl))) (mvT hZ (hw _ (List.mem_of_getElem? (i := 3) rfl))) (mvT hZ (hw _ (List.mem_of_getElem? (i := 4) rfl))) (by decide) (backOf (W := 0) (rm_pick l Z a0 hw [] (11 : Int32) h0 n0 Z0 a_ANCESTOR S_ANCESTOR a_ANCESTOR_OR_SELF S_ANCESTOR_OR_SELF a_ATTRIBUTE S_ATTRIBUTE a_CHILD S_CHILD a_DESCENDANT S_DESCENDANT a_DESCENDANT_OR_SELF S_DESCENDANT_OR_SELF a_FOLLOWING S_FOLLOWING a_FOLLOWING_SIBLING S_FOLLOWING_SIBLING a_NAMESPACE S_NAMESPACE a_PARENT S_PARENT a_PRECEDING S_PRECEDING a_PRECEDING_SIBLING S_PRECEDING_SIBLING a_SELF S_SELF a_PRECEDING_SIBLING (by first | rfl | simp [own_pick])) hZ (hw _ (List.mem_of_getElem? (i := 4) rfl)) (hw _ (List.mem_of_getElem? (i := 3) rfl)) (by decide) (by decide)) (g := (mkF m 9 #[.val (.int p1), .val (.int (11 : Int32)), .unset] [(.int (11 : Int32))])) rfl (by rw [hml]; rfl) (argsL := [(.int (11 : Int32))]) (rest := []) (lenOf pd_0 rfl) rfl (by show 2 * 0 + _ ≤ _; exact Nat.le_of_eq rfl) (hb hby at_9) (fun _ _ => ⟨rfl, e0, (by decide : 0 + 0 ≤ _), (by decide : 0 + 0 ≤ _)⟩)
    dsimp only [Pt.U, Pt.locs, Pt.cells, Pt.slots] at X46 l46 y46 z46 st46 hQ46
    subst l46 y46 z46
    obtain ⟨rfl, N46q, e46⟩ := hQ46
    have N46 := Fr.app N0 N46q
    obtain ⟨cq47, kq47, q47a, q47b, q47c⟩ := isOf hZ e46 E_PRECEDING_SIBLING
    obtain ⟨_, _, ⟨T47, L47, k47, n47⟩, -, X47, ⟨Lc47, hQ47, l47, y47, z47⟩, st47⟩ := X46.virtualBack hx (y := (⟨"org/beanpath/expr/Axis", "isEmptyFromText", "()Z"⟩ : MethodName)) (z := (⟨"org/beanpath/expr/Axis", "isEmptyFromText", "()Z"⟩ : MethodName)) hown (mvT hZ (hw _ (List.mem_of_getElem? (i := 8) rfl))) (mvT hZ (hw _ (List.mem_of_getElem? (i := 9) rfl))) (notFace_of_selects (args := #[]) (mvT hZ (hw _ (List.mem_of_getElem? (i := 42) rfl)))) (mvT hZ (hw _ (List.mem_of_getElem? (i := 42) rfl))) (mvT hZ (hw _ (List.mem_of_getElem? (i := 10) rfl))) (by decide) (backOf (W := 0) (rm_fin l Z a0 hw [] a_PRECEDING_SIBLING h0 n0 Z0 a_CHILD S_CHILD a_DESCENDANT S_DESCENDANT a_ATTRIBUTE S_ATTRIBUTE a_NAMESPACE S_NAMESPACE (0 : Int32) (by simp [own_fin, (ne_exa E_PRECEDING_SIBLING E_CHILD (by decide)), (ne_exa E_PRECEDING_SIBLING E_DESCENDANT (by decide)), (ne_exa E_PRECEDING_SIBLING E_ATTRIBUTE (by decide)), (ne_exa E_PRECEDING_SIBLING E_NAMESPACE (by decide))])) hZ (hw _ (List.mem_of_getElem? (i := 12) rfl)) (hw _ (List.mem_of_getElem? (i := 6) rfl)) (by decide) (by decide)) q47a q47c (g := (mkF m 14 #[.val (.int p1), .val (.int (11 : Int32)), .val (.ref a_PRECEDING_SIBLING)] [(.ref a_PRECEDING_SIBLING)])) rfl (by rw [hml]; rfl) (Steps.refl _) (argsL := []) (rest := []) (lenOf pd_1 rfl) rfl (by show 2 * 0 + _ ≤ _; exact Nat.le_of_eq rfl) (hb hby at_14) (fun _ _ => ⟨rfl, e46, (by decide : 0 + 0 ≤ _), (by decide : 0 + 0 ≤ _)⟩)
    dsimp only [Pt.U, Pt.locs, Pt.cells, Pt.slots] at X47 l47 y47 z47 st47 hQ47
    subst l47 y47 z47
    obtain ⟨rfl, N47q, e47⟩ := hQ47
    have N47 := Fr.app N46 N47q
    obtain ⟨_, _, ⟨T48, L48, k48, n48⟩, -, X48, ⟨Lc48, hQ48, l48, y48, z48⟩, st48⟩ := Jvm.LawKit.callS X47 hx (y := (⟨"org/beanpath/expr/AxisIsEmptyFromTextPinLaw", "leadsNowhereFromText", "(I)Z"⟩ : MethodName)) hown (mvT hZ (hw _ (List.mem_of_getElem? (i := 21) rfl))) (mvT hZ (hw _ (List.mem_of_getElem? (i := 22) rfl))) (mvT hZ (hw _ (List.mem_of_getElem? (i := 3) rfl))) (mvT hZ (hw _ (List.mem_of_getElem? (i := 23) rfl))) (by decide) (backOf (W := 1) (rm_lead l Z a0 hw [] (11 : Int32) h0 n0 Z0 (0 : Int32) (by first | rfl | decide)) hZ (hw _ (List.mem_of_getElem? (i := 23) rfl)) (hw _ (List.mem_of_getElem? (i := 3) rfl)) (by decide) (by decide)) (g := (mkF m 18 #[.val (.int p1), .val (.int (11 : Int32)), .val (.ref a_PRECEDING_SIBLING)] [(.int (11 : Int32)), (.int (0 : Int32))])) rfl (by rw [hml]; rfl) (argsL := [(.int (11 : Int32))]) (rest := [(.int (0 : Int32))]) (lenOf pd_2 rfl) rfl (by show 2 * 0 + _ ≤ _; exact Nat.le_of_eq rfl) (hb hby at_18) (fun _ _ => ⟨rfl, e47, (by decide : 0 + 0 ≤ _), (by decide : 0 + 0 ≤ _)⟩)
    dsimp only [Pt.U, Pt.locs, Pt.cells, Pt.slots] at X48 l48 y48 z48 st48 hQ48
    subst l48 y48 z48
    obtain ⟨rfl, N48q, e48⟩ := hQ48
    have N48 := Fr.app N47 N48q
    have pre49 : ∀ t, Steps p.tables e below (T48.setTop (mkF m 29 #[.val (.int p1), .val (.int (11 : Int32)), .val (.ref a_PRECEDING_SIBLING)] [(.int (1 : Int32))])) t → Steps p.tables e below (s₁.setTop (entryFrame m #[(.int p1)] maxLocals)) t := fun t k => pre1 t (by
      show Steps p.tables e below (s₁.setTop (mkF m 7 #[.val (.int p1), .unset, .unset] [(.int ((p1 &&& (2147483647 : Int32)) % (13 : Int32)))])) _
      refine castTop (g' := (mkF m 7 #[.val (.int p1), .unset, .unset] [(.int (11 : Int32))])) (by rw [hk]) ?_
      show Steps p.tables e below (s₁.setTop (mkF m 7 #[.val (.int p1), .unset, .unset] [(.int (11 : Int32))])) _
      refine XS.istoreN X0.here hx rfl (hb hby at_7) rfl (l' := #[.val (.int p1), .val (.int (11 : Int32)), .unset]) rfl ?_
      show Steps p.tables e below (s₁.setTop (mkF m 8 #[.val (.int p1), .val (.int (11 : Int32)), .unset] [])) _
      refine XS.iloadN X0.here hx rfl (hb hby at_8) rfl ?_
      show Steps p.tables e below (s₁.setTop (mkF m 9 #[.val (.int p1), .val (.int (11 : Int32)), .unset] [(.int (11 : Int32))])) _
      refine st46 _ ?_
      show Steps p.tables e below (T46.setTop (mkF m 12 #[.val (.int p1), .val (.int (11 : Int32)), .unset] [(.ref a_PRECEDING_SIBLING)])) _
      refine XS.astoreN X46.here hx rfl (hb hby at_12) rfl rfl (l' := #[.val (.int p1), .val (.int (11 : Int32)), .val (.ref a_PRECEDING_SIBLING)]) rfl ?_
      show Steps p.tables e below (T46.setTop (mkF m 13 #[.val (.int p1), .val (.int (11 : Int32)), .val (.ref a_PRECEDING_SIBLING)] [])) _
      refine XS.aloadN X46.here hx rfl (hb hby at_13) rfl rfl ?_
      show Steps p.tables e below (T46.setTop (mkF m 14 #[.val (.int p1), .val (.int (11 : Int32)), .val (.ref a_PRECEDING_SIBLING)] [(.ref a_PRECEDING_SIBLING)])) _
      refine st47.trans ?_
      show Steps p.tables e below (T47.setTop (mkF m 17 #[.val (.int p1), .val (.int (11 : Int32)), .val (.ref a_PRECEDING_SIBLING)] [(.int (0 : Int32))])) _
      refine XS.iloadN X47.here hx rfl (hb hby at_17) rfl ?_
      show Steps p.tables e below (T47.setTop (mkF m 18 #[.val (.int p1), .val (.int (11 : Int32)), .val (.ref a_PRECEDING_SIBLING)] [(.int (11 : Int32)), (.int (0 : Int32))])) _
      refine st48 _ ?_
      show Steps p.tables e below (T48.setTop (mkF m 21 #[.val (.int p1), .val (.int (11 : Int32)), .val (.ref a_PRECEDING_SIBLING)] [(.int (0 : Int32)), (.int (0 : Int32))])) _
      refine XS.icmpNo X48.here hx rfl (hb hby at_21) rfl (teq (by decide : ((0 : Int32) = (0 : Int32)))).2 ?_
      show Steps p.tables e below (T48.setTop (mkF m 24 #[.val (.int p1), .val (.int (11 : Int32)), .val (.ref a_PRECEDING_SIBLING)] [])) _
      refine XT.iconstV X48.here hx rfl (1 : Int32) (hb hby at_24) (by decide) ?_
      show Steps p.tables e below (T48.setTop (mkF m 25 #[.val (.int p1), .val (.int (11 : Int32)), .val (.ref a_PRECEDING_SIBLING)] [(.int (1 : Int32))])) _
      refine XS.goto X48.here hx rfl (pc0 := 25) (pc' := 29) rfl (hb hby at_25) (by decide) (by decide) ?_
      exact k)
    obtain ⟨fs, hr, hrun, hended, hW, hsame⟩ := X48.leave (v := some (.int (1 : Int32))) (fun h => by rw [Bd.returns] at h; cases h)
    refine ⟨_, _, pre49 _ ?_, hrun, hended, _, _, rfl, ?_, ⟨_, rfl⟩, hW, hsame.mono (by decide) (by decide)⟩
    · show Steps p.tables e below (T48.setTop (mkF m 29 #[.val (.int p1), .val (.int (11 : Int32)), .val (.ref a_PRECEDING_SIBLING)] [(.int (1 : Int32))])) _
      exact retOut X48 hx Bd.returns rfl (Or.inl ⟨rfl, by simp, _, rfl⟩) (hb hby at_29) hr
    · show Q0 Z p1  h0 n0 _ T48.heap _
      rw [e48]
      exact ⟨rfl, N48⟩
  · have _ := 0
    obtain ⟨_, _, ⟨T50, L50, k50, n50⟩, -, X50, ⟨Lc50, hQ50, l50, y50, z50⟩, st50⟩ := Jvm.LawKit.callS X0 hx (y := (⟨"org/beanpath/expr/AxisIsEmptyFromTextPinLaw", "axisAt", "(I)Lorg/beanpath/expr/Axis;"⟩ : MethodName)) hown (mvT hZ (hw _ (List.mem_of_getElem? (i := 1) rfl))) (mvT hZ (hw _ (List.mem_of_getElem? (i := 2) rfl))) (mvT hZ (hw _ (List.mem_of_getElem? (i := 3) rfl))) (mvT hZ (hw _ (List.mem_of_getElem? (i := 4) rfl))) (by decide) (backOf (W := 0) (rm_pick l Z a0 hw [] (12 : Int32) h0 n0 Z0 a_ANCESTOR S_ANCESTOR a_ANCESTOR_OR_SELF S_ANCESTOR_OR_SELF a_ATTRIBUTE S_ATTRIBUTE a_CHILD S_CHILD a_DESCENDANT S_DESCENDANT a_DESCENDANT_OR_SELF S_DESCENDANT_OR_SELF a_FOLLOWING S_FOLLOWING a_FOLLOWING_SIBLING S_FOLLOWING_SIBLING a_NAMESPACE S_NAMESPACE a_PARENT S_PARENT a_PRECEDING S_PRECEDING a_PRECEDING_SIBLING S_PRECEDING_SIBLING a_SELF S_SELF a_SELF (by first | rfl | simp [own_pick])) hZ (hw _ (List.mem_of_getElem? (i := 4) rfl)) (hw _ (List.mem_of_getElem? (i := 3) rfl)) (by decide) (by decide)) (g := (mkF m 9 #[.val (.int p1), .val (.int (12 : Int32)), .unset] [(.int (12 : Int32))])) rfl (by rw [hml]; rfl) (argsL := [(.int (12 : Int32))]) (rest := []) (lenOf pd_0 rfl) rfl (by show 2 * 0 + _ ≤ _; exact Nat.le_of_eq rfl) (hb hby at_9) (fun _ _ => ⟨rfl, e0, (by decide : 0 + 0 ≤ _), (by decide : 0 + 0 ≤ _)⟩)
    dsimp only [Pt.U, Pt.locs, Pt.cells, Pt.slots] at X50 l50 y50 z50 st50 hQ50
    subst l50 y50 z50
    obtain ⟨rfl, N50q, e50⟩ := hQ50
    have N50 := Fr.app N0 N50q
    obtain ⟨cq51, kq51, q51a, q51b, q51c⟩ := isOf hZ e50 E_SELF
    obtain ⟨_, _, ⟨T51, L51, k51, n51⟩, -, X51, ⟨Lc51, hQ51, l51, y51, z51⟩, st51⟩ := X50.virtualBack hx (y := (⟨"org/beanpath/expr/Axis", "isEmptyFromText", "()Z"⟩ : MethodName)) (z := (⟨"org/beanpath/expr/Axis", "isEmptyFromText", "()Z"⟩ : MethodName)) hown (mvT hZ (hw _ (List.mem_of_getElem? (i := 8) rfl))) (mvT hZ (hw _ (List.mem_of_getElem? (i := 9) rfl))) (notFace_of_selects (args := #[]) (mvT hZ (hw _ (List.mem_of_getElem? (i := 53) rfl)))) (mvT hZ (hw _ (List.mem_of_getElem? (i := 53) rfl))) (mvT hZ (hw _ (List.mem_of_getElem? (i := 10) rfl))) (by decide) (backOf (W := 0) (rm_fin l Z a0 hw [] a_SELF h0 n0 Z0 a_CHILD S_CHILD a_DESCENDANT S_DESCENDANT a_ATTRIBUTE S_ATTRIBUTE a_NAMESPACE S_NAMESPACE (0 : Int32) (by simp [own_fin, (ne_exa E_SELF E_CHILD (by decide)), (ne_exa E_SELF E_DESCENDANT (by decide)), (ne_exa E_SELF E_ATTRIBUTE (by decide)), (ne_exa E_SELF E_NAMESPACE (by decide))])) hZ (hw _ (List.mem_of_getElem? (i := 12) rfl)) (hw _ (List.mem_of_getElem? (i := 6) rfl)) (by decide) (by decide)) q51a q51c (g := (mkF m 14 #[.val (.int p1), .val (.int (12 : Int32)), .val (.ref a_SELF)] [(.ref a_SELF)])) rfl (by rw [hml]; rfl) (Steps.refl _) (argsL := []) (rest := []) (lenOf pd_1 rfl) rfl (by show 2 * 0 + _ ≤ _; exact Nat.le_of_eq rfl) (hb hby at_14) (fun _ _ => ⟨rfl, e50, (by decide : 0 + 0 ≤ _), (by decide : 0 + 0 ≤ _)⟩)
    dsimp only [Pt.U, Pt.locs, Pt.cells, Pt.slots] at X51 l51 y51 z51 st51 hQ51
    subst l51 y51 z51
    obtain ⟨rfl, N51q, e51⟩ := hQ51
    have N51 := Fr.app N50 N51q
    obtain ⟨_, _, ⟨T52, L52, k52, n52⟩, -, X52, ⟨Lc52, hQ52, l52, y52, z52⟩, st52⟩ := Jvm.LawKit.callS X51 hx (y := (⟨"org/beanpath/expr/AxisIsEmptyFromTextPinLaw", "leadsNowhereFromText", "(I)Z"⟩ : MethodName)) hown (mvT hZ (hw _ (List.mem_of_getElem? (i := 21) rfl))) (mvT hZ (hw _ (List.mem_of_getElem? (i := 22) rfl))) (mvT hZ (hw _ (List.mem_of_getElem? (i := 3) rfl))) (mvT hZ (hw _ (List.mem_of_getElem? (i := 23) rfl))) (by decide) (backOf (W := 1) (rm_lead l Z a0 hw [] (12 : Int32) h0 n0 Z0 (0 : Int32) (by first | rfl | decide)) hZ (hw _ (List.mem_of_getElem? (i := 23) rfl)) (hw _ (List.mem_of_getElem? (i := 3) rfl)) (by decide) (by decide)) (g := (mkF m 18 #[.val (.int p1), .val (.int (12 : Int32)), .val (.ref a_SELF)] [(.int (12 : Int32)), (.int (0 : Int32))])) rfl (by rw [hml]; rfl) (argsL := [(.int (12 : Int32))]) (rest := [(.int (0 : Int32))]) (lenOf pd_2 rfl) rfl (by show 2 * 0 + _ ≤ _; exact Nat.le_of_eq rfl) (hb hby at_18) (fun _ _ => ⟨rfl, e51, (by decide : 0 + 0 ≤ _), (by decide : 0 + 0 ≤ _)⟩)
    dsimp only [Pt.U, Pt.locs, Pt.cells, Pt.slots] at X52 l52 y52 z52 st52 hQ52
    subst l52 y52 z52
    obtain ⟨rfl, N52q, e52⟩ := hQ52
    have N52 := Fr.app N51 N52q
    have pre53 : ∀ t, Steps p.tables e below (T52.setTop (mkF m 29 #[.val (.int p1), .val (.int (12 : Int32)), .val (.ref a_SELF)] [(.int (1 : Int32))])) t → Steps p.tables e below (s₁.setTop (entryFrame m #[(.int p1)] maxLocals)) t := fun t k => pre1 t (by
      show Steps p.tables e below (s₁.setTop (mkF m 7 #[.val (.int p1), .unset, .unset] [(.int ((p1 &&& (2147483647 : Int32)) % (13 : Int32)))])) _
      refine castTop (g' := (mkF m 7 #[.val (.int p1), .unset, .unset] [(.int (12 : Int32))])) (by rw [hk]) ?_
      show Steps p.tables e below (s₁.setTop (mkF m 7 #[.val (.int p1), .unset, .unset] [(.int (12 : Int32))])) _
      refine XS.istoreN X0.here hx rfl (hb hby at_7) rfl (l' := #[.val (.int p1), .val (.int (12 : Int32)), .unset]) rfl ?_
      show Steps p.tables e below (s₁.setTop (mkF m 8 #[.val (.int p1), .val (.int (12 : Int32)), .unset] [])) _
      refine XS.iloadN X0.here hx rfl (hb hby at_8) rfl ?_
      show Steps p.tables e below (s₁.setTop (mkF m 9 #[.val (.int p1), .val (.int (12 : Int32)), .unset] [(.int (12 : Int32))])) _
      refine st50 _ ?_
      show Steps p.tables e below (T50.setTop (mkF m 12 #[.val (.int p1), .val (.int (12 : Int32)), .unset] [(.ref a_SELF)])) _
      refine XS.astoreN X50.here hx rfl (hb hby at_12) rfl rfl (l' := #[.val (.int p1), .val (.int (12 : Int32)), .val (.ref a_SELF)]) rfl ?_
      show Steps p.tables e below (T50.setTop (mkF m 13 #[.val (.int p1), .val (.int (12 : Int32)), .val (.ref a_SELF)] [])) _
      refine XS.aloadN X50.here hx rfl (hb hby at_13) rfl rfl ?_
      show Steps p.tables e below (T50.setTop (mkF m 14 #[.val (.int p1), .val (.int (12 : Int32)), .val (.ref a_SELF)] [(.ref a_SELF)])) _
      refine st51.trans ?_
      show Steps p.tables e below (T51.setTop (mkF m 17 #[.val (.int p1), .val (.int (12 : Int32)), .val (.ref a_SELF)] [(.int (0 : Int32))])) _
      refine XS.iloadN X51.here hx rfl (hb hby at_17) rfl ?_
      show Steps p.tables e below (T51.setTop (mkF m 18 #[.val (.int p1), .val (.int (12 : Int32)), .val (.ref a_SELF)] [(.int (12 : Int32)), (.int (0 : Int32))])) _
      refine st52 _ ?_
      show Steps p.tables e below (T52.setTop (mkF m 21 #[.val (.int p1), .val (.int (12 : Int32)), .val (.ref a_SELF)] [(.int (0 : Int32)), (.int (0 : Int32))])) _
      refine XS.icmpNo X52.here hx rfl (hb hby at_21) rfl (teq (by decide : ((0 : Int32) = (0 : Int32)))).2 ?_
      show Steps p.tables e below (T52.setTop (mkF m 24 #[.val (.int p1), .val (.int (12 : Int32)), .val (.ref a_SELF)] [])) _
      refine XT.iconstV X52.here hx rfl (1 : Int32) (hb hby at_24) (by decide) ?_
      show Steps p.tables e below (T52.setTop (mkF m 25 #[.val (.int p1), .val (.int (12 : Int32)), .val (.ref a_SELF)] [(.int (1 : Int32))])) _
      refine XS.goto X52.here hx rfl (pc0 := 25) (pc' := 29) rfl (hb hby at_25) (by decide) (by decide) ?_
      exact k)
    obtain ⟨fs, hr, hrun, hended, hW, hsame⟩ := X52.leave (v := some (.int (1 : Int32))) (fun h => by rw [Bd.returns] at h; cases h)
    refine ⟨_, _, pre53 _ ?_, hrun, hended, _, _, rfl, ?_, ⟨_, rfl⟩, hW, hsame.mono (by decide) (by decide)⟩
    · show Steps p.tables e below (T52.setTop (mkF m 29 #[.val (.int p1), .val (.int (12 : Int32)), .val (.ref a_SELF)] [(.int (1 : Int32))])) _
      exact retOut X52 hx Bd.returns rfl (Or.inl ⟨rfl, by simp, _, rfl⟩) (hb hby at_29) hr
    · show Q0 Z p1  h0 n0 _ T52.heap _
      rw [e52]
      exact ⟨rfl, N52⟩
set_option maxRecDepth 65536 in
set_option maxHeartbeats 40000000 in
theorem comes_1 {Post : Tables → Env → Array Value → State → Outcome → State → Prop} (hpost : ∀ tb e args s v u, (limb_1_1.after args s (.returned v) u = true ∧ limb_1_2.after args s (.returned v) u = true ∧ True) → FrameEnd s (.returned v) u (Jvm.fieldLocs frame_1_writes args s ++ Jvm.arrayLocs frame_1_arrays args s ++ Jvm.staticLocs frame_1_statics s) 0 0 → Post tb e args s (.returned v) u) :
    ArmFor flags0 classFile x code maxLocals ret World_1 tables_1 room_1 Calls_1 rest_1 Pre_1 Post := by
  intro l hfl _ _ p e ha hc hk s m args below hf hA hF happ hP
  obtain ⟨hcalls, hrest, hpre⟩ := hP
  obtain ⟨-, -, -, hnamed, -, -, -, hat⟩ := (Spec.applies_iff hf).mp happ
  obtain ⟨hg, hn⟩ := and_e (Cond.before_iff.mp (show (Jvm.Cond.and given_1 narrow_1).before args s = true from hpre))
  obtain ⟨gc, gr0⟩ := and_e hg
  obtain ⟨w0, rfl⟩ : ∃ w0 : Value, args = #[w0] := by
    have hs : args.size = 1 := by simpa [Cond.value, given_1] using gc
    obtain ⟨L⟩ := args
    match L, hs with
    | [w0], _ => exact ⟨w0, rfl⟩
  have hw := fun d (hd : d ∈ tables_1) => atoms_spec (ws := Jvm.Cond.code x code maxLocals ret :: tables_1) hat d (List.mem_cons_of_mem _ hd)
  have hfit : Fit s := fun {y c} hc i hi => by
    obtain ⟨ha, rfl⟩ := Array.getElem?_eq_some_iff.mp hc
    have q := List.all_eq_true.mp ((Array.all_eq_true_iff_forall_mem.mp hF) _ (Array.getElem_mem ha)) i (List.mem_range.mpr hi)
    simpa [Array.getElem?_eq_getElem hi] using q
  obtain ⟨i0, ei0⟩ := is_v gr0
  obtain rfl : w0 = (.int i0) := Option.some.inj ei0
  obtain ⟨m0a, m0b⟩ := and_e hn
  obtain ⟨m2a, m2b⟩ := and_e m0b
  obtain ⟨m4a, m4b⟩ := and_e m2b
  obtain ⟨m6a, m6b⟩ := and_e m4b
  obtain ⟨m8a, m8b⟩ := and_e m6b
  obtain ⟨m10a, m10b⟩ := and_e m8b
  obtain ⟨m12a, m12b⟩ := and_e m10b
  obtain ⟨m14a, m14b⟩ := and_e m12b
  obtain ⟨m16a, m16b⟩ := and_e m14b
  obtain ⟨m18a, m18b⟩ := and_e m16b
  obtain ⟨m20a, m20b⟩ := and_e m18b
  obtain ⟨m22a, m22b⟩ := and_e m20b
  obtain ⟨a_ANCESTOR, v_ANCESTOR⟩ := exa_v m0a
  have E_ANCESTOR := Exa.start v_ANCESTOR m0a
  have S_ANCESTOR := Sta.start v_ANCESTOR (Or.inr ⟨(hw _ (List.mem_of_getElem? (i := 6) rfl)), (hw _ (List.mem_of_getElem? (i := 7) rfl))⟩)
  obtain ⟨a_CHILD, v_CHILD⟩ := exa_v m2a
  have E_CHILD := Exa.start v_CHILD m2a
  have S_CHILD := Sta.start v_CHILD (Or.inr ⟨(hw _ (List.mem_of_getElem? (i := 6) rfl)), (hw _ (List.mem_of_getElem? (i := 14) rfl))⟩)
  obtain ⟨a_DESCENDANT, v_DESCENDANT⟩ := exa_v m4a
  have E_DESCENDANT := Exa.start v_DESCENDANT m4a
  have S_DESCENDANT := Sta.start v_DESCENDANT (Or.inr ⟨(hw _ (List.mem_of_getElem? (i := 6) rfl)), (hw _ (List.mem_of_getElem? (i := 16) rfl))⟩)
  obtain ⟨a_ATTRIBUTE, v_ATTRIBUTE⟩ := exa_v m6a
  have E_ATTRIBUTE := Exa.start v_ATTRIBUTE m6a
  have S_ATTRIBUTE := Sta.start v_ATTRIBUTE (Or.inr ⟨(hw _ (List.mem_of_getElem? (i := 6) rfl)), (hw _ (List.mem_of_getElem? (i := 18) rfl))⟩)
  obtain ⟨a_NAMESPACE, v_NAMESPACE⟩ := exa_v m8a
  have E_NAMESPACE := Exa.start v_NAMESPACE m8a
  have S_NAMESPACE := Sta.start v_NAMESPACE (Or.inr ⟨(hw _ (List.mem_of_getElem? (i := 6) rfl)), (hw _ (List.mem_of_getElem? (i := 20) rfl))⟩)
  obtain ⟨a_FOLLOWING, v_FOLLOWING⟩ := exa_v m10a
  have E_FOLLOWING := Exa.start v_FOLLOWING m10a
  have S_FOLLOWING := Sta.start v_FOLLOWING (Or.inr ⟨(hw _ (List.mem_of_getElem? (i := 6) rfl)), (hw _ (List.mem_of_getElem? (i := 27) rfl))⟩)
  obtain ⟨a_DESCENDANT_OR_SELF, v_DESCENDANT_OR_SELF⟩ := exa_v m12a
  have E_DESCENDANT_OR_SELF := Exa.start v_DESCENDANT_OR_SELF m12a
  have S_DESCENDANT_OR_SELF := Sta.start v_DESCENDANT_OR_SELF (Or.inr ⟨(hw _ (List.mem_of_getElem? (i := 6) rfl)), (hw _ (List.mem_of_getElem? (i := 30) rfl))⟩)
  obtain ⟨a_FOLLOWING_SIBLING, v_FOLLOWING_SIBLING⟩ := exa_v m14a
  have E_FOLLOWING_SIBLING := Exa.start v_FOLLOWING_SIBLING m14a
  have S_FOLLOWING_SIBLING := Sta.start v_FOLLOWING_SIBLING (Or.inr ⟨(hw _ (List.mem_of_getElem? (i := 6) rfl)), (hw _ (List.mem_of_getElem? (i := 33) rfl))⟩)
  obtain ⟨a_PARENT, v_PARENT⟩ := exa_v m16a
  have E_PARENT := Exa.start v_PARENT m16a
  have S_PARENT := Sta.start v_PARENT (Or.inr ⟨(hw _ (List.mem_of_getElem? (i := 6) rfl)), (hw _ (List.mem_of_getElem? (i := 36) rfl))⟩)
  obtain ⟨a_PRECEDING_SIBLING, v_PRECEDING_SIBLING⟩ := exa_v m18a
  have E_PRECEDING_SIBLING := Exa.start v_PRECEDING_SIBLING m18a
  have S_PRECEDING_SIBLING := Sta.start v_PRECEDING_SIBLING (Or.inr ⟨(hw _ (List.mem_of_getElem? (i := 6) rfl)), (hw _ (List.mem_of_getElem? (i := 41) rfl))⟩)
  obtain ⟨a_ANCESTOR_OR_SELF, v_ANCESTOR_OR_SELF⟩ := exa_v m20a
  have E_ANCESTOR_OR_SELF := Exa.start v_ANCESTOR_OR_SELF m20a
  have S_ANCESTOR_OR_SELF := Sta.start v_ANCESTOR_OR_SELF (Or.inr ⟨(hw _ (List.mem_of_getElem? (i := 6) rfl)), (hw _ (List.mem_of_getElem? (i := 44) rfl))⟩)
  obtain ⟨a_PRECEDING, v_PRECEDING⟩ := exa_v m22a
  have E_PRECEDING := Exa.start v_PRECEDING m22a
  have S_PRECEDING := Sta.start v_PRECEDING (Or.inr ⟨(hw _ (List.mem_of_getElem? (i := 6) rfl)), (hw _ (List.mem_of_getElem? (i := 49) rfl))⟩)
  obtain ⟨a_SELF, v_SELF⟩ := exa_v m22b
  have E_SELF := Exa.start v_SELF m22b
  have S_SELF := Sta.start v_SELF (Or.inr ⟨(hw _ (List.mem_of_getElem? (i := 6) rfl)), (hw _ (List.mem_of_getElem? (i := 52) rfl))⟩)
  obtain ⟨n, o, h1, h2, h3, _, L, rfl, ⟨rfl, N⟩, hq⟩ := rm0 l s _ hw tables_1 i0 s.heap s.heap.size (Nat.le_refl _) a_ANCESTOR S_ANCESTOR a_CHILD S_CHILD a_DESCENDANT S_DESCENDANT a_ATTRIBUTE S_ATTRIBUTE a_NAMESPACE S_NAMESPACE a_FOLLOWING S_FOLLOWING a_DESCENDANT_OR_SELF S_DESCENDANT_OR_SELF a_FOLLOWING_SIBLING S_FOLLOWING_SIBLING a_PARENT S_PARENT a_PRECEDING_SIBLING S_PRECEDING_SIBLING a_ANCESTOR_OR_SELF S_ANCESTOR_OR_SELF a_PRECEDING S_PRECEDING a_SELF S_SELF E_ANCESTOR E_CHILD E_DESCENDANT E_ATTRIBUTE E_NAMESPACE E_FOLLOWING E_DESCENDANT_OR_SELF E_FOLLOWING_SIBLING E_PARENT E_PRECEDING_SIBLING E_ANCESTOR_OR_SELF E_PRECEDING E_SELF p e ha hc hk s m _ below hf ((Spec.applies_iff_loose hf).mp happ).1 ⟨rfl, State.Warmed39.refl s, rfl⟩ trivial
  exact ⟨n, _, h1, h2, h3, hpost _ _ _ _ _ _ ⟨Cond.after_iff.mpr rfl, Cond.after_iff.mpr (eq_i res_at (Term.int_eval (1)) rfl), trivial⟩ ⟨hq.1, hq.2.1, (hq.2.2.sift fun y hy => Or.inr (N y hy)).mono (by decide) (by decide)⟩⟩
theorem main_1_1 : Claimed_1_1 := comes_1 fun _ _ _ _ _ _ h hF => ⟨h.1, hF⟩
theorem main_1_2 : Claimed_1_2 := comes_1 fun _ _ _ _ _ _ h hF => ⟨h.2.1, hF⟩
end Jvm.Pilot.@@N@@
namespace Jvm.Pilot.@@N@@
open Jvm Jvm.ClassFile Sem Op Lib Jvm.Free Jvm.Stand Jvm.Pilot.@@N@@.Jvm.D
/-! MADE BY PROGRAM (witnessworld.py) out of the Statement's table words and the real class files: 23 classes; the members and pool entries that the words name. The judged class is class 1, her method 1. -/
namespace start1
open Jvm.ClassFile
def u (s : String) : CpInfo := .utf8 (stringToUtf16 s)
/-- a pool by its gaps: so many unusable entries, then the entry; so many at the end -/
def gap : Nat → List CpInfo → List CpInfo
  | 0, r => r
  | n + 1, r => .unusable :: gap n r
def poolList (es : List (Nat × CpInfo)) (last : Nat) : List CpInfo := es.foldr (fun e r => gap e.1 (e.2 :: r)) (gap last [])
def pool (es : List (Nat × CpInfo)) (last : Nat) : Array CpInfo := ⟨poolList es last⟩
def fileOf (pool : Array CpInfo) (this : Nat) (attrs : Array Attribute := #[]) (ms : Array MethodInfo := #[]) (fl : Nat := 33) (sup : Nat := 0) (ifs : Array Nat := #[]) (fds : Array FieldInfo := #[]) : ClassFile where
  minorVersion := 0
  majorVersion := 65
  constantPool := pool
  accessFlags := fl
  thisClass := this
  superClass := sup
  interfaces := ifs
  fields := fds
  methods := ms
  attributes := attrs
def plain (name : String) (sup : Option ClassId) : Class where
  name := name
  kind := .ordinary
  loader := none
  accessFlags := 33
  super := sup
  interfaces := #[]
  cf := none
  fields := #[]
  methods := #[]
  instanceTypes := #[]
  staticTypes := #[]
  resolved := #[]
  callSites := []
  init := .initialized
  statics := none
  mirror := none

def pool0 : Array CpInfo := pool [(5, u "<init>"), (0, u "()V"), (1, .class_ 10), (1, u "java/lang/Object")] 113

def k0m0 : Method := { name := "<init>", desc := "()V", sig := { parameters := [], returnType := none }, accessFlags := 1, code := none }
/-- java/lang/Object -/
def k0 : Class := { plain "java/lang/Object" none with
  accessFlags := 33
  interfaces := #[]
  cf := some (fileOf pool0 8 #[] #[{ accessFlags := 1, nameIndex := 5, descriptorIndex := 6, attributes := #[] }] 33 0 #[] #[])
  fields := #[]
  methods := #[k0m0]
  instanceTypes := #[]
  staticTypes := #[]
  resolved := Array.replicate 124 none
  statics := none }

def pool1 : Array CpInfo := pool [(2, .class_ 4), (1, u "java/lang/Object"), (0, u "<init>"), (0, u "()V"), (0, .integer 2147483647), (0, .methodref 9 10), (0, .class_ 11), (0, .nameAndType 12 13), (0, u "org/beanpath/expr/AxisIsEmptyFromTextPinLaw"), (0, u "axisAt"), (0, u "(I)Lorg/beanpath/expr/Axis;"), (0, .methodref 15 16), (0, .class_ 17), (0, .nameAndType 18 19), (0, u "org/beanpath/expr/Axis"), (0, u "isEmptyFromText"), (0, u "()Z"), (0, .methodref 9 21), (0, .nameAndType 22 23), (0, u "leadsNowhereFromText"), (0, u "(I)Z"), (0, .fieldref 15 25), (0, .nameAndType 26 27), (0, u "ANCESTOR"), (0, u "Lorg/beanpath/expr/Axis;"), (0, .fieldref 15 29), (0, .nameAndType 30 27), (0, u "ANCESTOR_OR_SELF"), (0, .fieldref 15 32), (0, .nameAndType 33 27), (0, u "ATTRIBUTE"), (0, .fieldref 15 35), (0, .nameAndType 36 27), (0, u "CHILD"), (0, .fieldref 15 38), (0, .nameAndType 39 27), (0, u "DESCENDANT"), (0, .fieldref 15 41), (0, .nameAndType 42 27), (0, u "DESCENDANT_OR_SELF"), (0, .fieldref 15 44), (0, .nameAndType 45 27), (0, u "FOLLOWING"), (0, .fieldref 15 47), (0, .nameAndType 48 27), (0, u "FOLLOWING_SIBLING"), (0, .fieldref 15 50), (0, .nameAndType 51 27), (0, u "NAMESPACE"), (0, .fieldref 15 53), (0, .nameAndType 54 27), (0, u "PARENT"), (0, .fieldref 15 56), (0, .nameAndType 57 27), (0, u "PRECEDING"), (0, .fieldref 15 59), (0, .nameAndType 60 27), (0, u "PRECEDING_SIBLING"), (0, .fieldref 15 62), (0, .nameAndType 63 27), (0, u "SELF"), (2, u "law")] 3

def k1m0 : Method := { name := "<init>", desc := "()V", sig := { parameters := [], returnType := none }, accessFlags := 1, code := none }
def k1c1 : Code := { maxStack := 2, maxLocals := 3, code := code, exceptionTable := #[], attributes := #[] }
def k1m1 : Method := { name := "law", desc := "(I)Z", sig := { parameters := [.int], returnType := some .boolean }, accessFlags := 9, code := some k1c1 }
def k1c2 : Code := { maxStack := 2, maxLocals := 1, code := method_3_code, exceptionTable := #[], attributes := #[] }
def k1m2 : Method := { name := "axisAt", desc := "(I)Lorg/beanpath/expr/Axis;", sig := { parameters := [.int], returnType := some (.object "org/beanpath/expr/Axis") }, accessFlags := 10, code := some k1c2 }
def k1c3 : Code := { maxStack := 2, maxLocals := 1, code := method_4_code, exceptionTable := #[], attributes := #[] }
def k1m3 : Method := { name := "leadsNowhereFromText", desc := "(I)Z", sig := { parameters := [.int], returnType := some .boolean }, accessFlags := 10, code := some k1c3 }
/-- org/beanpath/expr/AxisIsEmptyFromTextPinLaw -/
def k1 : Class := { plain "org/beanpath/expr/AxisIsEmptyFromTextPinLaw" (some 0) with
  accessFlags := 49
  interfaces := #[]
  cf := some (fileOf pool1 9 #[] #[{ accessFlags := 1, nameIndex := 5, descriptorIndex := 6, attributes := #[] }, { accessFlags := 9, nameIndex := 66, descriptorIndex := 23, attributes := #[] }, { accessFlags := 10, nameIndex := 12, descriptorIndex := 13, attributes := #[] }, { accessFlags := 10, nameIndex := 22, descriptorIndex := 23, attributes := #[] }] 49 2 #[] #[])
  fields := #[]
  methods := #[k1m0, k1m1, k1m2, k1m3]
  instanceTypes := #[]
  staticTypes := #[]
  resolved := Array.replicate 70 none
  statics := none }

def pool2 : Array CpInfo := pool [(1, .class_ 2), (0, u "java/lang/constant/Constable"), (0, .class_ 4), (0, u "java/lang/Object")] 6

/-- java/lang/constant/Constable -/
def k2 : Class := { plain "java/lang/constant/Constable" (some 0) with
  accessFlags := 1537
  interfaces := #[]
  cf := some (fileOf pool2 1 #[] #[] 1537 3 #[] #[])
  fields := #[]
  methods := #[]
  instanceTypes := #[]
  staticTypes := #[]
  resolved := Array.replicate 11 none
  statics := none }

def pool3 : Array CpInfo := pool [(1, .class_ 2), (0, u "java/lang/Comparable"), (0, .class_ 4), (0, u "java/lang/Object")] 7

/-- java/lang/Comparable -/
def k3 : Class := { plain "java/lang/Comparable" (some 0) with
  accessFlags := 1537
  interfaces := #[]
  cf := some (fileOf pool3 1 #[] #[] 1537 3 #[] #[])
  fields := #[]
  methods := #[]
  instanceTypes := #[]
  staticTypes := #[]
  resolved := Array.replicate 12 none
  statics := none }

def pool4 : Array CpInfo := pool [(1, .class_ 2), (0, u "java/io/Serializable"), (0, .class_ 4), (0, u "java/lang/Object")] 2

/-- java/io/Serializable -/
def k4 : Class := { plain "java/io/Serializable" (some 0) with
  accessFlags := 1537
  interfaces := #[]
  cf := some (fileOf pool4 1 #[] #[] 1537 3 #[] #[])
  fields := #[]
  methods := #[]
  instanceTypes := #[]
  staticTypes := #[]
  resolved := Array.replicate 7 none
  statics := none }

def pool5 : Array CpInfo := pool [(2, .class_ 4), (1, u "java/lang/Enum"), (0, u "name"), (0, u "Ljava/lang/String;"), (2, u "ordinal"), (0, u "I"), (1, .class_ 14), (1, u "java/lang/Object"), (4, u "hash"), (86, .class_ 108), (1, u "java/lang/Enum$EnumDesc"), (2, .class_ 112), (0, u "java/lang/constant/Constable"), (0, .class_ 114), (0, u "java/lang/Comparable"), (0, .class_ 116), (0, u "java/io/Serializable")] 87

/-- java/lang/Enum -/
def k5 : Class := { plain "java/lang/Enum" (some 0) with
  accessFlags := 1057
  interfaces := #[2, 3, 4]
  cf := some (fileOf pool5 2 #[.nestMembers #[106]] #[] 1057 12 #[111, 113, 115] #[{ accessFlags := 18, nameIndex := 5, descriptorIndex := 6, attributes := #[] }, { accessFlags := 18, nameIndex := 9, descriptorIndex := 10, attributes := #[] }, { accessFlags := 2, nameIndex := 19, descriptorIndex := 10, attributes := #[] }])
  fields := #[{ name := "name", type := (.object "java/lang/String"), accessFlags := 18, slot := 0, constantValue := 0 }, { name := "ordinal", type := .int, accessFlags := 18, slot := 1, constantValue := 0 }, { name := "hash", type := .int, accessFlags := 2, slot := 2, constantValue := 0 }]
  methods := #[]
  instanceTypes := #[(.object "java/lang/String"), .int, .int]
  staticTypes := #[]
  resolved := Array.replicate 204 none
  statics := none }

def pool6 : Array CpInfo := pool [(1, .class_ 2), (0, u "org/beanpath/expr/Axis"), (2, u "ANCESTOR"), (0, u "Lorg/beanpath/expr/Axis;"), (2, u "ANCESTOR_OR_SELF"), (0, .fieldref 1 11), (0, .nameAndType 12 6), (0, u "ATTRIBUTE"), (0, .fieldref 1 14), (0, .nameAndType 15 6), (0, u "CHILD"), (0, .fieldref 1 17), (0, .nameAndType 18 6), (0, u "DESCENDANT"), (2, u "DESCENDANT_OR_SELF"), (2, u "FOLLOWING"), (2, u "FOLLOWING_SIBLING"), (0, .fieldref 1 29), (0, .nameAndType 30 6), (0, u "NAMESPACE"), (2, u "PARENT"), (2, u "PRECEDING"), (2, u "PRECEDING_SIBLING"), (2, u "SELF"), (2, u "$VALUES"), (0, u "[Lorg/beanpath/expr/Axis;"), (6, .class_ 55), (1, u "java/lang/Enum"), (8, u "axisName"), (0, u "Ljava/lang/String;"), (2, u "merge"), (0, u "Lorg/beanpath/expr/Axis$Merge;"), (2, u "reverse"), (0, u "Z"), (21, .class_ 97), (1, u "org/beanpath/expr/Axis$Merge"), (49, u "()Z"), (65, .class_ 214), (0, u "org/beanpath/expr/Axis$1"), (6, .class_ 222), (0, u "org/beanpath/expr/Axis$2"), (4, .class_ 228), (0, u "org/beanpath/expr/Axis$3"), (4, .class_ 234), (0, u "org/beanpath/expr/Axis$4"), (4, .class_ 240), (0, u "org/beanpath/expr/Axis$5"), (7, .class_ 249), (0, u "org/beanpath/expr/Axis$6"), (4, .class_ 255), (0, u "org/beanpath/expr/Axis$7"), (4, .class_ 261), (0, u "org/beanpath/expr/Axis$8"), (4, .class_ 267), (0, u "org/beanpath/expr/Axis$9"), (4, .class_ 273), (0, u "org/beanpath/expr/Axis$10"), (3, .class_ 278), (0, u "org/beanpath/expr/Axis$11"), (4, .class_ 284), (0, u "org/beanpath/expr/Axis$12"), (4, .class_ 290), (0, u "org/beanpath/expr/Axis$13"), (21, u "isEmptyFromText"), (14, .class_ 328), (0, u "org/beanpath/expr/Axis$Counter")] 25

def k6c0 : Code := { maxStack := 2, maxLocals := 1, code := prog_14_method_11_code, exceptionTable := #[], attributes := #[] }
def k6m0 : Method := { name := "isEmptyFromText", desc := "()Z", sig := { parameters := [], returnType := some .boolean }, accessFlags := 0, code := some k6c0 }
/-- org/beanpath/expr/Axis -/
def k6 : Class := { plain "org/beanpath/expr/Axis" (some 5) with
  accessFlags := 17440
  interfaces := #[]
  cf := some (fileOf pool6 1 #[.nestMembers #[327, 95, 289, 283, 277, 272, 266, 260, 254, 248, 239, 233, 227, 221, 213]] #[{ accessFlags := 0, nameIndex := 312, descriptorIndex := 147, attributes := #[] }] 17440 53 #[] #[{ accessFlags := 16409, nameIndex := 5, descriptorIndex := 6, attributes := #[] }, { accessFlags := 16409, nameIndex := 9, descriptorIndex := 6, attributes := #[] }, { accessFlags := 16409, nameIndex := 12, descriptorIndex := 6, attributes := #[] }, { accessFlags := 16409, nameIndex := 15, descriptorIndex := 6, attributes := #[] }, { accessFlags := 16409, nameIndex := 18, descriptorIndex := 6, attributes := #[] }, { accessFlags := 16409, nameIndex := 21, descriptorIndex := 6, attributes := #[] }, { accessFlags := 16409, nameIndex := 24, descriptorIndex := 6, attributes := #[] }, { accessFlags := 16409, nameIndex := 27, descriptorIndex := 6, attributes := #[] }, { accessFlags := 16409, nameIndex := 30, descriptorIndex := 6, attributes := #[] }, { accessFlags := 16409, nameIndex := 33, descriptorIndex := 6, attributes := #[] }, { accessFlags := 16409, nameIndex := 36, descriptorIndex := 6, attributes := #[] }, { accessFlags := 16409, nameIndex := 39, descriptorIndex := 6, attributes := #[] }, { accessFlags := 16409, nameIndex := 42, descriptorIndex := 6, attributes := #[] }, { accessFlags := 18, nameIndex := 64, descriptorIndex := 65, attributes := #[] }, { accessFlags := 18, nameIndex := 68, descriptorIndex := 69, attributes := #[] }, { accessFlags := 18, nameIndex := 72, descriptorIndex := 73, attributes := #[] }, { accessFlags := 4122, nameIndex := 45, descriptorIndex := 46, attributes := #[] }])
  fields := #[{ name := "ANCESTOR", type := (.object "org/beanpath/expr/Axis"), accessFlags := 16409, slot := 0, constantValue := 0 }, { name := "ANCESTOR_OR_SELF", type := (.object "org/beanpath/expr/Axis"), accessFlags := 16409, slot := 1, constantValue := 0 }, { name := "ATTRIBUTE", type := (.object "org/beanpath/expr/Axis"), accessFlags := 16409, slot := 2, constantValue := 0 }, { name := "CHILD", type := (.object "org/beanpath/expr/Axis"), accessFlags := 16409, slot := 3, constantValue := 0 }, { name := "DESCENDANT", type := (.object "org/beanpath/expr/Axis"), accessFlags := 16409, slot := 4, constantValue := 0 }, { name := "DESCENDANT_OR_SELF", type := (.object "org/beanpath/expr/Axis"), accessFlags := 16409, slot := 5, constantValue := 0 }, { name := "FOLLOWING", type := (.object "org/beanpath/expr/Axis"), accessFlags := 16409, slot := 6, constantValue := 0 }, { name := "FOLLOWING_SIBLING", type := (.object "org/beanpath/expr/Axis"), accessFlags := 16409, slot := 7, constantValue := 0 }, { name := "NAMESPACE", type := (.object "org/beanpath/expr/Axis"), accessFlags := 16409, slot := 8, constantValue := 0 }, { name := "PARENT", type := (.object "org/beanpath/expr/Axis"), accessFlags := 16409, slot := 9, constantValue := 0 }, { name := "PRECEDING", type := (.object "org/beanpath/expr/Axis"), accessFlags := 16409, slot := 10, constantValue := 0 }, { name := "PRECEDING_SIBLING", type := (.object "org/beanpath/expr/Axis"), accessFlags := 16409, slot := 11, constantValue := 0 }, { name := "SELF", type := (.object "org/beanpath/expr/Axis"), accessFlags := 16409, slot := 12, constantValue := 0 }, { name := "axisName", type := (.object "java/lang/String"), accessFlags := 18, slot := 3, constantValue := 0 }, { name := "merge", type := (.object "org/beanpath/expr/Axis$Merge"), accessFlags := 18, slot := 4, constantValue := 0 }, { name := "reverse", type := .boolean, accessFlags := 18, slot := 5, constantValue := 0 }, { name := "$VALUES", type := (.array (.object "org/beanpath/expr/Axis")), accessFlags := 4122, slot := 13, constantValue := 0 }]
  methods := #[k6m0]
  instanceTypes := #[(.object "java/lang/String"), .int, .int, (.object "java/lang/String"), (.object "org/beanpath/expr/Axis$Merge"), .boolean]
  staticTypes := #[(.object "org/beanpath/expr/Axis"), (.object "org/beanpath/expr/Axis"), (.object "org/beanpath/expr/Axis"), (.object "org/beanpath/expr/Axis"), (.object "org/beanpath/expr/Axis"), (.object "org/beanpath/expr/Axis"), (.object "org/beanpath/expr/Axis"), (.object "org/beanpath/expr/Axis"), (.object "org/beanpath/expr/Axis"), (.object "org/beanpath/expr/Axis"), (.object "org/beanpath/expr/Axis"), (.object "org/beanpath/expr/Axis"), (.object "org/beanpath/expr/Axis"), (.array (.object "org/beanpath/expr/Axis"))]
  resolved := Array.replicate 354 none
  statics := some 0 }

def pool7 : Array CpInfo := pool [(2, .class_ 4), (1, u "org/beanpath/expr/Axis"), (12, .class_ 18), (0, u "org/beanpath/expr/Axis$1")] 14

/-- org/beanpath/expr/Axis$1 -/
def k7 : Class := { plain "org/beanpath/expr/Axis$1" (some 6) with
  accessFlags := 16432
  interfaces := #[]
  cf := some (fileOf pool7 17 #[.nestHost 2] #[] 16432 2 #[] #[])
  fields := #[]
  methods := #[]
  instanceTypes := #[(.object "java/lang/String"), .int, .int, (.object "java/lang/String"), (.object "org/beanpath/expr/Axis$Merge"), .boolean]
  staticTypes := #[]
  resolved := Array.replicate 33 none
  statics := none }

def pool8 : Array CpInfo := pool [(2, .class_ 4), (1, u "org/beanpath/expr/Axis"), (28, .class_ 34), (0, u "org/beanpath/expr/Axis$4")] 18

/-- org/beanpath/expr/Axis$4 -/
def k8 : Class := { plain "org/beanpath/expr/Axis$4" (some 6) with
  accessFlags := 16432
  interfaces := #[]
  cf := some (fileOf pool8 33 #[.nestHost 2] #[] 16432 2 #[] #[])
  fields := #[]
  methods := #[]
  instanceTypes := #[(.object "java/lang/String"), .int, .int, (.object "java/lang/String"), (.object "org/beanpath/expr/Axis$Merge"), .boolean]
  staticTypes := #[]
  resolved := Array.replicate 53 none
  statics := none }

def pool9 : Array CpInfo := pool [(2, .class_ 4), (1, u "org/beanpath/expr/Axis"), (53, .class_ 59), (0, u "org/beanpath/expr/Axis$7")] 17

/-- org/beanpath/expr/Axis$7 -/
def k9 : Class := { plain "org/beanpath/expr/Axis$7" (some 6) with
  accessFlags := 16432
  interfaces := #[]
  cf := some (fileOf pool9 58 #[.nestHost 2] #[] 16432 2 #[] #[])
  fields := #[]
  methods := #[]
  instanceTypes := #[(.object "java/lang/String"), .int, .int, (.object "java/lang/String"), (.object "org/beanpath/expr/Axis$Merge"), .boolean]
  staticTypes := #[]
  resolved := Array.replicate 77 none
  statics := none }

def pool10 : Array CpInfo := pool [(2, .class_ 4), (1, u "org/beanpath/expr/Axis"), (11, .class_ 17), (0, u "org/beanpath/expr/Axis$6")] 15

/-- org/beanpath/expr/Axis$6 -/
def k10 : Class := { plain "org/beanpath/expr/Axis$6" (some 6) with
  accessFlags := 16432
  interfaces := #[]
  cf := some (fileOf pool10 16 #[.nestHost 2] #[] 16432 2 #[] #[])
  fields := #[]
  methods := #[]
  instanceTypes := #[(.object "java/lang/String"), .int, .int, (.object "java/lang/String"), (.object "org/beanpath/expr/Axis$Merge"), .boolean]
  staticTypes := #[]
  resolved := Array.replicate 33 none
  statics := none }

def pool11 : Array CpInfo := pool [(2, .class_ 4), (1, u "org/beanpath/expr/Axis"), (12, .class_ 18), (0, u "org/beanpath/expr/Axis$8")] 15

/-- org/beanpath/expr/Axis$8 -/
def k11 : Class := { plain "org/beanpath/expr/Axis$8" (some 6) with
  accessFlags := 16432
  interfaces := #[]
  cf := some (fileOf pool11 17 #[.nestHost 2] #[] 16432 2 #[] #[])
  fields := #[]
  methods := #[]
  instanceTypes := #[(.object "java/lang/String"), .int, .int, (.object "java/lang/String"), (.object "org/beanpath/expr/Axis$Merge"), .boolean]
  staticTypes := #[]
  resolved := Array.replicate 34 none
  statics := none }

def pool12 : Array CpInfo := pool [(2, .class_ 4), (1, u "org/beanpath/expr/Axis"), (17, .class_ 23), (0, u "org/beanpath/expr/Axis$10")] 18

/-- org/beanpath/expr/Axis$10 -/
def k12 : Class := { plain "org/beanpath/expr/Axis$10" (some 6) with
  accessFlags := 16432
  interfaces := #[]
  cf := some (fileOf pool12 22 #[.nestHost 2] #[] 16432 2 #[] #[])
  fields := #[]
  methods := #[]
  instanceTypes := #[(.object "java/lang/String"), .int, .int, (.object "java/lang/String"), (.object "org/beanpath/expr/Axis$Merge"), .boolean]
  staticTypes := #[]
  resolved := Array.replicate 42 none
  statics := none }

def pool13 : Array CpInfo := pool [(2, .class_ 4), (1, u "org/beanpath/expr/Axis"), (12, .class_ 18), (0, u "org/beanpath/expr/Axis$3")] 15

/-- org/beanpath/expr/Axis$3 -/
def k13 : Class := { plain "org/beanpath/expr/Axis$3" (some 6) with
  accessFlags := 16432
  interfaces := #[]
  cf := some (fileOf pool13 17 #[.nestHost 2] #[] 16432 2 #[] #[])
  fields := #[]
  methods := #[]
  instanceTypes := #[(.object "java/lang/String"), .int, .int, (.object "java/lang/String"), (.object "org/beanpath/expr/Axis$Merge"), .boolean]
  staticTypes := #[]
  resolved := Array.replicate 34 none
  statics := none }

def pool14 : Array CpInfo := pool [(2, .class_ 4), (1, u "org/beanpath/expr/Axis"), (12, .class_ 18), (0, u "org/beanpath/expr/Axis$12")] 15

/-- org/beanpath/expr/Axis$12 -/
def k14 : Class := { plain "org/beanpath/expr/Axis$12" (some 6) with
  accessFlags := 16432
  interfaces := #[]
  cf := some (fileOf pool14 17 #[.nestHost 2] #[] 16432 2 #[] #[])
  fields := #[]
  methods := #[]
  instanceTypes := #[(.object "java/lang/String"), .int, .int, (.object "java/lang/String"), (.object "org/beanpath/expr/Axis$Merge"), .boolean]
  staticTypes := #[]
  resolved := Array.replicate 34 none
  statics := none }

def pool15 : Array CpInfo := pool [(2, .class_ 4), (1, u "org/beanpath/expr/Axis"), (6, .class_ 12), (0, u "org/beanpath/expr/Axis$2")] 14

/-- org/beanpath/expr/Axis$2 -/
def k15 : Class := { plain "org/beanpath/expr/Axis$2" (some 6) with
  accessFlags := 16432
  interfaces := #[]
  cf := some (fileOf pool15 11 #[.nestHost 2] #[] 16432 2 #[] #[])
  fields := #[]
  methods := #[]
  instanceTypes := #[(.object "java/lang/String"), .int, .int, (.object "java/lang/String"), (.object "org/beanpath/expr/Axis$Merge"), .boolean]
  staticTypes := #[]
  resolved := Array.replicate 27 none
  statics := none }

def pool16 : Array CpInfo := pool [(2, .class_ 4), (1, u "org/beanpath/expr/Axis"), (12, .class_ 18), (0, u "org/beanpath/expr/Axis$9")] 15

/-- org/beanpath/expr/Axis$9 -/
def k16 : Class := { plain "org/beanpath/expr/Axis$9" (some 6) with
  accessFlags := 16432
  interfaces := #[]
  cf := some (fileOf pool16 17 #[.nestHost 2] #[] 16432 2 #[] #[])
  fields := #[]
  methods := #[]
  instanceTypes := #[(.object "java/lang/String"), .int, .int, (.object "java/lang/String"), (.object "org/beanpath/expr/Axis$Merge"), .boolean]
  staticTypes := #[]
  resolved := Array.replicate 34 none
  statics := none }

def pool17 : Array CpInfo := pool [(2, .class_ 4), (1, u "org/beanpath/expr/Axis"), (47, .class_ 53), (0, u "org/beanpath/expr/Axis$11")] 16

/-- org/beanpath/expr/Axis$11 -/
def k17 : Class := { plain "org/beanpath/expr/Axis$11" (some 6) with
  accessFlags := 16432
  interfaces := #[]
  cf := some (fileOf pool17 52 #[.nestHost 2] #[] 16432 2 #[] #[])
  fields := #[]
  methods := #[]
  instanceTypes := #[(.object "java/lang/String"), .int, .int, (.object "java/lang/String"), (.object "org/beanpath/expr/Axis$Merge"), .boolean]
  staticTypes := #[]
  resolved := Array.replicate 70 none
  statics := none }

def pool18 : Array CpInfo := pool [(2, .class_ 4), (1, u "org/beanpath/expr/Axis"), (11, .class_ 17), (0, u "org/beanpath/expr/Axis$13")] 15

/-- org/beanpath/expr/Axis$13 -/
def k18 : Class := { plain "org/beanpath/expr/Axis$13" (some 6) with
  accessFlags := 16432
  interfaces := #[]
  cf := some (fileOf pool18 16 #[.nestHost 2] #[] 16432 2 #[] #[])
  fields := #[]
  methods := #[]
  instanceTypes := #[(.object "java/lang/String"), .int, .int, (.object "java/lang/String"), (.object "org/beanpath/expr/Axis$Merge"), .boolean]
  staticTypes := #[]
  resolved := Array.replicate 33 none
  statics := none }

def pool19 : Array CpInfo := pool [(2, .class_ 4), (1, u "org/beanpath/expr/Axis"), (47, .class_ 53), (0, u "org/beanpath/expr/Axis$5")] 42

/-- org/beanpath/expr/Axis$5 -/
def k19 : Class := { plain "org/beanpath/expr/Axis$5" (some 6) with
  accessFlags := 16432
  interfaces := #[]
  cf := some (fileOf pool19 52 #[.nestHost 2] #[] 16432 2 #[] #[])
  fields := #[]
  methods := #[]
  instanceTypes := #[(.object "java/lang/String"), .int, .int, (.object "java/lang/String"), (.object "org/beanpath/expr/Axis$Merge"), .boolean]
  staticTypes := #[]
  resolved := Array.replicate 96 none
  statics := none }

def pool20 : Array CpInfo := pool [(1, u "java/lang/Cloneable"), (0, .class_ 1), (0, u "java/lang/Object"), (0, .class_ 3)] 3

/-- java/lang/Cloneable -/
def k20 : Class := { plain "java/lang/Cloneable" (some 0) with
  accessFlags := 1537
  interfaces := #[]
  cf := some (fileOf pool20 2 #[] #[] 1537 4 #[] #[])
  fields := #[]
  methods := #[]
  instanceTypes := #[]
  staticTypes := #[]
  resolved := Array.replicate 8 none
  statics := none }

/-- the primitive byte -/
def k21 : Class := { plain "byte" none with kind := .primitive 'B', accessFlags := 0x411 }
/-- [B -/
def k22 : Class := { plain "[B" (some 0) with kind := .array 21 .byte, interfaces := #[20, 4], accessFlags := 1041 }

def heap : Heap := #[{ cls := 6, slots := #[.ref 1, .ref 2, .ref 3, .ref 4, .ref 5, .ref 6, .ref 7, .ref 8, .ref 9, .ref 10, .ref 11, .ref 12, .ref 13, .null], vm := .statics 6 },
  { cls := 7, slots := #[.null, .int 0, .int 0, .null, .null, .int 0], vm := .none },
  { cls := 15, slots := #[.null, .int 1, .int 0, .null, .null, .int 0], vm := .none },
  { cls := 13, slots := #[.null, .int 2, .int 0, .null, .null, .int 0], vm := .none },
  { cls := 8, slots := #[.null, .int 3, .int 0, .null, .null, .int 0], vm := .none },
  { cls := 19, slots := #[.null, .int 4, .int 0, .null, .null, .int 0], vm := .none },
  { cls := 10, slots := #[.null, .int 5, .int 0, .null, .null, .int 0], vm := .none },
  { cls := 9, slots := #[.null, .int 6, .int 0, .null, .null, .int 0], vm := .none },
  { cls := 11, slots := #[.null, .int 7, .int 0, .null, .null, .int 0], vm := .none },
  { cls := 16, slots := #[.null, .int 8, .int 0, .null, .null, .int 0], vm := .none },
  { cls := 12, slots := #[.null, .int 9, .int 0, .null, .null, .int 0], vm := .none },
  { cls := 17, slots := #[.null, .int 10, .int 0, .null, .null, .int 0], vm := .none },
  { cls := 14, slots := #[.null, .int 11, .int 0, .null, .null, .int 0], vm := .none },
  { cls := 18, slots := #[.null, .int 12, .int 0, .null, .null, .int 0], vm := .none }]
def classes : Array Class := #[k0, k1, k2, k3, k4, k5, k6, k7, k8, k9, k10, k11, k12, k13, k14, k15, k16, k17, k18, k19, k20, k21, k22]
def interned : List (Array UInt16 × Addr) := []
def slotsUsed : Nat := 92
def theMethod : MethodId := ⟨1, 1⟩
def args0 : Array Value := #[.int 5]
def aboutOver (below : List Frame) : State where
  vm := { classes := classes, interned := interned.toArray }
  heap := heap
  slotsUsed := slotsUsed
  threads := #[{ frames := .invoking theMethod args0 :: below }]
def below0 : List Frame := [.native { method := ⟨0, 0⟩, args := #[] }]
def about1 : State := aboutOver below0
def p0 : Program := .bare "" "" ""
def e0 : Env := launch0.env 0 0 0
theorem w_frames : about1.frames = Frame.invoking theMethod args0 :: below0 := rfl
set_option maxRecDepth 65536 in
theorem w_args : argsFit about1.vm theMethod args0 = true := by decide +kernel
set_option maxRecDepth 65536 in
theorem w_heap : heapFits about1 = true := by decide +kernel
set_option maxRecDepth 65536 in
theorem w_runnable : about1.curStatus? = some .runnable := by decide +kernel
set_option maxRecDepth 65536 in
theorem w_alone : about1.alone = true := by decide +kernel
set_option maxRecDepth 65536 in
theorem w_named : about1.methodNamed? x = some theMethod := by decide +kernel
set_option maxRecDepth 65536 in
theorem w_hears : about1.hears theMethod below0 = true := by decide +kernel
set_option maxRecDepth 65536 in
theorem w_ripe : about1.ripe theMethod args0 below0 = true := by decide +kernel
theorem w_running : about1.status = .running := rfl
set_option maxRecDepth 65536 in
theorem w_room : about1.hasRoom e0.platform room_1 = true :=
  launch0.hasRoom_least _ room_1 (by decide +kernel) (by decide +kernel) (by decide +kernel) (by decide +kernel) (by decide +kernel) (by decide +kernel)
theorem allAtoms_all (ts : List Jvm.Cond) (a : Array Jvm.Value) (st : Jvm.State) : (allAtoms ts).before a st = ts.all (fun c => c.before a st) := by
  induction ts with
  | nil => rfl
  | cons c t ih =>
    show (Jvm.Cond.and c (allAtoms t)).before a st = _
    rw [Jvm.Cond.before_and, ih, List.all_cons]
def words1 : List Jvm.Cond := Jvm.Cond.code x code maxLocals ret :: tables_1
/-- a 'code' word, met by the world's own term for the bytes: nothing is compared byte by byte -/
theorem code_word {y : MethodName} {bytes : ByteArray} {mx : Nat} {rt : Option FieldType} {a : Array Value} {s : State} {m : MethodId} {meth : Method} {c : Code} (h1 : s.methodNamed? y = some m) (h2 : s.vm.method? m = some meth) (h3 : meth.code = some c) (h4 : c.code = bytes)
    (h5 : (c.maxLocals == mx && c.exceptionTable.isEmpty && decide (c.maxStack ≤ mostOperands) && decide (meth.sig.returnType = rt) && !meth.locks && decide (parseMethodDescriptor y.desc = some meth.sig)) = true) : (Jvm.Cond.code y bytes mx rt).before a s = true := by
  simp only [Bool.and_eq_true, beq_iff_eq, Bool.not_eq_true', decide_eq_true_eq] at h5
  obtain ⟨⟨⟨⟨⟨g1, g2⟩, g3⟩, g4⟩, g5⟩, g6⟩ := h5
  simp [Cond.before, Cond.holds, Cond.value, h1, h2, h3, h4, g1, g2, g3, g4, g5, g6]
def isCode : Jvm.Cond → Bool
  | .code _ _ _ _ => true
  | _ => false
theorem all_split {L : List Jvm.Cond} {P : Jvm.Cond → Bool} (h1 : L.all (fun c => isCode c || P c) = true) (h2 : ∀ c ∈ L.filter isCode, P c = true) : L.all P = true := by
  refine List.all_eq_true.mpr fun c hc => ?_
  have h := List.all_eq_true.mp h1 c hc
  rcases Bool.eq_false_or_eq_true (isCode c) with hi | hi
  · exact h2 c (List.mem_filter.mpr ⟨hc, hi⟩)
  · simpa [hi] using h
set_option maxRecDepth 65536 in
theorem w_c0 : (Jvm.Cond.code x code maxLocals ret).before args0 about1 = true := code_word (m := ⟨1, 1⟩) (meth := k1m1) (c := k1c1) (by decide +kernel) rfl rfl rfl (by decide +kernel)
set_option maxRecDepth 65536 in
theorem w_c1 : (Jvm.Cond.code ({ cls := "org/beanpath/expr/AxisIsEmptyFromTextPinLaw", name := "axisAt", desc := "(I)Lorg/beanpath/expr/Axis;" } : Jvm.MethodName) method_3_code (1 : Nat) (Option.some (Jvm.ClassFile.FieldType.object "org/beanpath/expr/Axis"))).before args0 about1 = true := code_word (m := ⟨1, 2⟩) (meth := k1m2) (c := k1c2) (by decide +kernel) rfl rfl rfl (by decide +kernel)
set_option maxRecDepth 65536 in
theorem w_c2 : (Jvm.Cond.code ({ cls := "org/beanpath/expr/Axis", name := "isEmptyFromText", desc := "()Z" } : Jvm.MethodName) prog_14_method_11_code (1 : Nat) (Option.some Jvm.ClassFile.FieldType.boolean)).before args0 about1 = true := code_word (m := ⟨6, 0⟩) (meth := k6m0) (c := k6c0) (by decide +kernel) rfl rfl rfl (by decide +kernel)
set_option maxRecDepth 65536 in
theorem w_c3 : (Jvm.Cond.code ({ cls := "org/beanpath/expr/AxisIsEmptyFromTextPinLaw", name := "leadsNowhereFromText", desc := "(I)Z" } : Jvm.MethodName) method_4_code (1 : Nat) (Option.some Jvm.ClassFile.FieldType.boolean)).before args0 about1 = true := code_word (m := ⟨1, 3⟩) (meth := k1m3) (c := k1c3) (by decide +kernel) rfl rfl rfl (by decide +kernel)
def codes1 : List Jvm.Cond := [Jvm.Cond.code x code maxLocals ret, Jvm.Cond.code ({ cls := "org/beanpath/expr/AxisIsEmptyFromTextPinLaw", name := "axisAt", desc := "(I)Lorg/beanpath/expr/Axis;" } : Jvm.MethodName) method_3_code (1 : Nat) (Option.some (Jvm.ClassFile.FieldType.object "org/beanpath/expr/Axis")), Jvm.Cond.code ({ cls := "org/beanpath/expr/Axis", name := "isEmptyFromText", desc := "()Z" } : Jvm.MethodName) prog_14_method_11_code (1 : Nat) (Option.some Jvm.ClassFile.FieldType.boolean), Jvm.Cond.code ({ cls := "org/beanpath/expr/AxisIsEmptyFromTextPinLaw", name := "leadsNowhereFromText", desc := "(I)Z" } : Jvm.MethodName) method_4_code (1 : Nat) (Option.some Jvm.ClassFile.FieldType.boolean)]
set_option maxRecDepth 65536 in
theorem codes_eq : words1.filter isCode = codes1 := rfl
theorem w_codes : ∀ c ∈ words1.filter isCode, c.before args0 about1 = true := by
  rw [codes_eq]
  intro c hc
  simp only [codes1, List.mem_cons, List.not_mem_nil, or_false] at hc
  rcases hc with rfl | rfl | rfl | rfl
  · exact w_c0
  · exact w_c1
  · exact w_c2
  · exact w_c3
set_option maxRecDepth 65536 in
theorem w_t1 : (words1.take 24).all (fun c => isCode c || c.before args0 about1) = true := by decide +kernel
set_option maxRecDepth 65536 in
theorem w_t2 : ((words1.drop 24).take 24).all (fun c => isCode c || c.before args0 about1) = true := by decide +kernel
set_option maxRecDepth 65536 in
theorem w_t3 : ((words1.drop 24).drop 24).all (fun c => isCode c || c.before args0 about1) = true := by decide +kernel
theorem w_tables : (allAtoms (Jvm.Cond.code x code maxLocals ret :: tables_1)).before args0 about1 = true := by
  rw [allAtoms_all]
  show words1.all (fun c => c.before args0 about1) = true
  refine all_split ?_ w_codes
  rw [← List.take_append_drop 24 words1, List.all_append, w_t1, ← List.take_append_drop 24 (words1.drop 24), List.all_append, w_t2, w_t3]
  rfl
set_option maxRecDepth 65536 in
theorem w_case : (Jvm.Cond.and given_1 narrow_1).before args0 about1 = true := by decide +kernel
theorem w_applies : (headSpec (Jvm.Cond.code x code maxLocals ret :: tables_1) room_1).applies x e0.platform about1 = true :=
  (Spec.applies_iff w_frames).mpr ⟨w_running, w_runnable, w_alone, w_named, w_hears, w_ripe, w_room, w_tables⟩
theorem atStart : AtStart classFile x code maxLocals ret World_1 tables_1 room_1 Calls_1 rest_1 Pre_1 launch0 p0 e0 about1 theMethod args0 below0 :=
  ⟨lists_1, trivial, launch0.admits_env _ _ _, launch0.least_env, fairChoices_fair.cas, fairChoices_fair.clock, w_frames, w_args, w_heap, w_applies, trivial, trivial, w_case⟩
end start1
theorem witness_1 : WitnessClaimed_1 := ⟨start1.p0, start1.e0, start1.about1, start1.theMethod, start1.args0, start1.below0, start1.atStart⟩
end Jvm.Pilot.@@N@@
